/- FnWriteRead, the law's own walk. -/
import Derived.Test.YtfdlbjibninakaaGreatDoorFrd
import Derived.Test.YtfdlbjibninakaaGreatDoorWz
import Derived.Test.YtfdlbjibninakaaGreatDoorBya
import Derived.Test.YtfdlbjibninakaaGreatDoorSp2
import Derived.Test.YtfdlbjibninakaaGreatDoorLgd
import Derived.Test.YtfdlbjibninakaaGreatDoorImpw
import Derived.Test.YtfdlbjibninakaaGreatDoorEqg
import Derived.Test.YtfdlbjibninakaaGreatDoorMa
import Derived.Test.YtfdlbjibninakaaGreatDoorSr
import Derived.Test.YtfdlbjibninakaaGreatDoorLr2
import Derived.BigGuard
import Derived.Deep.RegionHeld3
set_option linter.unusedVariables false
set_option linter.unusedSimpArgs false
namespace Go.Proofs.YtfdlbjibninakaaGreatDoor
theorem readAll_len {m:Int} (n:Nat):∀(b:List Int),b.length=n → ∀o,(readAll m o b).length≤b.length+1:=by
 induction n using Nat.strongRecOn with
 | _ n ih =>
   intro b hn o
   cases hg:(one m o b).1.going with
   | true =>
     have hl:=one_less hg
     rw [readAll_go hg,List.length_cons]
     have:=ih _ (by omega) (one m o b).2.2 rfl (one m o b).2.1
     omega
   | false=>rw [readAll_stop hg];simp
theorem one_rest {m o:Int} {b:List Int} (hb:Bs b):Bs (one m o b).2.2:=by
 unfold one
 split
 · intro x hx;cases hx
 split
 · exact hb.drop 9
 split
 · exact hb.drop 9
 split
 · intro x hx;cases hx
 · exact (hb.drop 9).drop _
theorem one_sets {m o:Int} {b:List Int} (hb:Bs b):(one m o b).1.x.set.length*6≤b.length:=by
 unfold one
 split
 · unfold cutOff;split<;>exact Nat.zero_le _
 split
 · exact Nat.zero_le _
 split
 · exact Nat.zero_le _
 split
 · unfold cutOff;split<;>exact Nat.zero_le _
 · show (parse (hdOf b) ((b.drop 9).take (hdOf b).ln.toNat)).x.set.length*6≤b.length
   rcases Sh.parse (hdOf b) ((b.drop 9).take (hdOf b).ln.toNat) ((hb.drop 9).take _) with ⟨x,hx,q⟩|⟨f,c,s,hx,-,-⟩
   · rw [hx]
     refine Nat.le_trans q.sl ?_
     rw [List.length_take,List.length_drop]
     omega
   · rw [hx];exact Nat.zero_le _
theorem readAll_sets {m:Int} (n:Nat):∀(b:List Int),b.length=n→Bs b → ∀o,∀r∈readAll m o b,r.x.set.length*6≤b.length:=by
 induction n using Nat.strongRecOn with
 | _ n ih =>
   intro b hn hb o r hr
   have h1:=one_sets (m:=m) (o:=o) hb
   cases hg:(one m o b).1.going with
   | true =>
     have hl:=one_less hg
     rw [readAll_go hg] at hr
     rcases List.mem_cons.1 hr with rfl|hr
     · exact h1
     · have:=ih _ (by omega) _ rfl (one_rest hb) _ r hr
       omega
   | false =>
     rw [readAll_stop hg] at hr
     rcases List.mem_cons.1 hr with rfl|hr
     · exact h1
     · cases hr
theorem readAll_small {m o:Int} {b:List Int} (hb:Bs b) (hl:b.length≤16777215):(readAll m o b).length≤100000000 ∧ ∀r∈readAll m o b,r.x.set.length≤3000000:=
 ⟨by have:=readAll_len (m:=m) _ b rfl o;omega,fun r hr=>by have:=readAll_sets _ b rfl hb o r hr;omega⟩
end Go.Proofs.YtfdlbjibninakaaGreatDoor

namespace Go.Proofs.YtfdlbjibninakaaGreatDoor.Pl
theorem byt_app {l m:List Int} (h1:Byt l) (h2:Byt m):Byt (l++m):=fun x hx=>(List.mem_append.1 hx).elim (h1 x) (h2 x)
theorem byt_nil:Byt []:=fun x hx=>by cases hx
theorem byt_cons {a:Int} {l:List Int} (h:0≤a∧a<256) (h2:Byt l):Byt (a::l):=fun x hx=>by
 rcases List.mem_cons.1 hx with e|e
 · rw [e];exact h
 · exact h2 x e
theorem byt_w32 {v:Int} (h0:0≤v) (h1:v<4294967296):Byt (w32 v):=
 byt_cons (by omega) (byt_cons (by omega) (byt_cons (by omega) (byt_cons (by omega) byt_nil)))
theorem byt_w16 {v:Int} (h0:0≤v) (h1:v<65536):Byt (w16 v):=byt_cons (by omega) (byt_cons (by omega) byt_nil)
theorem byt_wSet {l:List (Int × Int)} (h:∀p∈l,0≤p.1∧p.1<65536∧0≤p.2∧p.2<4294967296):Byt (wSet l):=by
 induction l with
 | nil=>exact byt_nil
 | cons p l ih =>
   obtain ⟨a,b,c,d⟩:=h p (List.mem_cons_self ..)
   exact byt_app (byt_app (byt_w16 a b) (byt_w32 c d)) (ih fun q hq=>h q (List.mem_cons_of_mem _ hq))
section
variable {f : Fr} {pad : List Int} {pd : Bool}
theorem byt_wDep (h:Legal f pad pd):Byt (wDep f):=byt_app (byt_w32 (by have:=h.dep;split<;>omega) (by have:=h.dep;split<;>omega)) (byt_cons (by have:=h.wt;omega) byt_nil)
theorem byt_wPay (h:Legal f pad pd):Byt (wPay f pad pd):=by
 have hpad:Byt pad:=fun x hx=>by rw [h.pz x hx];omega
 have hpr:=h.pr
 have hla:=h.la
 have hl:=h.pl
 unfold wPay
 split
 · refine byt_app ?_ (byt_app ?_ (byt_app ?_ (byt_app h.db ?_)))
   · split
     · exact byt_cons (by omega) byt_nil
     · exact byt_nil
   · split
     · exact byt_w32 (by omega) (by omega)
     · exact byt_nil
   · split
     · exact byt_wDep h
     · exact byt_nil
   · split
     · exact hpad
     · exact byt_nil
 split
 · exact byt_wDep h
 split
 · exact byt_w32 h.co.1 h.co.2
 split
 · exact byt_wSet fun p hp=>⟨(h.set p hp).1,(h.set p hp).2.1,(h.set p hp).2.2.1,(h.set p hp).2.2.2.1⟩
 split
 · exact byt_app (byt_w32 (by omega) (by omega)) (byt_app (byt_w32 h.co.1 h.co.2) h.db)
 split
 · exact byt_w32 h.ic.1 h.ic.2
 split
 · exact byt_app (byt_w32 (by omega) (by omega)) h.db
 · exact h.db
theorem wFl_byte (h:Legal f pad pd):0≤wFl f pd∧wFl f pd<256:=by
 have hfl:=h.fl
 unfold flOk at hfl
 unfold wFl
 by_cases h0:f.ty=0
 · rw [if_pos h0] at hfl
   rw [if_pos (.inl h0),if_neg (by omega:¬(f.ty=1∧f.hp=true))]
   split<;>omega
 rw [if_neg h0] at hfl
 by_cases h1:f.ty=1
 · rw [if_pos h1] at hfl
   rw [if_pos (.inr (.inl h1))]
   split<;>split<;>omega
 rw [if_neg h1] at hfl
 by_cases h5:f.ty=5
 · rw [if_pos (.inl h5)] at hfl
   rw [if_pos (.inr (.inr h5)),if_neg (by omega:¬(f.ty=1∧f.hp=true))]
   split<;>omega
 rw [if_neg (by omega)]
 by_cases h9:f.ty=9
 · rw [if_pos (.inr h9)] at hfl
   omega
 rw [if_neg (by omega)] at hfl
 split at hfl
 · omega
 split at hfl
 · omega
 · exact hfl
theorem byt_wBytes (h:Legal f pad pd):Byt (wBytes f pad pd):=by
 have hln:=wPay_len h
 have hst:=h.st
 have hfl:=wFl_byte h
 refine byt_app (byt_app (byt_cons ?_ (byt_cons ?_ (byt_cons ?_ (byt_cons h.ty (byt_cons hfl byt_nil))))) (byt_w32 (by omega) (by omega))) (byt_wPay h)
 all_goals omega
theorem hdOf_wBytes (h:Legal f pad pd):hdOf (wBytes f pad pd)=⟨f.ty,wFl f pd,(wPay f pad pd).length,f.st⟩:=by
 have hln:=wPay_len h
 have hst:=h.st
 exact hdOf_w _ _ _ _ (by omega) (by omega) hst.1 (by omega) _
theorem nine_le (h:Legal f pad pd):9≤(wBytes f pad pd).length:=by
 unfold wBytes
 rw [List.length_append]
 simp [wHd,w32]
end
theorem byt_wAll:∀{l:List (Fr × List Int × Bool)},(∀z∈l,Legal z.1 z.2.1 z.2.2)→Byt (wAll l)
 | [],_=>byt_nil
 | z::l,h=>byt_app (byt_wBytes (h z (List.mem_cons_self ..))) (byt_wAll fun y hy=>h y (List.mem_cons_of_mem _ hy))
end Go.Proofs.YtfdlbjibninakaaGreatDoor.Pl

namespace Go.Proofs.YtfdlbjibninakaaGreatDoor
set_option maxRecDepth 10000
set_option maxHeartbeats 2000000
open Go.RowKit
theorem hdOf_eq {x:Fr} {pad:List Int} {pd:Bool} (h:Pl.Legal x pad pd):(hdOf (Pl.wBytes x pad pd)).ln=(((Pl.wPay x pad pd).length:Nat):Int)∧(hdOf (Pl.wBytes x pad pd)).fl=Pl.wFl x pd:=by rw [Pl.hdOf_wBytes h];exact ⟨rfl,rfl⟩
def WhlEnd (w:World) (fr:Array Value) (e:Ending) (w':World):Prop:=e = .returned (.agg fr)∧Below w.heap.size w w'
theorem whole_any {w:World} {x:Fr} {dv sv:Value} {pad:List Int} {pd:Bool} {pa:Option Addr} {pc:Nat} (hok:Pl.Legal x pad pd) (hd:RdB w dv x.data) (hs:RdP w sv x.set) (hp:RdB w (.slice pa pad.length pc) pad) :
   Calls Tryz.prog 21 #[.agg (frX x dv sv),.slice pa pad.length pc,.bool pd] w (WhlEnd w (frX (Pl.whole x pad pd) dv sv)):=by
 obtain ⟨da,dc,rfl,-,-⟩:=id hd
 obtain ⟨sa,sc,rfl,-,-⟩:=id hs
 have hby:Hid (∀w',Below w.heap.size w w'→Calls Tryz.prog 17 #[.agg (frX x (.slice da x.data.length dc) (.slice sa x.set.length sc)),.slice pa pad.length pc,.bool pd] w' (RetB w' (Pl.wBytes x pad pd))):=Lib.hid fun w' hb=>bytes_legal hok (hd.below hb) (hs.below hb) (hp.below hb)
 have hhd:=hdOf_eq hok
 have hbs:=Lib.hid (Pl.byt_wBytes hok)
 have h9:=Lib.hid (Pl.nine_le hok)
 obtain ⟨fr,hfe⟩:∃fr,frX x (.slice da x.data.length dc) (.slice sa x.set.length sc)=fr:=⟨_,rfl⟩
 have hsz:fr.size=14:=by rw [←hfe];exact frX_size ..
 have hif:(Tryz.prog.info? 29).map (·.size)=some fr.size:=by rw [hsz];exact infoFs
 have hres:(fr.setIfInBounds 3 (.int .i64 (((Pl.wPay x pad pd).length:Nat):Int))).setIfInBounds 1 (.int .i64 (Pl.wFl x pd))=frX (Pl.whole x pad pd) (.slice da x.data.length dc) (.slice sa x.set.length sc):=by rw [←hfe];rfl
 have h1r:∀u∈(frX (Pl.whole x pad pd) (.slice da x.data.length dc) (.slice sa x.set.length sc)).toList,u.oneCell'=true:=by simp [frX,frameC,Value.oneCell']
 have hrs:(frX (Pl.whole x pad pd) (.slice da x.data.length dc) (.slice sa x.set.length sc)).size=14:=rfl
 have f3:fr[3]? = some (.int .i64 x.ln):=by rw [←hfe];rfl
 have f1:fr[1]? = some (.int .i64 x.fl):=by rw [←hfe];rfl
 rw [hfe] at hby ⊢
 obtain ⟨B,hB⟩:∃B,Pl.wBytes x pad pd=B:=⟨_,rfl⟩
 rw [hB] at hby hbs h9 hhd
 obtain ⟨LN,hLN⟩:∃l:Int,(((Pl.wPay x pad pd).length:Nat):Int)=l:=⟨_,rfl⟩
 obtain ⟨FL,hFL⟩:∃l:Int,Pl.wFl x pd=l:=⟨_,rfl⟩
 rw [hLN,hFL] at hres hhd
 obtain ⟨rr,hrr⟩:∃rr,frX (Pl.whole x pad pd) (.slice da x.data.length dc) (.slice sa x.set.length sc)=rr:=⟨_,rfl⟩
 rw [hrr] at hres h1r hrs ⊢
 have HIF:=Lib.hid hif
 have HSZ:=Lib.hid hsz
 have HRES:=Lib.hid hres
 have H1R:=Lib.hid h1r
 have HRS:=Lib.hid hrs
 have HF3:=Lib.hid f3
 have HF1:=Lib.hid f1
 have HHD:=Lib.hid hhd
 clear hfe hsz hif hres h1r hrs f3 f1 hB hLN hFL hrr hok hd hs hp hhd
 go_enter Tryz.func21,Tryz.ntmps21
 go_wp2_with (first
   | (refine wpList_load_blk rfl 29 _ rfl w.heap.size rfl fr 29 (blk_alloc (blk_new w _)) Tryz.underlying29 HIF.out ?_)
   | (go_at_call 17;go_loud (refine (hby.out _ ((((Kept.refl (· < w.heap.size) w).alloc _).alloc _).below (Nat.le_refl _))).mono ?_);rintro e w1 ⟨r,rfl,b1,o1,f1⟩;obtain ⟨ra,rc,rfl,-,-⟩:=own_shape o1;have hFb:w1.heap[w.heap.size]? = some (.cells fr 29 (0,0)):=blk_below (blk_alloc (blk_new w _)) b1;have hRb:w1.heap[w.heap.size+1]? = some (.cells #[.int .i64 0,.int .i64 0,.int .u32 0,.int .i64 0,.slice none 0 0,.int .u32 0,.int .u32 0,.int .u32 0,.int .u32 0,.bool false,.bool false,.int .u32 0,.int .i64 0,.slice none 0 0] 29 (0,0)):=blk_below (blk_at (w.alloc (.cells fr 29)) _ (by simp)) b1;have B1:=Lib.hid (Below.then ((((Kept.refl (· < w.heap.size) w).alloc _).alloc _).below (Nat.le_refl _)) (Nat.le_refl _) b1))
   | (go_at_call 22;refine (headerS_any ra B.length rc B w1 (rd_of_row o1) hbs.out h9.out).mono ?_;rintro e w2 ⟨rfl,n,rfl⟩;rw [HHD.out.1,HHD.out.2];have c3:w1.cell? ⟨w.heap.size,3,none⟩=some (.int .i64 x.ln):=(blk_cell hFb 3).trans HF3.out;have c1:w1.cell? ⟨w.heap.size,1,none⟩=some (.int .i64 x.fl):=(blk_cell hFb 1).trans HF1.out;have z3:=blk_free hFb 3;have z1:=blk_free hFb 1;have HFB:=Lib.hid hFb;have HRB:=Lib.hid hRb;have HFN:Hid ((((w1.drewN n).setCell ⟨w.heap.size,3,none⟩ (.int .i64 LN)).setCell ⟨w.heap.size,1,none⟩ (.int .i64 FL)).heap[w.heap.size]? = some (.cells rr 29 (0,0))):=Lib.hid (blkEqB (blk_set (blk_set (w:=w1.drewN n) hFb 3 (.int .i64 LN)) 1 (.int .i64 FL)) HRES.out);have HRN:Hid ((((w1.drewN n).setCell ⟨w.heap.size,3,none⟩ (.int .i64 LN)).setCell ⟨w.heap.size,1,none⟩ (.int .i64 FL)).heap[w.heap.size+1]? = some (.cells #[.int .i64 0,.int .i64 0,.int .u32 0,.int .i64 0,.slice none 0 0,.int .u32 0,.int .u32 0,.int .u32 0,.int .u32 0,.bool false,.bool false,.int .u32 0,.int .i64 0,.slice none 0 0] 29 (0,0))):=Lib.hid (blk_set_other (blk_set_other (w:=w1.drewN n) hRb (by simp) _) (by simp) _);clear hFb hRb o1 f1 b1)
   | (refine wpList_load_blk rfl 29 _ rfl w.heap.size rfl rr 29 HFN.out Tryz.underlying29 (by rw [HRS.out];exact infoFs) ?_)
   | (refine wpList_store_blk rfl 29 _ _ rfl (w.heap.size+1) rfl rr _ rfl 29 HRN.out HRS.out (by rw [HRS.out];exact infoFs) H1R.out ?_;intro w3 hb3 hk3))
 refine ret_blk rfl (w.heap.size+1) _ _ rfl hb3 Tryz.underlying29 (by rw [HRS.out];exact infoFs) rfl ⟨rfl,?_⟩
 have hB1:=B1.out
 exact ((Kept.ofBelow ((⟨hB1.os,hB1.tape,hB1.output,hB1.size,hB1.block⟩:Below w.heap.size w (w1.drewN n)).setCell (p:=⟨w.heap.size,3,none⟩) (Nat.le_refl _) (.int .i64 LN) |>.setCell (p:=⟨w.heap.size,1,none⟩) (Nat.le_refl _) (.int .i64 FL))).trans (hk3.mono fun k h _=>by omega)).below (Nat.le_refl _)
end Go.Proofs.YtfdlbjibninakaaGreatDoor

namespace Go.Proofs.YtfdlbjibninakaaGreatDoor
set_option maxRecDepth 10000
set_option maxHeartbeats 1000000
open Go.RowKit
variable {w : World}
theorem padV_rd {pv:Value} {p:Option (List Int)} (h:PadV w pv p):RdB w pv (p.getD []):=by
 cases p with
 | none =>
   obtain rfl:pv = .slice none 0 0:=h
   exact ⟨none,0,rfl,Nat.le_refl _,Nat.zero_le _,fun j x h=>by simp at h⟩
 | some l=>exact h.2.1
theorem PadsR.below {w1:World} {v:Value} {ps:List (Option (List Int))} (h:PadsR w v ps) (hb:Below w.heap.size w w1):PadsR w1 v ps:=by
 obtain ⟨a,c,e,h1,h2,h3⟩:=h
 refine ⟨a,c,e,h1,h2,fun j p hj => ?_⟩
 obtain ⟨b,o,pv,ea,hc,hv⟩:=h3 j p hj
 exact ⟨b,o,pv,ea,cell_below hc hb,padV_below hv hb⟩
def LegalTo (fs:List Fr) (ps:List (Option (List Int))) (k:Nat):Prop := ∀j f,j<k→fs[j]? = some f→Pl.Legal f ((Pl.padAt ps j).getD []) (Pl.padAt ps j).isSome
theorem LegalTo.all {fs:List Fr} {ps:List (Option (List Int))} (h:LegalTo fs ps fs.length):Pl.LegalAll fs ps:=fun k f hk=>h k f (List.getElem?_eq_some_iff.1 hk).1 hk
theorem LegalTo.next {fs:List Fr} {ps:List (Option (List Int))} {k:Nat} {x:Fr} (h:LegalTo fs ps k) (hx:fs[k]? = some x) (hl:Pl.Legal x ((Pl.padAt ps k).getD []) (Pl.padAt ps k).isSome):LegalTo fs ps (k+1):=by
 intro j f hj hf
 rcases Nat.lt_or_ge j k with h1|h1
 · exact h j f h1 hf
 · obtain rfl:j=k:=by omega
   rw [hx] at hf
   cases hf
   exact hl
theorem legalL_any {lv pv:Value} {fs:List Fr} {ps:List (Option (List Int))} (hl:FrsK (· < w.heap.size) w lv fs) (hT:∀x∈fs,FrTy x) (hp:PadsR w pv ps) :
   Calls Tryz.prog 15 #[lv,pv] w (EqAny w ((Pl.LegalAll fs ps∧fs.length≤100)∧ps.length≤fs.length)):=by
 obtain ⟨la,lc,rfl,hlc,hlm,hlf⟩:=hl
 obtain ⟨pa,pc,rfl,hpc,hpm,-⟩:=id hp
 have HLF:=Lib.hid hlf
 have HP:=Lib.hid hp
 have HT:=Lib.hid hT
 clear hlf hp hT
 by_cases h1:100<fs.length
 · have h1i:(100:Int)<fs.length:=by omega
   go_enter Tryz.func15,Tryz.ntmps15
   go_wp2_with fail
   go_ret
   exact .no (Below.refl _ _)
 have h1i:¬(100:Int)<fs.length:=by omega
 have H1:=Lib.hid h1
 clear h1
 by_cases h2:fs.length<ps.length
 · have h2i:(fs.length:Int)<ps.length:=by omega
   go_enter Tryz.func15,Tryz.ntmps15
   go_wp2_with fail
   go_ret
   exact .no (Below.refl _ _)
 have h2i:¬(fs.length:Int)<ps.length:=by omega
 go_enter Tryz.func15,Tryz.ntmps15
 go_wp2_with fail
 have H2:=Lib.hid h2
 clear h2
 go_loopw [21] (fun i wr => ∃k:Nat,k≤fs.length∧i = .int .i64 k∧LegalTo fs ps k∧Below w.heap.size w wr) (fun i _=>fs.length-(intOf i).toNat)
 case atStart=>exact ⟨0,Nat.zero_le _,rfl,(fun j f hj=>absurd hj (Nat.not_lt_zero _)),Below.refl _ _⟩
 case round =>
   obtain ⟨k,hk,rfl,hok,hbel⟩:=hrel
   by_cases hlt:k<fs.length
   · obtain ⟨b,o,dv,sv,rfl,hb,hd,hdK,hs,hsK,hcells⟩:=HLF.out k _ (List.getElem?_eq_getElem hlt)
     obtain ⟨da,dc,rfl,-,-⟩:=id hd
     obtain ⟨sa,sc,rfl,-,-⟩:=id hs
     have hcW:∀i u,(frX fs[k] (.slice da fs[k].data.length dc) (.slice sa fs[k].set.length sc))[i]? = some u→wr.cell? ⟨b,o+k*14+i,none⟩=some u:=fun i u hu=>by rw [Nat.add_assoc];exact cell_below (hcells i u hu) hbel
     have hnext:=fun h=>hok.next (List.getElem?_eq_getElem hlt) h
     have ht:=HT.out _ (List.getElem_mem hlt)
     have hpad:=fun (w':World) (hb':Below wr.heap.size wr w')=>padding_any (HP.out.below (Below.then hbel (Nat.le_refl _) hb')) k
     generalize fs[k]=x at *
     generalize Pl.padAt ps k=p at *
     obtain ⟨fr,hfe⟩:∃fr,frX x (.slice da x.data.length dc) (.slice sa x.set.length sc)=fr:=⟨_,rfl⟩
     have hlg:∀w' pd,Below wr.heap.size wr w'→PadV w' pd p→Calls Tryz.prog 32 #[.agg fr,pd,.bool p.isSome] w' (EqAny w' (Pl.Legal x (p.getD []) p.isSome)):=fun w' pd hb' hv=>by rw [←hfe];exact legal_any ht ((hd.below hbel).below hb') ((hs.below hbel).below hb') (padV_rd hv)
     have hsz:fr.size=14:=by rw [←hfe];exact frX_size ..
     have h1f:∀u∈fr.toList,u.oneCell'=true:=by rw [←hfe];exact frX_one _ _ _ _ _ _ _
     have hif:(Tryz.prog.info? 29).map (·.size)=some fr.size:=by rw [hsz];exact infoFs
     rw [hfe] at hcW
     have HC:=Lib.hid hcW
     have HSZ:=Lib.hid hsz
     have H1F:=Lib.hid h1f
     have HIF:=Lib.hid hif
     have HLG:=Lib.hid hlg
     have HPAD:=Lib.hid hpad
     have HNX:=Lib.hid hnext
     have HBL:=Lib.hid hbel
     have hkn:(k:Int)<fs.length:=by omega
     clear hcW hsz h1f hif hlg hpad hnext hbel hfe hcells hd hs hdK hsK hb hok ht
     go_wp2_with (first
       | (refine wpList_load_at rfl 29 _ rfl b _ rfl fr HC.out Tryz.underlying29 HIF.out ?_)
       | (refine wpList_store_blk rfl 29 _ _ rfl wr.heap.size rfl fr _ rfl 29 (blk_new _ _) HSZ.out HIF.out H1F.out ?_;intro w1 hb1 hk1;have B1:Below wr.heap.size wr w1:=(((Kept.refl (· < wr.heap.size) wr).alloc _).trans (hk1.mono fun k h _=>Nat.ne_of_lt h)).below (Nat.le_refl _))
       | (go_at_call 16;go_loud (refine (HPAD.out _ B1).mono ?_);rintro e w2 ⟨pd,rfl,hv,rfl⟩)
       | (refine wpList_load_blk rfl 29 _ rfl wr.heap.size rfl fr 29 hb1 Tryz.underlying29 HIF.out ?_))
     go_at_call 32
     refine (HLG.out _ _ B1 hv).mono ?_
     rintro e w3 ⟨q,rfl,hq,b3⟩
     have HQ:=Lib.hid hq
     have HB3:=Lib.hid (Below.then (Below.then HBL.out (Nat.le_refl _) B1) (Nat.le_refl _) b3)
     clear hq b3 B1 hv hb1 hk1
     cases q
     · go_wp2_with fail
       go_ret
       exact .no HB3.out
     · go_wp2_with fail
       go_roundw
       case rel=>exact ⟨k+1,by omega,by go_num,HNX.out (HQ.out (by trivial)),HB3.out⟩
       case measure=>simp [intOf];omega
   · obtain rfl:k=fs.length:=by omega
     have HOK:=Lib.hid hok
     clear hok
     go_wp2_with fail
     go_ret
     exact ⟨true,rfl,fun _=>⟨⟨HOK.out.all,by have:=H1.out;omega⟩,by have:=H2.out;omega⟩,hbel⟩
end Go.Proofs.YtfdlbjibninakaaGreatDoor

namespace Go.Proofs.YtfdlbjibninakaaGreatDoor
set_option maxRecDepth 10000
set_option maxHeartbeats 4000000
open Go.RowKit
variable {w : World}
theorem EqAny.some' {w w':World} {q:Bool} (h:Below w.heap.size w w'):EqAny w True (.returned (.bool q)) w':=⟨q,rfl,fun _=>trivial,h⟩
theorem fits2_any {x:Fr} {dv sv:Value} (hd:RdB w dv x.data) (hs:RdP w sv x.set):Calls Tryz.prog 31 #[.agg (frX x dv sv)] w (EqAny w True):=by
 obtain ⟨da,dc,rfl,-,-⟩:=hd
 obtain ⟨sa,sc,rfl,-,-⟩:=hs
 unfold frX frameC
 have hB:Hid (∀o,Below w.heap.size w (w.alloc o)):=Lib.hid fun o=>((Kept.refl (· < w.heap.size) w).alloc _).below (Nat.le_refl _)
 by_cases h1:(2147483647:Int)<x.data.length
 · go_enter Tryz.func31,Tryz.ntmps31
   go_wp2_with fail
   go_ret
   exact .some' (hB.out _)
 by_cases h2:(2147483647:Int)<x.set.length
 · go_enter Tryz.func31,Tryz.ntmps31
   go_wp2_with fail
   go_ret
   exact .some' (hB.out _)
 go_enter Tryz.func31,Tryz.ntmps31
 go_wp2_with fail
 go_ret
 exact .some' (hB.out _)
theorem fits1_any {lv:Value} {fs:List Fr} (hl:FrsK (· < w.heap.size) w lv fs):Calls Tryz.prog 13 #[lv] w (EqAny w True):=by
 obtain ⟨la,lc,rfl,hlc,hlm,hlf⟩:=hl
 unfold maxLen at hlm
 have HLF:=Lib.hid hlf
 clear hlf
 by_cases h1:(2147483647:Int)<fs.length
 · go_enter Tryz.func13,Tryz.ntmps13
   go_wp2_with fail
   go_ret
   exact .some' (Below.refl _ _)
 go_enter Tryz.func13,Tryz.ntmps13
 go_wp2_with fail
 go_loopw [10] (fun i wr => ∃k:Nat,k≤fs.length∧i = .int .i64 k∧Below w.heap.size w wr) (fun i _=>fs.length-(intOf i).toNat)
 case atStart=>exact ⟨0,Nat.zero_le _,rfl,Below.refl _ _⟩
 case round =>
   obtain ⟨k,hk,rfl,hbel⟩:=hrel
   by_cases hlt:k<fs.length
   · obtain ⟨b,o,dv,sv,rfl,hb,hd,hdK,hs,hsK,hcells⟩:=HLF.out k _ (List.getElem?_eq_getElem hlt)
     obtain ⟨da,dc,rfl,-,-⟩:=id hd
     obtain ⟨sa,sc,rfl,-,-⟩:=id hs
     have hcW:∀i u,(frX fs[k] (.slice da fs[k].data.length dc) (.slice sa fs[k].set.length sc))[i]? = some u→wr.cell? ⟨b,o+k*14+i,none⟩=some u:=fun i u hu=>by rw [Nat.add_assoc];exact cell_below (hcells i u hu) hbel
     generalize fs[k]=x at *
     obtain ⟨fr,hfe⟩:∃fr,frX x (.slice da x.data.length dc) (.slice sa x.set.length sc)=fr:=⟨_,rfl⟩
     have hf2:∀w',Below wr.heap.size wr w'→Calls Tryz.prog 31 #[.agg fr] w' (EqAny w' True):=fun w' hb'=>by rw [←hfe];exact fits2_any ((hd.below hbel).below hb') ((hs.below hbel).below hb')
     have hsz:fr.size=14:=by rw [←hfe];exact frX_size ..
     have h1f:∀u∈fr.toList,u.oneCell'=true:=by rw [←hfe];exact frX_one _ _ _ _ _ _ _
     have hif:(Tryz.prog.info? 29).map (·.size)=some fr.size:=by rw [hsz];exact infoFs
     rw [hfe] at hcW
     have HC:=Lib.hid hcW
     have HSZ:=Lib.hid hsz
     have H1F:=Lib.hid h1f
     have HIF:=Lib.hid hif
     have HF2:=Lib.hid hf2
     have HBL:=Lib.hid hbel
     have hkn:(k:Int)<fs.length:=by omega
     clear hcW hsz h1f hif hf2 hbel hfe hcells hd hs hdK hsK hb
     go_wp2_with (first
       | (refine wpList_load_at rfl 29 _ rfl b _ rfl fr HC.out Tryz.underlying29 HIF.out ?_)
       | (refine wpList_store_blk rfl 29 _ _ rfl wr.heap.size rfl fr _ rfl 29 (blk_new _ _) HSZ.out HIF.out H1F.out ?_;intro w1 hb1 hk1;have B1:Below wr.heap.size wr w1:=(((Kept.refl (· < wr.heap.size) wr).alloc _).trans (hk1.mono fun k h _=>Nat.ne_of_lt h)).below (Nat.le_refl _))
       | (refine wpList_load_blk rfl 29 _ rfl wr.heap.size rfl fr 29 hb1 Tryz.underlying29 HIF.out ?_))
     refine (HF2.out _ B1).mono ?_
     rintro e w3 ⟨q,rfl,-,b3⟩
     have HB3:=Lib.hid (Below.then (Below.then HBL.out (Nat.le_refl _) B1) (Nat.le_refl _) b3)
     clear b3 B1 hb1 hk1
     cases q
     · go_wp2_with fail
       go_ret
       exact .some' HB3.out
     · go_wp2_with fail
       go_roundw
       case rel=>exact ⟨k+1,by omega,by go_num,HB3.out⟩
       case measure=>simp [intOf];omega
   · obtain rfl:k=fs.length:=by omega
     go_wp2_with fail
     go_ret
     exact .some' hbel
theorem fits3_any {pv:Value} {ps:List (Option (List Int))} (hp:PadsR w pv ps):Calls Tryz.prog 14 #[pv] w (EqAny w True):=by
 obtain ⟨la,lc,rfl,hlc,hlm,hlf⟩:=hp
 unfold maxLen at hlm
 have HLF:=Lib.hid hlf
 clear hlf
 by_cases h1:(2147483647:Int)<ps.length
 · go_enter Tryz.func14,Tryz.ntmps14
   go_wp2_with fail
   go_ret
   exact .some' (Below.refl _ _)
 go_enter Tryz.func14,Tryz.ntmps14
 go_wp2_with fail
 go_loopw [10] (fun i wr => ∃k:Nat,k≤ps.length∧i = .int .i64 k∧w=wr) (fun i _=>ps.length-(intOf i).toNat)
 case atStart=>exact ⟨0,Nat.zero_le _,rfl,rfl⟩
 case round =>
   obtain ⟨k,hk,rfl,rfl⟩:=hrel
   by_cases hlt:k<ps.length
   · obtain ⟨b,o,pd,rfl,hc,hv⟩:=HLF.out k _ (List.getElem?_eq_getElem hlt)
     obtain ⟨qa,qc,rfl⟩:=padV_slice hv
     generalize (ps[k].getD []).length=n at *
     have hkn:(k:Int)<ps.length:=by omega
     clear hv
     by_cases h2:(2147483647:Int)<n
     · go_wp2_with fail
       go_ret
       exact .some' (Below.refl _ _)
     · go_wp2_with fail
       go_roundw
       case rel=>exact ⟨k+1,by omega,by go_num,by trivial⟩
       case measure=>simp [intOf];omega
   · obtain rfl:k=ps.length:=by omega
     go_wp2_with fail
     go_ret
     exact .some' (Below.refl _ _)
end Go.Proofs.YtfdlbjibninakaaGreatDoor

namespace Go.Proofs.YtfdlbjibninakaaGreatDoor
open Go.RowKit
variable {w : World}
theorem legal_set_le {x:Fr} {pad:List Int} {pd:Bool} (h:Pl.Legal x pad pd):x.set.length≤1000:=by
 by_cases h4:x.ty=4
 · have htk:=h.tk
   unfold Pl.tyOk at htk
   simp [h4] at htk
   omega
 · have e:x.set = []:=by
     rw [h.cl]
     unfold Pl.cleanF
     repeat' split
     all_goals first|rfl|exact absurd (by assumption) h4
   rw [e]
   simp
end Go.Proofs.YtfdlbjibninakaaGreatDoor

namespace Go.Proofs.YtfdlbjibninakaaGreatDoor
set_option maxRecDepth 10000
set_option maxHeartbeats 8000000
open Go.RowKit
variable {w : World}
theorem law_whole {x:Fr} {dv sv:Value} {p:Option (List Int)} {w':World} (hok:Pl.Legal x (p.getD []) p.isSome) (hd:RdB w' dv x.data) (hs:RdP w' sv x.set) {qa:Option Addr} {qc:Nat} (hp:RdB w' (.slice qa (p.getD []).length qc) (p.getD [])) :
   Calls Tryz.prog 21 #[.agg (frX x dv sv),.slice qa (p.getD []).length qc,.bool (Pl.pdOf x p)] w' (WhlEnd w' (frX (Pl.whole x (p.getD []) (Pl.pdOf x p)) dv sv)):=
 whole_any hok.strip hd hs hp
theorem res_frame {w:World} {g k:Nat} {r:Rs} {dv sv:Value} (h:∀j u,(rsX r dv sv)[j]? = some u→w.cell? ⟨g,k*17+j,none⟩=some u):∀j u,(frX r.x dv sv)[j]? = some u→w.cell? ⟨g,k*17+3+j,none⟩=some u:=by
 intro j u hu
 rw [Nat.add_assoc]
 refine h (3+j) u ?_
 unfold rsX rsC
 rw [Array.getElem?_append_right (by simp)]
 simpa using hu
theorem maxOk_mx0:Pl.MaxOk 0 (mxOf 0):=.inr ⟨by decide,by rw [mxOf_neg (by decide)];omega⟩
theorem fnWriteRead_any {B:Nat} {aE aU aT:Addr} {lv pv cv:Value} {fs:List Fr} {ps:List (Option (List Int))} {cs:List Int} (hV:GV B w aE aU aT) (hBw:B≤w.heap.size) (hl:FrsR w lv fs) (hp:PadsR w pv ps) (hc:RdI .i64 w cv cs) :
   Calls Tryz.prog 6 #[lv,pv,cv] w (YesEnd w):=by
 have hT:=hl.types
 have hlK:=hl.toK
 obtain ⟨la,lc,rfl,hlc,hlm,hlf⟩:=id hlK
 obtain ⟨pa,pc,rfl,hpc,hpm,-⟩:=id hp
 obtain ⟨ca,cc,rfl,hcc,hcm,-⟩:=id hc
 have HCS:=Lib.hid hc
 clear hc
 have HF1:=Lib.hid (fits1_any hlK)
 have HF3:=Lib.hid fun (w':World) (hb:Below w.heap.size w w')=>fits3_any (hp.below hb)
 have HLG:=Lib.hid fun (w':World) (hb:Below w.heap.size w w')=>legalL_any (lv:=.slice la fs.length lc) (pv:=.slice pa ps.length pc) (w:=w') ((hlK.kept (Kept.ofBelow hb)).mono fun k h=>Nat.lt_of_lt_of_le h hb.size) hT (hp.below hb)
 have HLF:=Lib.hid hlf
 have HK:=Lib.hid hlK
 have HP:=Lib.hid hp
 have HV:=Lib.hid hV
 clear hl hlK hp hlf hT hV
 go_enter Tryz.func6,Tryz.ntmps6
 go_wp2_with fail
 refine HF1.out.mono ?_
 rintro e w1 ⟨q1,rfl,-,b1⟩
 have HB1:=Lib.hid b1
 clear b1
 cases q1
 · go_wp2_with fail
   go_ret
   exact ⟨rfl,HB1.out⟩
 go_wp2_with fail
 refine (HF3.out _ HB1.out).mono ?_
 rintro e w2 ⟨q2,rfl,-,b2⟩
 have HB2:=Lib.hid (Below.then HB1.out (Nat.le_refl _) b2)
 clear b2
 cases q2
 · go_wp2_with fail
   go_ret
   exact ⟨rfl,HB2.out⟩
 by_cases hcl:(2147483647:Int)<cs.length
 · go_wp2_with fail
   go_ret
   exact ⟨rfl,HB2.out⟩
 go_wp2_with fail
 refine (HLG.out _ HB2.out).mono ?_
 rintro e w3 ⟨q3,rfl,hq3,b3⟩
 have HB3:=Lib.hid (Below.then HB2.out (Nat.le_refl _) b3)
 have HQ3:=Lib.hid hq3
 clear b3 hq3
 cases q3
 · go_wp2_with fail
   go_ret
   exact ⟨rfl,HB3.out⟩
 obtain ⟨⟨hok,hn⟩,hnp⟩:=HQ3.out (by trivial)
 have HOK:=Lib.hid hok
 clear hok
 obtain ⟨A,hA⟩:∃A,Pl.wAll (Pl.zs fs ps)=A:=⟨_,rfl⟩
 have hAl:A.length≤1639300:=by rw [←hA];have h:=Pl.wAll_take_len HOK.out hn fs.length;rwa [List.take_of_length_le (by rw [Pl.zs_length];exact Nat.le_refl _)] at h
 have himp:=fun (w':World) (v':Value) (hb:Below w.heap.size w w') (hv:FrsK (· < w'.heap.size) w' v' fs)=>implWrite_any (w:=w') hv (HP.out.below hb) HOK.out hn hnp
 have hbA:Bs A:=by rw [←hA];exact Pl.byt_wAll HOK.out.zs
 have hback:(readAll (mxOf 0) 0 A).length=fs.length+1 → ∀i f,fs[i]? = some f→(readAll (mxOf 0) 0 A)[i]? = some (Rs.ok (Pl.whole f ((Pl.padAt ps i).getD []) (Pl.pdOf f (Pl.padAt ps i)))):=by
   intro hlen i f hf
   rw [←hA] at hlen ⊢
   exact Pl.read_written (M:=mxOf 0) (by rw [mxOf_neg (by decide)];omega) (Pl.zs fs ps) 0 HOK.out.zs (by rw [hlen,Pl.zs_length]) i _ (Pl.zs_get hf)
 rw [hA] at himp
 have hgiv:=givens_any (w:=w3) (v:=.slice la fs.length lc) ((HK.out.kept (Kept.ofBelow HB3.out)).mono fun k h=>Nat.lt_of_lt_of_le h HB3.out.size) (by omega) (fun x hx=>by
   obtain ⟨j,hj⟩:=List.mem_iff_getElem?.1 hx
   have:=legal_set_le (HOK.out j x hj)
   omega)
 obtain ⟨hs1,hs2⟩:=readAll_small (m:=mxOf 0) (o:=0) hbA (by omega)
 have hmat:=Pl.read_mat (maxOk_mx0) _ A rfl hbA 0
 have hspec:=fun (w':World) (a:Option Addr) (c:Nat) (h:RdB w' (.slice a A.length c) A)=>specRead_any h hbA (by omega) 0 (by omega)
 have hread:=fun (w':World) (v:Value) (hb:Below w.heap.size w w') (h:RdB w' v A)=>implRead_any (w:=w') (pcs:=.slice ca cs.length cc) (ps:=cs) (HV.out.below hb) (Nat.le_trans hBw hb.size) h (HCS.out.below hb) hbA (by omega) 0 (by omega) (by omega)
 generalize readAll (mxOf 0) 0 A=rs at *
 obtain ⟨⟨ws,q⟩,hwq⟩:∃x,Pl.sRead 0 0 A=x:=⟨_,rfl⟩
 rw [hwq] at hspec hmat
 simp only at hspec hmat
 have HIMP:=Lib.hid himp
 have HGIV:=Lib.hid hgiv
 have HBACK:=Lib.hid hback
 have HMAT:=Lib.hid hmat
 have HSPEC:=Lib.hid hspec
 have HREAD:=Lib.hid hread
 have HS2:=Lib.hid hs2
 clear himp hgiv hA hback hmat hspec hread hs2 hbA hwq
 go_wp2_with fail
 refine HGIV.out.mono ?_
 rintro e w4 ⟨v4,rfl,b4,hk4⟩
 have HB4:=Lib.hid (Below.then HB3.out (Nat.le_refl _) b4)
 have HI:=Lib.hid (HIMP.out w4 v4 HB4.out hk4)
 clear hk4 b4 HIMP HGIV
 go_wp2_with fail
 refine HI.out.mono ?_
 rintro e w5 ⟨al,fv,rfl,b5,oal,ofv,fal,ffv⟩
 have HB5:=Lib.hid (Below.then HB4.out (Nat.le_refl _) b5)
 have hal:=rd_of_row oal
 obtain ⟨xa,xc,rfl,-,-⟩:=own_shape oal
 have HAL:=Lib.hid hal
 clear oal b5 ofv fal ffv HI hal
 go_wp2_with fail
 refine (HSPEC.out w5 xa xc HAL.out).mono ?_
 rintro e w6 ⟨v6,rfl,b6,hR6,hf6⟩
 have HB6:=Lib.hid (Below.then HB5.out (Nat.le_refl _) b6)
 have HA6:=Lib.hid (HAL.out.below b6)
 dsimp only at hR6
 obtain ⟨va6,vc6,rfl,-,-⟩:=own_shape hR6.choose_spec.1
 have HR6:=Lib.hid hR6
 clear hf6 b6 hR6 HSPEC
 dsimp only
 cases q
 · go_wp2_with fail
   go_ret
   exact ⟨rfl,HB6.out⟩
 by_cases hwl:ws.length=fs.length+1
 case neg =>
   have hb:((ws.length:Int) != (fs.length:Int)+1)=true:=by simp;omega
   go_wp2_with fail
   go_ret
   exact ⟨rfl,HB6.out⟩
 have hb:((ws.length:Int) != (fs.length:Int)+1)=false:=by simp;omega
 have hlt6:fs.length<ws.length:=by omega
 obtain ⟨g6,dv6,sv6,rfl,-,-,hx6⟩:=resR_at HR6.out hlt6
 have hx60:∃flt:Int,w6.cell? ⟨g6,fs.length*17,none⟩=some (.int .i64 flt):=⟨_,by have h:=hx6 0 _ rfl;rwa [Nat.add_zero] at h⟩
 obtain ⟨flt,hx60⟩:=hx60
 have HWL:=Lib.hid hwl
 have hwn:(fs.length:Int)<ws.length:=by omega
 clear hx6 hlt6 hwl
 by_cases hfl:flt=1
 case neg =>
   have hb1:(flt != 1)=true:=by simpa using hfl
   clear hfl
   go_wp2_with fail
   go_ret
   exact ⟨rfl,HB6.out⟩
 subst hfl
 go_wp2_with fail
 refine (HREAD.out w6 _ HB6.out HA6.out).mono ?_
 rintro e w7 ⟨v7,rfl,b7,hR7,hf7⟩
 have r7:=results_any v7 rs w7 hR7 hs1 HS2.out
 go_wp2_with fail
 refine r7.mono ?_
 rintro e w8 ⟨v8,rfl,b8,hR8,hf8⟩
 have b68:Below w6.heap.size w6 w8:=Below.step b7 b8
 have hm:=matches_yes HMAT.out (HR6.out.stay b68) hR8
 have HB8:=Lib.hid (Below.then HB6.out (Nat.le_refl _) b68)
 obtain ⟨va8,vc8,rfl,-,-⟩:=own_shape hR8.choose_spec.1
 have HR8:=Lib.hid hR8
 clear r7 hR7 hf7 b7 b8 hf8 hR8 HREAD b68
 go_wp2_with fail
 refine hm.mono ?_
 rintro e w9 ⟨rfl,b9⟩
 have HB9:=Lib.hid (Below.then HB8.out (Nat.le_refl _) b9)
 have HR9:=Lib.hid (HR8.out.stay b9)
 have hrl:rs.length=fs.length+1:=by have h1:=HMAT.out.len.2 rfl;have h2:=HWL.out;omega
 have HBK0:=Lib.hid (HBACK.out hrl)
 have HRL:=Lib.hid hrl
 have hrn:(fs.length:Int)<rs.length:=by omega
 clear hm b9 HR8 hrl HBACK hx60
 go_wp2_with fail
 go_loopw [74] (fun i wr => ∃k:Nat,k≤fs.length∧i = .int .i64 k∧Below w9.heap.size w9 wr) (fun i _=>fs.length-(intOf i).toNat)
 case atStart=>exact ⟨0,Nat.zero_le _,rfl,Below.refl _ _⟩
 case round =>
   obtain ⟨k,hk,rfl,hbel9⟩:=hrel
   have hbel:=Below.then HB9.out (Nat.le_refl _) hbel9
   by_cases hlt:k<fs.length
   · obtain ⟨b,o,dv,sv,rfl,hb,hd,hdK,hs,hsK,hcells⟩:=HLF.out k _ (List.getElem?_eq_getElem hlt)
     obtain ⟨da,dc,rfl,-,-⟩:=id hd
     obtain ⟨sa,sc,rfl,-,-⟩:=id hs
     have hkr:k<rs.length:=by have:=HRL.out;omega
     have hrk:rs[k]=Rs.ok (Pl.whole fs[k] ((Pl.padAt ps k).getD []) (Pl.pdOf fs[k] (Pl.padAt ps k))):=by
       have h:=HBK0.out k _ (List.getElem?_eq_getElem hlt)
       rw [List.getElem?_eq_getElem hkr] at h
       exact Option.some.inj h
     obtain ⟨g,dv',sv',rfl,hd',hs',hx'⟩:=resR_at HR9.out hkr
     have hgc:=res_frame hx'
     rw [hrk] at hd' hs' hgc
     have hcW:∀i u,(frX fs[k] (.slice da fs[k].data.length dc) (.slice sa fs[k].set.length sc))[i]? = some u→wr.cell? ⟨b,o+k*14+i,none⟩=some u:=fun i u hu=>by rw [Nat.add_assoc];exact cell_below (hcells i u hu) hbel
     have hok:=HOK.out k _ (List.getElem?_eq_getElem hlt)
     have hpad:=fun (w':World) (hb':Below wr.heap.size wr w')=>padding_any (HP.out.below (Below.then hbel (Nat.le_refl _) hb')) k
     clear hrk hx'
     generalize fs[k]=x at *
     generalize Pl.padAt ps k=p at *
     obtain ⟨pdo,hpdo2⟩:∃q,Pl.pdOf x p=q:=⟨_,rfl⟩
     have hpdo:Pl.pdOf x p=if (x.ty=1∨x.ty=5)∧(p.getD []).length=0 then false else p.isSome:=rfl
     obtain ⟨fr,hfe⟩:∃fr,frX x (.slice da x.data.length dc) (.slice sa x.set.length sc)=fr:=⟨_,rfl⟩
     obtain ⟨wfr,hwe⟩:∃fr,frX (Pl.whole x (p.getD []) (Pl.pdOf x p)) (.slice da x.data.length dc) (.slice sa x.set.length sc)=fr:=⟨_,rfl⟩
     obtain ⟨gfr,hge⟩:∃fr,frX (Rs.ok (Pl.whole x (p.getD []) (Pl.pdOf x p))).x dv' sv'=fr:=⟨_,rfl⟩
     have hgs:gfr.size=14:=by rw [←hge];exact frX_size ..
     have hwh:∀(w':World) (qa:Option Addr) (qc:Nat),Below wr.heap.size wr w'→RdB w' (.slice qa (p.getD []).length qc) (p.getD [])→Calls Tryz.prog 21 #[.agg fr,.slice qa (p.getD []).length qc,.bool (Pl.pdOf x p)] w' (WhlEnd w' wfr):=fun w' qa qc hb' hpr=>by rw [←hfe,←hwe];exact law_whole hok ((hd.below hbel).below hb') ((hs.below hbel).below hb') hpr
     have heq:∀(w':World),Below wr.heap.size wr w'→Calls Tryz.prog 20 #[.agg wfr,.agg gfr] w' (EqYes w'):=fun w' hb'=>by
       rw [←hwe,←hge]
       exact equal_yes _ _ _ _ _ w' ((hd.below hbel).below hb') ((hd'.below hbel9).below hb') ((hs.below hbel).below hb') ((hs'.below hbel9).below hb')
     have hsz:fr.size=14:=by rw [←hfe];exact frX_size ..
     have h1f:∀u∈fr.toList,u.oneCell'=true:=by rw [←hfe];exact frX_one _ _ _ _ _ _ _
     have hif:(Tryz.prog.info? 29).map (·.size)=some fr.size:=by rw [hsz];exact infoFs
     have hig:(Tryz.prog.info? 29).map (·.size)=some gfr.size:=by rw [hgs];exact infoFs
     have hf0:fr[0]? = some (.int .i64 x.ty):=by rw [←hfe];rfl
     rw [hfe] at hcW
     rw [hge] at hgc
     have hgW:∀j u,gfr[j]? = some u→wr.cell? ⟨g,k*17+3+j,none⟩=some u:=fun j u hu=>cell_below (hgc j u hu) hbel9
     rw [hpdo2] at hwh hpdo
     have HC:=Lib.hid hcW
     have HGC:=Lib.hid hgW
     have HSZ:=Lib.hid hsz
     have H1F:=Lib.hid h1f
     have HIF:=Lib.hid hif
     have HIG:=Lib.hid hig
     have HWH:=Lib.hid hwh
     have HEQ:=Lib.hid heq
     have HPAD:=Lib.hid hpad
     have HBL:=Lib.hid hbel9
     have HF0:=Lib.hid hf0
     have HPD:=Lib.hid hpdo
     have hkn:(k:Int)<fs.length:=by omega
     have hkn2:(k:Int)<rs.length:=by omega
     clear hcW hgc hgW hsz hgs h1f hif hig hwh heq hpad hbel hbel9 hfe hwe hge hcells hd hs hd' hs' hdK hsK hb hok hf0 hpdo hpdo2 hkr
     go_wp2_with (first
       | (refine wpList_load_at rfl 29 _ rfl b _ rfl fr HC.out Tryz.underlying29 HIF.out ?_)
       | (refine wpList_store_blk rfl 29 _ _ rfl wr.heap.size rfl fr _ rfl 29 (blk_new _ _) HSZ.out HIF.out H1F.out ?_;intro w1 hb1 hk1;have B1:Below wr.heap.size wr w1:=(((Kept.refl (· < wr.heap.size) wr).alloc _).trans (hk1.mono fun k h _=>Nat.ne_of_lt h)).below (Nat.le_refl _)))
     refine (HPAD.out _ B1).mono ?_
     rintro e w2 ⟨pd,rfl,hv,hw2⟩
     obtain rfl:=hw2
     obtain ⟨qa,qc,rfl⟩:=padV_slice hv
     have HWH2:=Lib.hid fun (w':World) (hb':Below wr.heap.size wr w') (hv':PadV w' (.slice qa (p.getD []).length qc) p)=>HWH.out w' qa qc hb' (padV_rd hv')
     have HVV:=Lib.hid fun (w':World) (hb':Below w1.heap.size w1 w')=>padV_below hv hb'
     have t0:w1.cell? ⟨wr.heap.size,0,none⟩=some (.int .i64 x.ty):=(blk_cell hb1 0).trans HF0.out
     have HPD2:=HPD.out
     have HWH3:=Lib.hid fun (w':World) (hb':Below w1.heap.size w1 w')=>HWH2.out w' (Below.then B1 (Nat.le_refl _) hb') (HVV.out w' hb')
     clear hv HPD HWH2 HVV
     generalize (p.getD []).length=pn at *
     generalize p.isSome=pq at *
     have HB1b:=Lib.hid B1
     have HBK:=Lib.hid hb1
     have HGC1:=Lib.hid fun j u (hu:gfr[j]? = some u)=>cell_below (HGC.out j u hu) B1
     clear B1 hb1 hk1 HWH HPAD
     by_cases t1:x.ty=1
     · have b1:(x.ty==1)=true:=by simp [t1]
       have T:=Lib.hid t1
       clear t1
       by_cases z:pn=0
       · have bz:((pn:Int)==0)=true:=by simp [z]
         obtain rfl:pdo=false:=by rw [HPD2,if_pos ⟨.inl T.out,z⟩]
         clear HPD2 z
         go_wp2_with fail
         refine wp_region_held_drew (S:=fun w'=>w'.heap[wr.heap.size]? = some (.cells fr 29 (0,0)) ∧ ∀j u,gfr[j]? = some u→w'.cell? ⟨g,k*17+3+j,none⟩=some u) (by kernel_rfl) (show w1.drew.heap[wr.heap.size]? = _∧_ from ⟨HBK.out,HGC1.out⟩) (fun hHeld => ?_)
         refine tkL 0 (.agg fr) ?_ ?_
         · intro w' hSw;exact exec_load_at _ _ rfl wr.heap.size 0 rfl fr (fun j v hj=>by rw [Nat.zero_add,blk_cell hSw.1];exact hj) Tryz.underlying29 HIF.out
         try simp only [Act.put,sxA,sxB,sxC,sxD,sxE,sxF]
         refine tkS 1 (.slice qa pn qc) ?_;try simp only [Act.put,sxA,sxB,sxC,sxD,sxE,sxF]
         refine tkS 2 (.bool false) ?_;try simp only [Act.put,sxA,sxB,sxC,sxD,sxE,sxF]
         refine tkS 4 (.slice (some ⟨g,0,none⟩) rs.length vc8) ?_;try simp only [Act.put,sxA,sxB,sxC,sxD,sxE,sxF]
         refine tkS 5 (.int .i64 k) ?_;try simp only [Act.put,sxA,sxB,sxC,sxD,sxE,sxF]
         refine tkS 6 (.pointer (some ⟨g,k*17,none⟩)) ?_;try simp only [Act.put,sxA,sxB,sxC,sxD,sxE,sxF]
         refine tkS 7 (.pointer (some ⟨g,k*17+3,none⟩)) ?_;try simp only [Act.put,sxA,sxB,sxC,sxD,sxE,sxF]
         refine tkL 8 (.agg gfr) ?_ ?_
         · intro w' hSw;exact exec_load_at _ _ rfl g (k*17+3) rfl gfr hSw.2 Tryz.underlying29 HIG.out
         try simp only [Act.put,sxA,sxB,sxC,sxD,sxE,sxF]
         refine wpAnyH_ready (rs:=[3]) (by kernel_rfl) (by simp) ?_
         refine AllReadyH.cons rfl (fun K' hK => ?_) AllReadyH.nil
         go_simp
         refine (HWH3.out _ ((Below.refl _ _).drew)).mono ?_
         rintro e w2 ⟨rfl,b2⟩
         have HB2:=Lib.hid (Below.then HB1b.out (Nat.le_refl _) (⟨b2.os,b2.tape,b2.output,b2.size,b2.block⟩:Below w1.heap.size w1 w2))
         go_wp2_with fail
         refine hK.out _ _ ⟨blk_below (w:=w1.drew) hHeld.1 b2,fun j u hu=>cell_below (w:=w1.drew) (hHeld.2 j u hu) b2⟩ (fun hHeld1 => ?_)
         clear hK K' b2
         try simp only [Act.put,sxA,sxB,sxC,sxD,sxE,sxF]
         refine wpAnyH_ready (rs:=[9]) (by kernel_rfl) (by simp) ?_
         refine AllReadyH.cons rfl (fun K' hK => ?_) AllReadyH.nil
         go_simp
         refine (HEQ.out _ HB2.out).mono ?_
         rintro e w3 ⟨rfl,b3⟩
         have HB3b:=Lib.hid (Below.then HBL.out (Nat.le_refl _) (Below.then HB2.out (Nat.le_refl _) b3))
         go_wp2_with fail
         refine hK.out _ _ ⟨blk_below hHeld1.1 b3,fun j u hu=>cell_below (hHeld1.2 j u hu) b3⟩ (fun hHeld2 => ?_)
         clear hK K' b3
         try simp only [Act.put,sxA,sxB,sxC,sxD,sxE,sxF]
         refine tkS 10 (.bool false) ?_;try simp only [Act.put,sxA,sxB,sxC,sxD,sxE,sxF]
         refine wpAnyH_done (by kernel_rfl) ?_ _
         go_wp2_with fail
         go_roundw
         case rel=>exact ⟨k+1,by omega,by go_num,HB3b.out⟩
         case measure=>simp [intOf];omega
       · have bz:((pn:Int)==0)=false:=beq_false_of_ne (by omega)
         obtain rfl:pdo=pq:=by rw [HPD2,if_neg fun h=>z h.2]
         clear HPD2 z
         go_wp2_with fail
         refine wp_region_held_drew (S:=fun w'=>w'.heap[wr.heap.size]? = some (.cells fr 29 (0,0)) ∧ ∀j u,gfr[j]? = some u→w'.cell? ⟨g,k*17+3+j,none⟩=some u) (by kernel_rfl) (show w1.drew.heap[wr.heap.size]? = _∧_ from ⟨HBK.out,HGC1.out⟩) (fun hHeld => ?_)
         refine tkL 0 (.agg fr) ?_ ?_
         · intro w' hSw;exact exec_load_at _ _ rfl wr.heap.size 0 rfl fr (fun j v hj=>by rw [Nat.zero_add,blk_cell hSw.1];exact hj) Tryz.underlying29 HIF.out
         try simp only [Act.put,sxA,sxB,sxC,sxD,sxE,sxF]
         refine tkS 1 (.slice qa pn qc) ?_;try simp only [Act.put,sxA,sxB,sxC,sxD,sxE,sxF]
         refine tkS 2 (.bool pdo) ?_;try simp only [Act.put,sxA,sxB,sxC,sxD,sxE,sxF]
         refine tkS 4 (.slice (some ⟨g,0,none⟩) rs.length vc8) ?_;try simp only [Act.put,sxA,sxB,sxC,sxD,sxE,sxF]
         refine tkS 5 (.int .i64 k) ?_;try simp only [Act.put,sxA,sxB,sxC,sxD,sxE,sxF]
         refine tkS 6 (.pointer (some ⟨g,k*17,none⟩)) ?_;try simp only [Act.put,sxA,sxB,sxC,sxD,sxE,sxF]
         refine tkS 7 (.pointer (some ⟨g,k*17+3,none⟩)) ?_;try simp only [Act.put,sxA,sxB,sxC,sxD,sxE,sxF]
         refine tkL 8 (.agg gfr) ?_ ?_
         · intro w' hSw;exact exec_load_at _ _ rfl g (k*17+3) rfl gfr hSw.2 Tryz.underlying29 HIG.out
         try simp only [Act.put,sxA,sxB,sxC,sxD,sxE,sxF]
         refine wpAnyH_ready (rs:=[3]) (by kernel_rfl) (by simp) ?_
         refine AllReadyH.cons rfl (fun K' hK => ?_) AllReadyH.nil
         go_simp
         refine (HWH3.out _ ((Below.refl _ _).drew)).mono ?_
         rintro e w2 ⟨rfl,b2⟩
         have HB2:=Lib.hid (Below.then HB1b.out (Nat.le_refl _) (⟨b2.os,b2.tape,b2.output,b2.size,b2.block⟩:Below w1.heap.size w1 w2))
         go_wp2_with fail
         refine hK.out _ _ ⟨blk_below (w:=w1.drew) hHeld.1 b2,fun j u hu=>cell_below (w:=w1.drew) (hHeld.2 j u hu) b2⟩ (fun hHeld1 => ?_)
         clear hK K' b2
         try simp only [Act.put,sxA,sxB,sxC,sxD,sxE,sxF]
         refine wpAnyH_ready (rs:=[9]) (by kernel_rfl) (by simp) ?_
         refine AllReadyH.cons rfl (fun K' hK => ?_) AllReadyH.nil
         go_simp
         refine (HEQ.out _ HB2.out).mono ?_
         rintro e w3 ⟨rfl,b3⟩
         have HB3b:=Lib.hid (Below.then HBL.out (Nat.le_refl _) (Below.then HB2.out (Nat.le_refl _) b3))
         go_wp2_with fail
         refine hK.out _ _ ⟨blk_below hHeld1.1 b3,fun j u hu=>cell_below (hHeld1.2 j u hu) b3⟩ (fun hHeld2 => ?_)
         clear hK K' b3
         try simp only [Act.put,sxA,sxB,sxC,sxD,sxE,sxF]
         refine tkS 10 (.bool false) ?_;try simp only [Act.put,sxA,sxB,sxC,sxD,sxE,sxF]
         refine wpAnyH_done (by kernel_rfl) ?_ _
         go_wp2_with fail
         go_roundw
         case rel=>exact ⟨k+1,by omega,by go_num,HB3b.out⟩
         case measure=>simp [intOf];omega
     have b1:(x.ty==1)=false:=beq_false_of_ne t1
     have T1:=Lib.hid t1
     clear t1
     by_cases t5:x.ty=5
     · have b5:(x.ty==5)=true:=by simp [t5]
       have T:=Lib.hid t5
       clear t5
       by_cases z:pn=0
       · have bz:((pn:Int)==0)=true:=by simp [z]
         obtain rfl:pdo=false:=by rw [HPD2,if_pos ⟨.inr T.out,z⟩]
         clear HPD2 z
         go_wp2_with fail
         refine wp_region_held_drew (S:=fun w'=>w'.heap[wr.heap.size]? = some (.cells fr 29 (0,0)) ∧ ∀j u,gfr[j]? = some u→w'.cell? ⟨g,k*17+3+j,none⟩=some u) (by kernel_rfl) (show w1.drew.heap[wr.heap.size]? = _∧_ from ⟨HBK.out,HGC1.out⟩) (fun hHeld => ?_)
         refine tkL 0 (.agg fr) ?_ ?_
         · intro w' hSw;exact exec_load_at _ _ rfl wr.heap.size 0 rfl fr (fun j v hj=>by rw [Nat.zero_add,blk_cell hSw.1];exact hj) Tryz.underlying29 HIF.out
         try simp only [Act.put,sxA,sxB,sxC,sxD,sxE,sxF]
         refine tkS 1 (.slice qa pn qc) ?_;try simp only [Act.put,sxA,sxB,sxC,sxD,sxE,sxF]
         refine tkS 2 (.bool false) ?_;try simp only [Act.put,sxA,sxB,sxC,sxD,sxE,sxF]
         refine tkS 4 (.slice (some ⟨g,0,none⟩) rs.length vc8) ?_;try simp only [Act.put,sxA,sxB,sxC,sxD,sxE,sxF]
         refine tkS 5 (.int .i64 k) ?_;try simp only [Act.put,sxA,sxB,sxC,sxD,sxE,sxF]
         refine tkS 6 (.pointer (some ⟨g,k*17,none⟩)) ?_;try simp only [Act.put,sxA,sxB,sxC,sxD,sxE,sxF]
         refine tkS 7 (.pointer (some ⟨g,k*17+3,none⟩)) ?_;try simp only [Act.put,sxA,sxB,sxC,sxD,sxE,sxF]
         refine tkL 8 (.agg gfr) ?_ ?_
         · intro w' hSw;exact exec_load_at _ _ rfl g (k*17+3) rfl gfr hSw.2 Tryz.underlying29 HIG.out
         try simp only [Act.put,sxA,sxB,sxC,sxD,sxE,sxF]
         refine wpAnyH_ready (rs:=[3]) (by kernel_rfl) (by simp) ?_
         refine AllReadyH.cons rfl (fun K' hK => ?_) AllReadyH.nil
         go_simp
         refine (HWH3.out _ ((Below.refl _ _).drew)).mono ?_
         rintro e w2 ⟨rfl,b2⟩
         have HB2:=Lib.hid (Below.then HB1b.out (Nat.le_refl _) (⟨b2.os,b2.tape,b2.output,b2.size,b2.block⟩:Below w1.heap.size w1 w2))
         go_wp2_with fail
         refine hK.out _ _ ⟨blk_below (w:=w1.drew) hHeld.1 b2,fun j u hu=>cell_below (w:=w1.drew) (hHeld.2 j u hu) b2⟩ (fun hHeld1 => ?_)
         clear hK K' b2
         try simp only [Act.put,sxA,sxB,sxC,sxD,sxE,sxF]
         refine wpAnyH_ready (rs:=[9]) (by kernel_rfl) (by simp) ?_
         refine AllReadyH.cons rfl (fun K' hK => ?_) AllReadyH.nil
         go_simp
         refine (HEQ.out _ HB2.out).mono ?_
         rintro e w3 ⟨rfl,b3⟩
         have HB3b:=Lib.hid (Below.then HBL.out (Nat.le_refl _) (Below.then HB2.out (Nat.le_refl _) b3))
         go_wp2_with fail
         refine hK.out _ _ ⟨blk_below hHeld1.1 b3,fun j u hu=>cell_below (hHeld1.2 j u hu) b3⟩ (fun hHeld2 => ?_)
         clear hK K' b3
         try simp only [Act.put,sxA,sxB,sxC,sxD,sxE,sxF]
         refine tkS 10 (.bool false) ?_;try simp only [Act.put,sxA,sxB,sxC,sxD,sxE,sxF]
         refine wpAnyH_done (by kernel_rfl) ?_ _
         go_wp2_with fail
         go_roundw
         case rel=>exact ⟨k+1,by omega,by go_num,HB3b.out⟩
         case measure=>simp [intOf];omega
       · have bz:((pn:Int)==0)=false:=beq_false_of_ne (by omega)
         obtain rfl:pdo=pq:=by rw [HPD2,if_neg fun h=>z h.2]
         clear HPD2 z
         go_wp2_with fail
         refine wp_region_held_drew (S:=fun w'=>w'.heap[wr.heap.size]? = some (.cells fr 29 (0,0)) ∧ ∀j u,gfr[j]? = some u→w'.cell? ⟨g,k*17+3+j,none⟩=some u) (by kernel_rfl) (show w1.drew.heap[wr.heap.size]? = _∧_ from ⟨HBK.out,HGC1.out⟩) (fun hHeld => ?_)
         refine tkL 0 (.agg fr) ?_ ?_
         · intro w' hSw;exact exec_load_at _ _ rfl wr.heap.size 0 rfl fr (fun j v hj=>by rw [Nat.zero_add,blk_cell hSw.1];exact hj) Tryz.underlying29 HIF.out
         try simp only [Act.put,sxA,sxB,sxC,sxD,sxE,sxF]
         refine tkS 1 (.slice qa pn qc) ?_;try simp only [Act.put,sxA,sxB,sxC,sxD,sxE,sxF]
         refine tkS 2 (.bool pdo) ?_;try simp only [Act.put,sxA,sxB,sxC,sxD,sxE,sxF]
         refine tkS 4 (.slice (some ⟨g,0,none⟩) rs.length vc8) ?_;try simp only [Act.put,sxA,sxB,sxC,sxD,sxE,sxF]
         refine tkS 5 (.int .i64 k) ?_;try simp only [Act.put,sxA,sxB,sxC,sxD,sxE,sxF]
         refine tkS 6 (.pointer (some ⟨g,k*17,none⟩)) ?_;try simp only [Act.put,sxA,sxB,sxC,sxD,sxE,sxF]
         refine tkS 7 (.pointer (some ⟨g,k*17+3,none⟩)) ?_;try simp only [Act.put,sxA,sxB,sxC,sxD,sxE,sxF]
         refine tkL 8 (.agg gfr) ?_ ?_
         · intro w' hSw;exact exec_load_at _ _ rfl g (k*17+3) rfl gfr hSw.2 Tryz.underlying29 HIG.out
         try simp only [Act.put,sxA,sxB,sxC,sxD,sxE,sxF]
         refine wpAnyH_ready (rs:=[3]) (by kernel_rfl) (by simp) ?_
         refine AllReadyH.cons rfl (fun K' hK => ?_) AllReadyH.nil
         go_simp
         refine (HWH3.out _ ((Below.refl _ _).drew)).mono ?_
         rintro e w2 ⟨rfl,b2⟩
         have HB2:=Lib.hid (Below.then HB1b.out (Nat.le_refl _) (⟨b2.os,b2.tape,b2.output,b2.size,b2.block⟩:Below w1.heap.size w1 w2))
         go_wp2_with fail
         refine hK.out _ _ ⟨blk_below (w:=w1.drew) hHeld.1 b2,fun j u hu=>cell_below (w:=w1.drew) (hHeld.2 j u hu) b2⟩ (fun hHeld1 => ?_)
         clear hK K' b2
         try simp only [Act.put,sxA,sxB,sxC,sxD,sxE,sxF]
         refine wpAnyH_ready (rs:=[9]) (by kernel_rfl) (by simp) ?_
         refine AllReadyH.cons rfl (fun K' hK => ?_) AllReadyH.nil
         go_simp
         refine (HEQ.out _ HB2.out).mono ?_
         rintro e w3 ⟨rfl,b3⟩
         have HB3b:=Lib.hid (Below.then HBL.out (Nat.le_refl _) (Below.then HB2.out (Nat.le_refl _) b3))
         go_wp2_with fail
         refine hK.out _ _ ⟨blk_below hHeld1.1 b3,fun j u hu=>cell_below (hHeld1.2 j u hu) b3⟩ (fun hHeld2 => ?_)
         clear hK K' b3
         try simp only [Act.put,sxA,sxB,sxC,sxD,sxE,sxF]
         refine tkS 10 (.bool false) ?_;try simp only [Act.put,sxA,sxB,sxC,sxD,sxE,sxF]
         refine wpAnyH_done (by kernel_rfl) ?_ _
         go_wp2_with fail
         go_roundw
         case rel=>exact ⟨k+1,by omega,by go_num,HB3b.out⟩
         case measure=>simp [intOf];omega
     have b5:(x.ty==5)=false:=beq_false_of_ne t5
     obtain rfl:pdo=pq:=by rw [HPD2,if_neg fun h=>h.1.elim T1.out t5]
     clear HPD2 t5
     go_wp2_with fail
     refine wp_region_held_drew (S:=fun w'=>w'.heap[wr.heap.size]? = some (.cells fr 29 (0,0)) ∧ ∀j u,gfr[j]? = some u→w'.cell? ⟨g,k*17+3+j,none⟩=some u) (by kernel_rfl) (show w1.drew.heap[wr.heap.size]? = _∧_ from ⟨HBK.out,HGC1.out⟩) (fun hHeld => ?_)
     refine tkL 0 (.agg fr) ?_ ?_
     · intro w' hSw;exact exec_load_at _ _ rfl wr.heap.size 0 rfl fr (fun j v hj=>by rw [Nat.zero_add,blk_cell hSw.1];exact hj) Tryz.underlying29 HIF.out
     try simp only [Act.put,sxA,sxB,sxC,sxD,sxE,sxF]
     refine tkS 1 (.slice qa pn qc) ?_;try simp only [Act.put,sxA,sxB,sxC,sxD,sxE,sxF]
     refine tkS 2 (.bool pdo) ?_;try simp only [Act.put,sxA,sxB,sxC,sxD,sxE,sxF]
     refine tkS 4 (.slice (some ⟨g,0,none⟩) rs.length vc8) ?_;try simp only [Act.put,sxA,sxB,sxC,sxD,sxE,sxF]
     refine tkS 5 (.int .i64 k) ?_;try simp only [Act.put,sxA,sxB,sxC,sxD,sxE,sxF]
     refine tkS 6 (.pointer (some ⟨g,k*17,none⟩)) ?_;try simp only [Act.put,sxA,sxB,sxC,sxD,sxE,sxF]
     refine tkS 7 (.pointer (some ⟨g,k*17+3,none⟩)) ?_;try simp only [Act.put,sxA,sxB,sxC,sxD,sxE,sxF]
     refine tkL 8 (.agg gfr) ?_ ?_
     · intro w' hSw;exact exec_load_at _ _ rfl g (k*17+3) rfl gfr hSw.2 Tryz.underlying29 HIG.out
     try simp only [Act.put,sxA,sxB,sxC,sxD,sxE,sxF]
     refine wpAnyH_ready (rs:=[3]) (by kernel_rfl) (by simp) ?_
     refine AllReadyH.cons rfl (fun K' hK => ?_) AllReadyH.nil
     go_simp
     refine (HWH3.out _ ((Below.refl _ _).drew)).mono ?_
     rintro e w2 ⟨rfl,b2⟩
     have HB2:=Lib.hid (Below.then HB1b.out (Nat.le_refl _) (⟨b2.os,b2.tape,b2.output,b2.size,b2.block⟩:Below w1.heap.size w1 w2))
     go_wp2_with fail
     refine hK.out _ _ ⟨blk_below (w:=w1.drew) hHeld.1 b2,fun j u hu=>cell_below (w:=w1.drew) (hHeld.2 j u hu) b2⟩ (fun hHeld1 => ?_)
     clear hK K' b2
     try simp only [Act.put,sxA,sxB,sxC,sxD,sxE,sxF]
     refine wpAnyH_ready (rs:=[9]) (by kernel_rfl) (by simp) ?_
     refine AllReadyH.cons rfl (fun K' hK => ?_) AllReadyH.nil
     go_simp
     refine (HEQ.out _ HB2.out).mono ?_
     rintro e w3 ⟨rfl,b3⟩
     have HB3b:=Lib.hid (Below.then HBL.out (Nat.le_refl _) (Below.then HB2.out (Nat.le_refl _) b3))
     go_wp2_with fail
     refine hK.out _ _ ⟨blk_below hHeld1.1 b3,fun j u hu=>cell_below (hHeld1.2 j u hu) b3⟩ (fun hHeld2 => ?_)
     clear hK K' b3
     try simp only [Act.put,sxA,sxB,sxC,sxD,sxE,sxF]
     refine tkS 10 (.bool false) ?_;try simp only [Act.put,sxA,sxB,sxC,sxD,sxE,sxF]
     refine wpAnyH_done (by kernel_rfl) ?_ _
     go_wp2_with fail
     go_roundw
     case rel=>exact ⟨k+1,by omega,by go_num,HB3b.out⟩
     case measure=>simp [intOf];omega
   · obtain rfl:k=fs.length:=by omega
     go_wp2_with fail
     refine (reads_any (HV.out.below hbel) (Nat.le_trans hBw hbel.size)).mono ?_
     rintro e w6' ⟨rfl,b6'⟩
     have HBZ:=Lib.hid (Below.then hbel (Nat.le_refl _) b6')
     clear b6'
     go_wp2_with fail
     go_ret
     exact ⟨rfl,HBZ.out⟩
end Go.Proofs.YtfdlbjibninakaaGreatDoor
