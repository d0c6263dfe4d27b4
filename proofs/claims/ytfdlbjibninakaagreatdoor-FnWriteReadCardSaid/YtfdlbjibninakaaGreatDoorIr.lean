/- impl.Read: all frames of some data, as the plain model reads them. -/
import Derived.Test.YtfdlbjibninakaaGreatDoorIp
import Derived.Test.YtfdlbjibninakaaGreatDoorIpS
import Derived.Test.YtfdlbjibninakaaGreatDoorIpG
import Derived.Test.YtfdlbjibninakaaGreatDoorFrd
import Derived.Test.YtfdlbjibninakaaGreatDoorSb
import Derived.Test.YtfdlbjibninakaaGreatDoorCf
import Derived.Deep.LoopGhost
set_option linter.unusedVariables false
set_option linter.unusedSimpArgs false
namespace Go.Proofs.YtfdlbjibninakaaGreatDoor
open Go.RowKit
theorem FrB.hd {h:Hd} {x:Fr} (hb:FrB x) (h1:x.ty=h.ty) (h2:x.fl=h.fl) (h3:x.ln=h.ln):HdB h:=⟨h1▸hb.t0,h1▸hb.t1,h2▸hb.f0,h2▸hb.f1,h3▸hb.l0,h3▸hb.l1⟩
theorem FrC.ofBlk {w:World} {p:Nat} {cs:Array Value} {t:TypeId} {h:Hd} (hp:w.heap[p]? = some (.cells cs t (0,0))) (h0:cs[0]? = some (.bool true)) (h1:cs[1]? = some (.int .u8 h.ty)) (h2:cs[2]? = some (.int .u8 h.fl)) (h3:cs[3]? = some (.int .u32 h.ln)) (h4:cs[4]? = some (.int .u32 h.st)):FrC w p h:=
 ⟨(blk_cell hp 0).trans h0,(blk_cell hp 1).trans h1,(blk_cell hp 2).trans h2,(blk_cell hp 3).trans h3,(blk_cell hp 4).trans h4⟩
theorem plain_any {A:Nat} {w:World} {fv:Value} {x:Fr} (hf:FrV A w fv x) (hb:FrB x):Calls Tryz.prog 30 #[fv] w (PlnEnd w x):=by
 have hd:=hb.dl
 cases hf with
 | data h b p v hB hp hv =>
   have hv':=hv
   obtain ⟨a,c,rfl,-,-,-⟩:=hv'
   exact plain_data (hb.hd rfl rfl rfl) (.ofBlk hp rfl rfl rfl rfl rfl) (blk_cell hp 5) hv (by have:b.length≤16777215:=hd;omega)
 | headers h b p v dep wt ex hB hp hv =>
   have hv':=hv
   obtain ⟨a,c,rfl,-,-,-⟩:=hv'
   exact plain_headers (hb.hd rfl rfl rfl) (.ofBlk hp rfl rfl rfl rfl rfl) (blk_cell hp 5) (blk_cell hp 6) (blk_cell hp 7) (blk_cell hp 8) (blk_cell hp 9) hb.w0 hb.w1 (blk_cell hp 10) hv (by have:b.length≤16777215:=hd;omega)
 | priority h p dep wt ex hB hp=>exact plain_priority (hb.hd rfl rfl rfl) (.ofBlk hp rfl rfl rfl rfl rfl) (blk_cell hp 5) (blk_cell hp 6) (blk_cell hp 7) (blk_cell hp 8) (blk_cell hp 9) hb.w0 hb.w1
 | rst h p co hB hp=>exact plain_rst (hb.hd rfl rfl rfl) (.ofBlk hp rfl rfl rfl rfl rfl) (blk_cell hp 5)
 | settings h b p v hB hp hv h6 hbs =>
   have hv':=hv
   obtain ⟨a,c,rfl,-,-,-⟩:=hv'
   have hs:=hb.sl
   refine plain_settings (hb.hd rfl rfl rfl) (.ofBlk hp rfl rfl rfl rfl rfl) (blk_cell hp 5) hv hbs ?_
   have:(pairs (b.length / 6) b).length*6≤16777215:=hs
   rw [pairs_len'] at this
   omega
 | push h b p v pr hB hp hv =>
   have hv':=hv
   obtain ⟨a,c,rfl,-,-,-⟩:=hv'
   exact plain_push (hb.hd rfl rfl rfl) (.ofBlk hp rfl rfl rfl rfl rfl) (blk_cell hp 5) (blk_cell hp 6) hv (by have:b.length≤16777215:=hd;omega)
 | ping h b p cs hB hp hz h0 h1 h2 h3 h4 hd' hl =>
   exact plain_ping (hb.hd rfl rfl rfl) (.ofBlk hp h0 h1 h2 h3 h4) (fun j y hj=>(blk_cell hp (5+j)).trans (hd' j y hj)) hl
 | goaway h b p v la co hB hp hv =>
   have hv':=hv
   obtain ⟨a,c,rfl,-,-,-⟩:=hv'
   exact plain_goaway (hb.hd rfl rfl rfl) (.ofBlk hp rfl rfl rfl rfl rfl) (blk_cell hp 5) (blk_cell hp 6) (blk_cell hp 7) hv (by have:b.length≤16777215:=hd;omega)
 | window h p inc hB hp=>exact plain_window (hb.hd rfl rfl rfl) (.ofBlk hp rfl rfl rfl rfl rfl) (blk_cell hp 5)
 | cont h b p v hB hp hv =>
   have hv':=hv
   obtain ⟨a,c,rfl,-,-,-⟩:=hv'
   exact plain_cont (hb.hd rfl rfl rfl) (.ofBlk hp rfl rfl rfl rfl rfl) (blk_cell hp 5) hv (by have:b.length≤16777215:=hd;omega)
 | update h b p pr hB hp hl hbs=>exact plain_update (hb.hd rfl rfl rfl) (.ofBlk hp rfl rfl rfl rfl rfl) (blk_cell hp 5) (blk_cell hp 6) hbs (by have:b.length≤16777215:=hd;omega)
 | unknown h b p v hB hp hv =>
   have hv':=hv
   obtain ⟨a,c,rfl,-,-,-⟩:=hv'
   exact plain_unknown (hb.hd rfl rfl rfl) (.ofBlk hp rfl rfl rfl rfl rfl) (blk_cell hp 5) hv (by have:b.length≤16777215:=hd;omega)
end Go.Proofs.YtfdlbjibninakaaGreatDoor

namespace Go.Proofs.YtfdlbjibninakaaGreatDoor
set_option maxRecDepth 10000
set_option maxHeartbeats 4000000
open Go.RowKit
theorem GV.mono {B B':Nat} {w:World} {aE aU aT:Addr} (h:GV B w aE aU aT) (hB:B≤B'):GV B' w aE aU aT:=
 ⟨h.e,h.u,h.t,h.et,h.be,h.bu,h.bt,h.eu,h.et',h.ut,Nat.le_trans h.ge hB,Nat.lt_of_lt_of_le h.le hB,Nat.lt_of_lt_of_le h.lu hB,Nat.lt_of_lt_of_le h.lt hB⟩
theorem FrV.below {A:Nat} {w w':World} {fv:Value} {x:Fr} (h:FrV A w fv x) (hk:Below w.heap.size w w'):FrV A w' fv x:=by
 cases h with
 | data h b p v hB hp hv=>exact .data h b p v hB (blk_below hp hk) (hv.below hk)
 | headers h b p v dep wt ex hB hp hv=>exact .headers h b p v dep wt ex hB (blk_below hp hk) (hv.below hk)
 | priority h p dep wt ex hB hp=>exact .priority h p dep wt ex hB (blk_below hp hk)
 | rst h p co hB hp=>exact .rst h p co hB (blk_below hp hk)
 | settings h b p v hB hp hv h6 hbs=>exact .settings h b p v hB (blk_below hp hk) (hv.below hk) h6 hbs
 | push h b p v pr hB hp hv=>exact .push h b p v pr hB (blk_below hp hk) (hv.below hk)
 | ping h b p cs hB hp hz h0 h1 h2 h3 h4 hd hl=>exact .ping h b p cs hB (blk_below hp hk) hz h0 h1 h2 h3 h4 hd hl
 | goaway h b p v la co hB hp hv=>exact .goaway h b p v la co hB (blk_below hp hk) (hv.below hk)
 | window h p inc hB hp=>exact .window h p inc hB (blk_below hp hk)
 | cont h b p v hB hp hv=>exact .cont h b p v hB (blk_below hp hk) (hv.below hk)
 | update h b p pr hB hp hl hbs=>exact .update h b p pr hB (blk_below hp hk) hl hbs
 | unknown h b p v hB hp hv=>exact .unknown h b p v hB (blk_below hp hk) (hv.below hk)
section
variable {B : Nat} {K : Nat → Prop} {aE aU aT : Addr} {w w' : World} {bF cl bR : Nat} {m o : Int} {L ps : List Int} {cs : Array Value} {lf rb rest pcs : Value} {at' : Nat}
theorem RSt.after (h:RSt B K aE aU aT w bF cl bR m o L ps cs lf rb rest pcs at') (hk:Kept (fun k=>k<B ∨ ¬K k) w w'):RSt B (fun k=>K k∨(w.heap.size≤k∧k<w'.heap.size)) aE aU aT w' bF cl bR m o L ps cs lf rb rest pcs at':=by
 have hb:Kept (· < B) w w':=hk.mono fun k h _ => .inl h
 have hs:=hk.size
 have lF:=lt_of_block h.F
 have lC:=lt_of_block h.C
 have lR:=lt_of_block h.R.R
 have nn:∀{k},¬K k→k<w.heap.size → ¬(K k∨(w.heap.size≤k∧k<w'.heap.size)):=fun h1 h2 h=>h.elim h1 (fun h=>by omega)
 refine ⟨h.V.kept hb (fun k hk=>hk),hk.at (.inr h.kF) h.F,h.fs,hk.at (.inr h.kC) h.C,⟨hk.at (.inr h.kR) h.R.R,h.R.rest.kept hb h.rk0,h.R.pcs.kept hb h.pk0,h.R.lim⟩,h.lim,h.bs,h.rk0,h.pk0,?_,?_,nn h.kF lF,nn h.kC lC,nn h.kR lR,?_,fun k hk => .inl (h.gl k hk),h.o0,h.m0,h.m1⟩
 · rcases h.rb with e|⟨g,n,cap,bc,e,h1,h2,h3,h4,h5⟩
   · exact .inl e
   · exact .inr ⟨g,n,cap,bc,e,hk.at (.inr h5) h1,h2,h3,h4,nn h5 (lt_of_block h1)⟩
 · rcases h.lf with e|⟨T,p,c,t,v,e,h1,h2,h3,h4,h5⟩
   · exact .inl e
   · exact .inr ⟨T,p,c,t,v,e,h1,hk.at (.inr h5) h2,h3,h4,nn h5 (lt_of_block h2)⟩
 · intro k hk'
   rcases hk' with h1|h1
   · have:=h.lt k h1;omega
   · exact h1.2
end
theorem rdI_lt {k:IntKind} {w:World} {v:Value} {l:List Int} (h:RdI k w v l):inK (· < w.heap.size) v:=by
 obtain ⟨a,c,rfl,-,-,h3⟩:=h
 cases a with
 | none=>trivial
 | some a =>
   cases l with
   | nil=>exact .inl rfl
   | cons y l =>
     obtain ⟨b,o,e,hc⟩:=h3 0 y rfl
     cases e
     exact .inr (World.block_lt_of_cell? _ _ hc)
theorem rdP_lt {w:World} {v:Value} {l:List (Int × Int)} (h:RdP w v l):inK (· < w.heap.size) v:=by
 obtain ⟨a,c,rfl,-,-,h3⟩:=h
 cases a with
 | none=>trivial
 | some a =>
   cases l with
   | nil=>exact .inl rfl
   | cons y l =>
     obtain ⟨b,o,e,hc,-⟩:=h3 0 y rfl
     cases e
     exact .inr (World.block_lt_of_cell? _ _ hc)
theorem inK.and {K K':Nat→Prop} {v:Value} (h:inK K v) (g:inK K' v):inK (fun k=>K k∧K' k) v:=by
 cases v with
 | slice a n c=>cases a with
   | none=>trivial
   | some a=>exact h.elim .inl fun h=>g.elim .inl fun g => .inr ⟨h,g⟩
 | _=>trivial
def framerR (cl bR:Nat) (m:Int):Array Value:=
 #[.iface 69 (.pointer (some ⟨bR,0,none⟩)),.nilIface,.nilIface,.func (.func 44) #[] #[],.int .u32 0,.int .u8 0,.int .u32 m,
   .int .u8 0,.int .u8 0,.int .u8 0,.int .u8 0,.int .u8 0,.int .u8 0,.int .u8 0,.int .u8 0,.int .u8 0,
   .func (.func 45) #[] #[.pointer (some ⟨cl,0,none⟩)],.slice none 0 0,.int .u32 0,.nilIface,.slice none 0 0,.bool false,.bool false,.pointer none]
theorem framerR_fs (cl bR:Nat) (m:Int):FS (framerR cl bR m) cl bR .nilIface 0 m (.slice none 0 0):=⟨rfl,rfl,rfl,rfl,rfl,rfl,rfl,rfl,rfl,rfl⟩
theorem newFramer_r (bR:Nat) (w:World) :
   Calls Tryz.prog 26 #[.nilIface,.iface 69 (.pointer (some ⟨bR,0,none⟩))] w fun e w'=>e = .returned (.pointer (some ⟨w.heap.size,0,none⟩)) ∧
     ((w.alloc (.cells (framerR (w.heap.size+1) bR 16777215) 86)).alloc (.cells #[.pointer (some ⟨w.heap.size,0,none⟩)] 67))=w':=by
 go_enter Tryz.func26,Tryz.ntmps26
 go_wp2_with (go_at_call 27;refine (setMax_any _ 0 _ _ (by omega) (by omega) (by simp) (by simp)).mono ?_;rintro e w' ⟨rfl,rfl⟩)
 go_ret
 exact ⟨rfl,rfl⟩
def NewFr (w:World) (n bR:Nat) (e:Ending) (w':World):Prop:=e = .returned (.pointer (some ⟨n,0,none⟩))∧w'.heap[n]? = some (.cells (framerR (n+1) bR 16777215) 86 (0,0)) ∧
 w'.heap[n+1]? = some (.cells #[.pointer (some ⟨n,0,none⟩)] 67 (0,0))∧Below n w w'
theorem newFramer_o (bR n:Nat) (w:World) (hn:w.heap.size=n):Calls Tryz.prog 26 #[.nilIface,.iface 69 (.pointer (some ⟨bR,0,none⟩))] w (NewFr w n bR):=by
 subst hn
 refine (newFramer_r bR w).mono ?_
 rintro e w' ⟨rfl,rfl⟩
 exact ⟨rfl,blk_alloc (blk_new w _),blk_at _ _ (by simp),(((Kept.refl (· < w.heap.size) w).alloc _).alloc _).below (Nat.le_refl _)⟩
theorem RSt.new {B:Nat} {aE aU aT:Addr} {w W:World} {m:Int} {L ps:List Int} {data pcs:Value} (hV:GV B w aE aU aT) (hB:B≤w.heap.size) (hd:RdB w data L) (hp:RdI .i64 w pcs ps) (bs:Bs L) (lim:L.length≤1000000000000) (hk:Kept (· < w.heap.size) w W)
   (hR:W.heap[w.heap.size]? = some (.cells #[data,pcs,.int .i64 0] 71 (0,0))) (hF:W.heap[w.heap.size+1]? = some (.cells (framerR (w.heap.size+2) w.heap.size m) 86 (0,0)))
   (hC:W.heap[w.heap.size+2]? = some (.cells #[.pointer (some ⟨w.heap.size+1,0,none⟩)] 67 (0,0))) (m0:0≤m) (m1:m≤16777215) :
   RSt w.heap.size (· < w.heap.size) aE aU aT W (w.heap.size+1) (w.heap.size+2) w.heap.size m 0 L ps (framerR (w.heap.size+2) w.heap.size m) .nilIface (.slice none 0 0) data pcs 0:=
 ⟨(hV.mono hB).kept hk (fun _ h=>h),hF,framerR_fs _ _ _,hC,⟨hR,hd.kept hk (rdI_lt hd),hp.kept hk (rdI_lt hp),by omega⟩,by omega,bs,rdI_lt hd,rdI_lt hp,.inl rfl,.inl rfl,by omega,by omega,by omega,fun k h=>Nat.lt_of_lt_of_le h hk.size,fun _ h=>h,by omega,m0,m1⟩
theorem ERi:Elem Tryz.prog 34 65 17 128 (.agg (rsC 0 0 0 (frX Fr.zero (.slice none 0 0) (.slice none 0 0)))):=⟨Tryz.underlying34,by kernel_rfl,rfl,by decide⟩
theorem fold17 {fr:Array Value} (hsz:fr.size=17) (z:Array Value) (hz:z.size=17):Array.foldl (fun (cs:Array Value) (x:Value × Nat)=>cs.setIfInBounds x.snd x.fst) z (fr.zipIdx 0) 0 17=fr:=by
 apply Array.toList_inj.1
 obtain ⟨l⟩:=fr
 obtain ⟨k⟩:=z
 match l,k,hsz,hz with
 | [c0,c1,c2,c3,c4,c5,c6,c7,c8,c9,c10,c11,c12,c13,c14,c15,c16],[d0,d1,d2,d3,d4,d5,d6,d7,d8,d9,d10,d11,d12,d13,d14,d15,d16],_,_=>simp
def IrHead (w:World) (aE aU aT:Addr) (m:Int) (L0 ps:List Int) (pcs:Value) (k:Nat) (out:Value) (wr:World):Prop:=
 ∃K o L cs lf rb rest at' rs xs,k=L.length∧RSt w.heap.size K aE aU aT wr (w.heap.size+1) (w.heap.size+2) w.heap.size m o L ps cs lf rb rest pcs at'∧Row wr 65 17 out rs.length xs∧RsAll (fun j=>K j∧out.ownBlock≠some j) wr xs rs ∧
   (∀j,out.ownBlock=some j→K j∧w.heap.size≤j)∧Below w.heap.size w wr∧readAll m 0 L0=rs++readAll m o L∧rs.length+L.length≤L0.length
theorem ir_step {w wr w1 w5 w7:World} {K:Nat→Prop} {ob:Obj} {out out':Value} {rs:List Rs} {xs:List Value} {r:Rs} {dv sv:Value} (hK:∀k,K k→k<wr.heap.size) (hg:∀k,k<w.heap.size→K k) (hk1:Kept K wr w1) (B15:Below w1.heap.size w1 w5)
   (ha:RsAll (fun j=>K j∧out.ownBlock≠some j) wr xs rs) (hoK:∀j,out.ownBlock=some j→K j∧w.heap.size≤j) (hbel:Below w.heap.size w wr) (hgrow:(w5.alloc ob).grownBy w7 out.ownBlock)
   (hown:Row w7 65 17 out' (rs.length+1) (xs++(rsX r dv sv).toList)) (hat:out'.ownBlock=out.ownBlock∨out'.ownBlock=some (w5.alloc ob).heap.size)
   (hd:RdB w5 dv r.x.data) (fd:inK (w1.heap.size ≤ ·) dv) (hs:RdP w5 sv r.x.set) (fs:inK (w1.heap.size ≤ ·) sv) :
   Row w7 65 17 out' (rs ++ [r]).length (xs++(rsX r dv sv).toList)∧RsAll (fun j=>(K j∨(w1.heap.size≤j∧j<w7.heap.size))∧out'.ownBlock≠some j) w7 (xs++(rsX r dv sv).toList) (rs ++ [r]) ∧
     (∀j,out'.ownBlock=some j→(K j∨(w1.heap.size≤j∧j<w7.heap.size))∧w.heap.size≤j)∧Below w.heap.size w w7∧Kept (fun k=>k<w.heap.size ∨ ¬K k) w1 w7:=by
 have s1:=hk1.size
 have s5:=B15.size
 have s7:=hgrow.size
 have s0:=hbel.size
 have sa:(w5.alloc ob).heap.size=w5.heap.size+1:=by simp
 rw [sa] at s7 hat
 have hob:∀j,out.ownBlock=some j→j<wr.heap.size:=fun j e=>hK j (hoK j e).1
 have k57:∀{J:Nat→Prop},(∀k,out.ownBlock=some k→J k→False)→Kept J w5 w7:=fun {J} hJ=>((Kept.refl J w5).alloc ob).grown hgrow (fun k e h=>(hJ k e h).elim)
 have k17:∀{J:Nat→Prop},(∀k,out.ownBlock=some k→J k→False)→Kept J w1 w7:=fun {J} hJ=>(Kept.all B15).trans (k57 hJ)
 refine ⟨by rw [List.length_append];exact hown,?_,?_,?_,?_⟩
 · have ne':∀k,k<w5.heap.size→out.ownBlock≠some k→out'.ownBlock≠some k:=by
     intro k hk hne e
     rcases hat with h|h
     · exact hne (h.symm.trans e)
     · rw [h] at e;cases e;omega
   refine RsAll.snoc ?_ (hd.kept (k57 (J:=(w1.heap.size ≤ ·)) fun k e h=>by have:=hob k e;omega) fd) ?_ (hs.kept (k57 (J:=(w1.heap.size ≤ ·)) fun k e h=>by have:=hob k e;omega) fs) ?_
   · refine (((ha.kept (hk1.mono fun k h _=>h.1)).stay B15).kept (k57 fun k e h=>h.2 e)).mono fun k h=>⟨.inl h.1,ne' k (by have:=hK k h.1;omega) h.2⟩
   · exact (inK.and fd (rdI_lt hd)).mono' fun k h=>⟨.inr ⟨h.1,by omega⟩,ne' k h.2 fun e=>by have:=hob k e;omega⟩
   · exact (inK.and fs (rdP_lt hs)).mono' fun k h=>⟨.inr ⟨h.1,by omega⟩,ne' k h.2 fun e=>by have:=hob k e;omega⟩
 · intro j e
   rcases hat with h|h
   · exact ⟨.inl (hoK j (h.symm.trans e)).1,(hoK j (h.symm.trans e)).2⟩
   · have hlt:=own_lt hown j e
     rw [h] at e
     cases e
     exact ⟨.inr ⟨by omega,hlt⟩,by omega⟩
 · exact (Kept.ofBelow hbel).trans ((hk1.mono fun k h _=>hg k h).trans (k17 fun k e h=>by have:=(hoK k e).2;omega)) |>.below (Nat.le_refl _)
 · exact k17 fun k e h=>h.elim (fun h=>by have:=(hoK k e).2;omega) (fun h=>h (hoK k e).1)
theorem rs_join (x:Fr) (dv sv:Value):((rsX (.bad 0 0 0) (.slice none 0 0) (.slice none 0 0)).toList.take 3++(frX x dv sv).toList++(rsX (.bad 0 0 0) (.slice none 0 0) (.slice none 0 0)).toList.drop (3+(frX x dv sv).size)).toArray=rsX (.ok x) dv sv:=rfl
theorem readAll_snoc {m o:Int} {L0 L1:List Int} {rs:List Rs} {r:Rs} (hall:readAll m 0 L0=rs++readAll m o L1) {z:Rs × Int × List Int} (hz:one m o L1=z) (hr:z.1=r) (hg:r.going=true):readAll m 0 L0=(rs ++ [r])++readAll m z.2.1 z.2.2:=by
 subst hz
 subst hr
 rw [hall,readAll_go hg,List.append_assoc,List.singleton_append]
theorem ir_next {w w1 w7:World} {aE aU aT:Addr} {K:Nat→Prop} {m o2:Int} {L0 L2 ps:List Int} {cs:Array Value} {lf rb rest pcs:Value} {at2:Nat} {out':Value} {rs:List Rs} {r:Rs} {xs:List Value}
   (hS:RSt w.heap.size K aE aU aT w1 (w.heap.size+1) (w.heap.size+2) w.heap.size m o2 L2 ps cs lf rb rest pcs at2)
   (st:Row w7 65 17 out' (rs ++ [r]).length xs∧RsAll (fun j=>(K j∨(w1.heap.size≤j∧j<w7.heap.size))∧out'.ownBlock≠some j) w7 xs (rs ++ [r]) ∧
     (∀j,out'.ownBlock=some j→(K j∨(w1.heap.size≤j∧j<w7.heap.size))∧w.heap.size≤j)∧Below w.heap.size w w7∧Kept (fun k=>k<w.heap.size ∨ ¬K k) w1 w7)
   (he:readAll m 0 L0=(rs ++ [r])++readAll m o2 L2) (hl:(rs ++ [r]).length+L2.length≤L0.length):IrHead w aE aU aT m L0 ps pcs L2.length out' w7:=
 ⟨_,o2,L2,cs,lf,rb,rest,at2,rs ++ [r],xs,rfl,hS.after st.2.2.2.2,st.1,st.2.1,st.2.2.1,st.2.2.2.1,he,hl⟩
end Go.Proofs.YtfdlbjibninakaaGreatDoor

namespace Go.Proofs.YtfdlbjibninakaaGreatDoor
set_option maxRecDepth 10000
set_option maxHeartbeats 16000000
open Go.RowKit
def mxOf (mx:Int):Int:=if 0<mx then mx else 16777215
theorem mxOf_pos {mx:Int} (h:0<mx):mxOf mx=mx:=if_pos h
theorem mxOf_neg {mx:Int} (h:¬0<mx):mxOf mx=16777215:=if_neg h
theorem implRead_max {B:Nat} {aE aU aT:Addr} {w:World} {L ps:List Int} {data pcs:Value} (hV:GV B w aE aU aT) (hB:B≤w.heap.size) (hd:RdB w data L) (hp:RdI .i64 w pcs ps) (bs:Bs L) (lim:L.length≤100000000) (mx:Int) (mx0:0≤mx) (mx1:mx≤16777215) (hmx:0<mx) :
   Calls Tryz.prog 10 #[data,pcs,.int .i64 mx,.bool false] w (ResEnd 65 w (readAll (mxOf mx) 0 L)):=by
 obtain ⟨m,hm⟩:∃m,mxOf mx=m:=⟨_,rfl⟩
 rw [hm]
 have hd':=hd
 have hp':=hp
 obtain ⟨da,dc,rfl,-,-,-⟩:=hd'
 obtain ⟨pa,pc,rfl,-,-,-⟩:=hp'
 have HD:=Lib.hid hd
 have HP:=Lib.hid hp
 have HM:=Lib.hid hm
 clear hd hp hm
 go_enter Tryz.func10,Tryz.ntmps10
 go_wp2_with (first
   | (go_at_call 26;refine (newFramer_o _ (w.heap.size+1) _ (by simp)).mono ?_;rintro e W ⟨rfl,hF,hC,hW⟩;have hR:=(Kept.ofBelow hW).at (Nat.lt_succ_self _) (blk_new w _);have c22:W.cell? ⟨w.heap.size+1,22,none⟩=some (.bool false):=(blk_cell hF 22).trans rfl;have f22:=blk_free hF 22;have hF2:=blk_set hF 22 (.bool false))
   | (go_at_call 27;refine (setMax_any _ 16777215 mx _ mx0 mx1 ((blk_cell hF2 6).trans rfl) (blk_free hF2 6)).mono ?_;rintro e w' ⟨rfl,rfl⟩))
 have HI:Hid (IrHead w aE aU aT m L ps (.slice pa ps.length pc) L.length (.slice none 0 0) ((W.setCell ⟨w.heap.size+1,22,none⟩ (.bool false)).setCell ⟨w.heap.size+1,6,none⟩ (.int .u32 mx))):=by
   have hk:Kept (· < w.heap.size) w W:=((Kept.refl _ w).alloc _).trans ((Kept.ofBelow hW).mono fun k h _=>by omega)
   have hkk:Kept (· < w.heap.size) w ((W.setCell ⟨w.heap.size+1,22,none⟩ (.bool false)).setCell ⟨w.heap.size+1,6,none⟩ (.int .u32 mx)):=(hk.setCell (fun _=>Nat.le_succ _) _).setCell (fun _=>Nat.le_succ _) _
   have hm':m=mx:=by rw [←HM.out];exact mxOf_pos hmx
   refine Lib.hid ⟨(· < w.heap.size),0,L,_,_,_,_,0,[],[],rfl,RSt.new hV hB HD.out HP.out bs (by omega) hkk (blk_set_other (blk_set_other hR (by simp) _) (by simp) _) (blk_to (blk_set hF2 6 _) (by rw [hm'];rfl)) (blk_set_other (blk_set_other hC (by simp) _) (by simp) _) (by omega) (by omega),World.ownsRow_nil _ _ _ _,.nil,fun j h=>by (cases h),hkk.below (Nat.le_refl _),rfl,by simp⟩
 clear hF hC hR hW hF2 c22 f22
 go_loopg [10] L.length (fun k out wr=>IrHead w aE aU aT m L ps (.slice pa ps.length pc) k out wr)
 case atStart=>exact HI.out
 case round =>
   obtain ⟨K,o,L1,cs,lf,rb,rest,at1,rs,xs,hgk,hS,hr,ha,hoK,hbel,hall,hlen⟩:=hrel
   clear HI
   have HG:=Lib.hid hgk
   have HALL:=Lib.hid hall
   obtain ⟨oa,oc,rfl,hoc,hom⟩:=own_shape hr
   clear hgk hall
   have hfr:=frame_any hS
   obtain ⟨z,hz⟩:∃z,one m o L1=z:=⟨_,rfl⟩
   rw [hz] at hfr
   have HZ:=Lib.hid hz
   clear hz
   have HOK:=Lib.hid hoK
   clear hoK
   go_wp2_with (go_at_call 28;refine hfr.mono ?_;rintro e w1 ⟨fv,ev,rfl,hk1,hgo,hres⟩)
   clear hfr
   have HGO:=Lib.hid hgo
   clear hgo
   have hV1:=hS.V.kept hk1 hS.gl
   obtain ⟨fr0,hfr0⟩:∃fr,rsX (.bad 0 0 0) (.slice none 0 0) (.slice none 0 0)=fr:=⟨_,rfl⟩
   rcases hres with ⟨x,A,hzx,rfl,hfv,hxb⟩|⟨f,c,s,hzb,hf0,hfs,rfl,rfl⟩
   · have HZX:=Lib.hid hzx
     clear hzx
     have hsz0:fr0.size=17:=by rw [←hfr0];rfl
     have hi0:(Tryz.prog.info? 65).map (·.size)=some fr0.size:=by rw [hsz0];exact infoRi
     have h10:∀u∈fr0.toList,u.oneCell'=true:=by rw [←hfr0];exact rsX_one _ _ _ _ _ _ _
     have hs3:∀dv sv,3+(frX x dv sv).size≤fr0.size:=fun _ _=>by rw [hsz0];exact Nat.le_refl _
     have hjn:∀dv sv,(fr0.toList.take 3++(frX x dv sv).toList++fr0.toList.drop (3+(frX x dv sv).size)).toArray=rsX (.ok x) dv sv:=fun dv sv=>by rw [←hfr0];exact rs_join x dv sv
     have hfa:Calls Tryz.prog 29 #[.nilIface] w1 fun e w'=>e = .returned (.agg fr0)∧Below w1.heap.size w1 w':=by rw [←hfr0];exact fault_nil w1
     have HJ:=Lib.hid hjn
     clear hfr0 hjn
     refine hfa.mono ?_
     rintro e w2 ⟨rfl,b2⟩
     clear hfa
     go_wp2_with (first
       | (refine wpList_store_blk rfl _ _ _ rfl w2.heap.size rfl fr0 _ rfl 65 (blk_new _ _) hsz0 hi0 h10 ?_;intro w3 hb3 k3;have B13:=Below.step b2 (below_new k3))
       | (go_at_call 30;refine (plain_any (hfv.below B13) hxb).mono ?_;rintro e w4 ⟨dv,sv,rfl,b4,hd4,fd4,hs4,fs4⟩;obtain ⟨qa,qc,rfl,-,-,-⟩:=id hd4;obtain ⟨sa,sc,rfl,-,-,-⟩:=id hs4;have hb4:=blk_below hb3 b4)
       | (refine wpList_store_at rfl 63 _ _ rfl w2.heap.size 3 rfl (frX x (.slice qa x.data.length qc) (.slice sa x.set.length sc)) fr0 rfl 65 hb4 (hs3 _ _) infoFi (frX_one _ _ _ _ _ _ _) ?_;intro w5 hb5 k5;rw [HJ.out] at hb5;obtain ⟨fr1,hfr1,hsz1,hi1,h11,hf1⟩:∃fr:Array Value,rsX (.ok x) (.slice qa x.data.length qc) (.slice sa x.set.length sc)=fr∧fr.size=17∧(Tryz.prog.info? 65).map (·.size)=some fr.size∧(∀u∈fr.toList,u.oneCell'=true)∧fr[0]? = some (.int .i64 0):=⟨_,rfl,rfl,infoRi,rsX_one _ _ _ _ _ _ _,rfl⟩;rw [hfr1] at hb5;have HF1:=Lib.hid hfr1;clear hfr1;have B15:Below w1.heap.size w1 w5:=Kept.below ((Kept.ofBelow (Below.step B13 b4)).trans (k5.mono fun k h _=>Nat.ne_of_lt (Nat.lt_of_lt_of_le h b2.size))) (Nat.le_refl _);have hr5:=own_below (own_kept hr hk1 fun g hg=>(HOK.out g hg).1) B15;have ne5:(Value.slice oa rs.length oc).ownBlock≠some w2.heap.size:=fun e=>absurd (own_lt hr _ e) (Nat.not_lt.2 (Nat.le_trans hk1.size b2.size)))
       | (refine wpList_load_blk rfl _ _ rfl w2.heap.size rfl fr1 65 hb5 Tryz.underlying65 hi1 ?_)
       | (at_builtin;rw [fold17 hsz1 _ rfl];refine wpList_app ERi rfl _ _ rfl (.slice oa rs.length oc) rs.length xs rfl (own_alloc hr5 _) 1 fr1.toList (src_of_block Tryz.underlying34 (blk_new w5 _) (by rw [hsz1]) h11) (by omega) (by unfold maxLen;omega) ?_;intro a' c' w7 hown hgrow hat;have hb7:=blk_grown (blk_alloc hb5) hgrow ne5;have c07:w7.cell? ⟨w2.heap.size,0,none⟩=some (.int .i64 0):=(blk_cell hb7 0).trans hf1))
     have hg:(one m o L1).1.going=true:=by rw [HZ.out,HZX.out];rfl
     have l3:=lt_of_block hb3
     have hd5:=hd4.kept k5 (fd4.mono' fun k h=>by omega)
     have hs5:=hs4.kept k5 (fs4.mono' fun k h=>by omega)
     have st:=ir_step (r:=.ok x) hS.lt hS.gl hk1 B15 ha HOK.out hbel hgrow (by rw [HF1.out];exact hown) hat hd5 (fd4.mono' fun k h=>by have:=B13.size;omega) hs5 (fs4.mono' fun k h=>by have:=B13.size;omega)
     obtain ⟨cs2,lf2,rb2,rest2,at2,hS2⟩:=HGO.out (by rw [HZX.out];rfl)
     have hless:=one_less hg
     rw [HZ.out] at hless
     have ST:=Lib.hid st
     have HS2:=Lib.hid hS2
     have HL:=Lib.hid hless
     have HGG:=Lib.hid hg
     clear st hS2 hless hg hd5 hs5
     go_roundg z.2.2.length
     case measure=>rw [HG.out];exact HL.out
     case rel=>exact ir_next HS2.out ST.out (readAll_snoc HALL.out HZ.out HZX.out rfl) (by rw [List.length_append];have:=HL.out;simp only [List.length_singleton];omega)
   · have HZX:=Lib.hid hzb
     clear hzb
     obtain ⟨T,v,hev⟩:=errV_if hfs hf0 aE aU aT
     obtain ⟨fr1,hfr1,hsz1,hi1,h11,hf1⟩:∃fr:Array Value,rsX (.bad f c s) (.slice none 0 0) (.slice none 0 0)=fr∧fr.size=17∧(Tryz.prog.info? 65).map (·.size)=some fr.size∧(∀u∈fr.toList,u.oneCell'=true)∧fr[0]? = some (.int .i64 f):=⟨_,rfl,rfl,infoRi,rsX_one _ _ _ _ _ _ _,rfl⟩
     have hfa:Calls Tryz.prog 29 #[.iface T v] w1 fun e w'=>e = .returned (.agg fr1)∧Below w1.heap.size w1 w':=by rw [←hfr1,←hev];exact fault_any hV1 f c s hfs
     rw [hev]
     have HF1:=Lib.hid hfr1
     have HEV:=Lib.hid hev
     clear hfr1 hfr0 hev
     refine hfa.mono ?_
     rintro e w2 ⟨rfl,b2⟩
     clear hfa
     have hb0:(f==0)=false:=beq_false_of_ne hf0
     by_cases hf5:f=5
     · subst hf5
       go_wp2_with (first
         | (refine wpList_store_blk rfl _ _ _ rfl w2.heap.size rfl fr1 _ rfl 65 (blk_new _ _) hsz1 hi1 h11 ?_;intro w5 hb5 k3;have B15:=Below.step b2 (below_new k3);have hr5:=own_below (own_kept hr hk1 fun g hg=>(HOK.out g hg).1) B15;have ne5:(Value.slice oa rs.length oc).ownBlock≠some w2.heap.size:=fun e=>absurd (own_lt hr _ e) (Nat.not_lt.2 (Nat.le_trans hk1.size b2.size)))
         | (refine wpList_load_blk rfl _ _ rfl w2.heap.size rfl fr1 65 hb5 Tryz.underlying65 hi1 ?_)
         | (at_builtin;rw [fold17 hsz1 _ rfl];refine wpList_app ERi rfl _ _ rfl (.slice oa rs.length oc) rs.length xs rfl (own_alloc hr5 _) 1 fr1.toList (src_of_block Tryz.underlying34 (blk_new w5 _) (by rw [hsz1]) h11) (by omega) (by unfold maxLen;omega) ?_;intro a' c' w7 hown hgrow hat;have hb7:=blk_grown (blk_alloc hb5) hgrow ne5;have c07:w7.cell? ⟨w2.heap.size,0,none⟩=some (.int .i64 5):=(blk_cell hb7 0).trans hf1))
       have hg:(one m o L1).1.going=true:=by rw [HZ.out,HZX.out];rfl
       have st:=ir_step (r:=.bad 5 c s) hS.lt hS.gl hk1 B15 ha HOK.out hbel hgrow (by rw [HF1.out];exact hown) hat (rdB_nil _) (inK_nil _) (RdP.nil _) (inK_nil _)
       obtain ⟨cs2,lf2,rb2,rest2,at2,hS2⟩:=HGO.out (by rw [HZX.out];rfl)
       have hless:=one_less hg
       rw [HZ.out] at hless
       have ST:=Lib.hid st
       have HS2:=Lib.hid hS2
       have HL:=Lib.hid hless
       have HGG:=Lib.hid hg
       clear st hS2 hless hg
       go_roundg z.2.2.length
       case measure=>rw [HG.out];exact HL.out
       case rel=>exact ir_next HS2.out ST.out (readAll_snoc HALL.out HZ.out HZX.out rfl) (by rw [List.length_append];have:=HL.out;simp only [List.length_singleton];omega)
     · have hb5':(f==5)=false:=beq_false_of_ne hf5
       have hn5:(f != 5)=true:=by simpa using hf5
       have hn0:(f != 0)=true:=by simpa using hf0
       have HF5:=Lib.hid hf5
       have HF0:=Lib.hid hf0
       clear hf5 hf0
       go_wp2_with (first
         | (refine wpList_store_blk rfl _ _ _ rfl w2.heap.size rfl fr1 _ rfl 65 (blk_new _ _) hsz1 hi1 h11 ?_;intro w5 hb5 k3;have B15:=Below.step b2 (below_new k3);have hr5:=own_below (own_kept hr hk1 fun g hg=>(HOK.out g hg).1) B15;have ne5:(Value.slice oa rs.length oc).ownBlock≠some w2.heap.size:=fun e=>absurd (own_lt hr _ e) (Nat.not_lt.2 (Nat.le_trans hk1.size b2.size)))
         | (refine wpList_load_blk rfl _ _ rfl w2.heap.size rfl fr1 65 hb5 Tryz.underlying65 hi1 ?_)
         | (at_builtin;rw [fold17 hsz1 _ rfl];refine wpList_app ERi rfl _ _ rfl (.slice oa rs.length oc) rs.length xs rfl (own_alloc hr5 _) 1 fr1.toList (src_of_block Tryz.underlying34 (blk_new w5 _) (by rw [hsz1]) h11) (by omega) (by unfold maxLen;omega) ?_;intro a' c' w7 hown hgrow hat;have hb7:=blk_grown (blk_alloc hb5) hgrow ne5;have c07:w7.cell? ⟨w2.heap.size,0,none⟩=some (.int .i64 f):=(blk_cell hb7 0).trans hf1))
       have hg:(one m o L1).1.going=false:=by rw [HZ.out,HZX.out];exact stop_going HF0.out HF5.out
       have st:=ir_step (r:=.bad f c s) hS.lt hS.gl hk1 B15 ha HOK.out hbel hgrow (by rw [HF1.out];exact hown) hat (rdB_nil _) (inK_nil _) (RdP.nil _) (inK_nil _)
       go_ret
       rw [HALL.out,readAll_stop hg,HZ.out,HZX.out]
       exact ⟨_,rfl,st.2.2.2.1,⟨_,st.1,st.2.1.mono fun _ _=>trivial⟩,fun g hg=>(st.2.2.1 g hg).2⟩
theorem implRead_any0 {B:Nat} {aE aU aT:Addr} {w:World} {L ps:List Int} {data pcs:Value} (hV:GV B w aE aU aT) (hB:B≤w.heap.size) (hd:RdB w data L) (hp:RdI .i64 w pcs ps) (bs:Bs L) (lim:L.length≤100000000) (mx:Int) (hmx:¬0<mx) :
   Calls Tryz.prog 10 #[data,pcs,.int .i64 mx,.bool false] w (ResEnd 65 w (readAll (mxOf mx) 0 L)):=by
 obtain ⟨m,hm⟩:∃m,mxOf mx=m:=⟨_,rfl⟩
 rw [hm]
 have hd':=hd
 have hp':=hp
 obtain ⟨da,dc,rfl,-,-,-⟩:=hd'
 obtain ⟨pa,pc,rfl,-,-,-⟩:=hp'
 have HD:=Lib.hid hd
 have HP:=Lib.hid hp
 have HM:=Lib.hid hm
 clear hd hp hm
 go_enter Tryz.func10,Tryz.ntmps10
 go_wp2_with (first
   | (go_at_call 26;refine (newFramer_o _ (w.heap.size+1) _ (by simp)).mono ?_;rintro e W ⟨rfl,hF,hC,hW⟩;have hR:=(Kept.ofBelow hW).at (Nat.lt_succ_self _) (blk_new w _);have c22:W.cell? ⟨w.heap.size+1,22,none⟩=some (.bool false):=(blk_cell hF 22).trans rfl;have f22:=blk_free hF 22;have hF2:=blk_set hF 22 (.bool false))
   | (go_at_call 27;refine (setMax_any _ 16777215 mx _ mx0 mx1 ((blk_cell hF2 6).trans rfl) (blk_free hF2 6)).mono ?_;rintro e w' ⟨rfl,rfl⟩))
 have HI:Hid (IrHead w aE aU aT m L ps (.slice pa ps.length pc) L.length (.slice none 0 0) (W.setCell ⟨w.heap.size+1,22,none⟩ (.bool false))):=by
   have hk:Kept (· < w.heap.size) w W:=((Kept.refl _ w).alloc _).trans ((Kept.ofBelow hW).mono fun k h _=>by omega)
   have hkk:Kept (· < w.heap.size) w (W.setCell ⟨w.heap.size+1,22,none⟩ (.bool false)):=hk.setCell (fun _=>Nat.le_succ _) _
   have hm':m=16777215:=by rw [←HM.out];exact mxOf_neg (by omega)
   refine Lib.hid ⟨(· < w.heap.size),0,L,_,_,_,_,0,[],[],rfl,RSt.new hV hB HD.out HP.out bs (by omega) hkk (blk_set_other hR (by simp) _) (blk_to hF2 (by rw [hm'];rfl)) (blk_set_other hC (by simp) _) (by omega) (by omega),World.ownsRow_nil _ _ _ _,.nil,fun j h=>by (cases h),hkk.below (Nat.le_refl _),rfl,by simp⟩
 clear hF hC hR hW hF2 c22 f22
 go_loopg [10] L.length (fun k out wr=>IrHead w aE aU aT m L ps (.slice pa ps.length pc) k out wr)
 case atStart=>exact HI.out
 case round =>
   obtain ⟨K,o,L1,cs,lf,rb,rest,at1,rs,xs,hgk,hS,hr,ha,hoK,hbel,hall,hlen⟩:=hrel
   clear HI
   have HG:=Lib.hid hgk
   have HALL:=Lib.hid hall
   obtain ⟨oa,oc,rfl,hoc,hom⟩:=own_shape hr
   clear hgk hall
   have hfr:=frame_any hS
   obtain ⟨z,hz⟩:∃z,one m o L1=z:=⟨_,rfl⟩
   rw [hz] at hfr
   have HZ:=Lib.hid hz
   clear hz
   have HOK:=Lib.hid hoK
   clear hoK
   go_wp2_with (go_at_call 28;refine hfr.mono ?_;rintro e w1 ⟨fv,ev,rfl,hk1,hgo,hres⟩)
   clear hfr
   have HGO:=Lib.hid hgo
   clear hgo
   have hV1:=hS.V.kept hk1 hS.gl
   obtain ⟨fr0,hfr0⟩:∃fr,rsX (.bad 0 0 0) (.slice none 0 0) (.slice none 0 0)=fr:=⟨_,rfl⟩
   rcases hres with ⟨x,A,hzx,rfl,hfv,hxb⟩|⟨f,c,s,hzb,hf0,hfs,rfl,rfl⟩
   · have HZX:=Lib.hid hzx
     clear hzx
     have hsz0:fr0.size=17:=by rw [←hfr0];rfl
     have hi0:(Tryz.prog.info? 65).map (·.size)=some fr0.size:=by rw [hsz0];exact infoRi
     have h10:∀u∈fr0.toList,u.oneCell'=true:=by rw [←hfr0];exact rsX_one _ _ _ _ _ _ _
     have hs3:∀dv sv,3+(frX x dv sv).size≤fr0.size:=fun _ _=>by rw [hsz0];exact Nat.le_refl _
     have hjn:∀dv sv,(fr0.toList.take 3++(frX x dv sv).toList++fr0.toList.drop (3+(frX x dv sv).size)).toArray=rsX (.ok x) dv sv:=fun dv sv=>by rw [←hfr0];exact rs_join x dv sv
     have hfa:Calls Tryz.prog 29 #[.nilIface] w1 fun e w'=>e = .returned (.agg fr0)∧Below w1.heap.size w1 w':=by rw [←hfr0];exact fault_nil w1
     have HJ:=Lib.hid hjn
     clear hfr0 hjn
     refine hfa.mono ?_
     rintro e w2 ⟨rfl,b2⟩
     clear hfa
     go_wp2_with (first
       | (refine wpList_store_blk rfl _ _ _ rfl w2.heap.size rfl fr0 _ rfl 65 (blk_new _ _) hsz0 hi0 h10 ?_;intro w3 hb3 k3;have B13:=Below.step b2 (below_new k3))
       | (go_at_call 30;refine (plain_any (hfv.below B13) hxb).mono ?_;rintro e w4 ⟨dv,sv,rfl,b4,hd4,fd4,hs4,fs4⟩;obtain ⟨qa,qc,rfl,-,-,-⟩:=id hd4;obtain ⟨sa,sc,rfl,-,-,-⟩:=id hs4;have hb4:=blk_below hb3 b4)
       | (refine wpList_store_at rfl 63 _ _ rfl w2.heap.size 3 rfl (frX x (.slice qa x.data.length qc) (.slice sa x.set.length sc)) fr0 rfl 65 hb4 (hs3 _ _) infoFi (frX_one _ _ _ _ _ _ _) ?_;intro w5 hb5 k5;rw [HJ.out] at hb5;obtain ⟨fr1,hfr1,hsz1,hi1,h11,hf1⟩:∃fr:Array Value,rsX (.ok x) (.slice qa x.data.length qc) (.slice sa x.set.length sc)=fr∧fr.size=17∧(Tryz.prog.info? 65).map (·.size)=some fr.size∧(∀u∈fr.toList,u.oneCell'=true)∧fr[0]? = some (.int .i64 0):=⟨_,rfl,rfl,infoRi,rsX_one _ _ _ _ _ _ _,rfl⟩;rw [hfr1] at hb5;have HF1:=Lib.hid hfr1;clear hfr1;have B15:Below w1.heap.size w1 w5:=Kept.below ((Kept.ofBelow (Below.step B13 b4)).trans (k5.mono fun k h _=>Nat.ne_of_lt (Nat.lt_of_lt_of_le h b2.size))) (Nat.le_refl _);have hr5:=own_below (own_kept hr hk1 fun g hg=>(HOK.out g hg).1) B15;have ne5:(Value.slice oa rs.length oc).ownBlock≠some w2.heap.size:=fun e=>absurd (own_lt hr _ e) (Nat.not_lt.2 (Nat.le_trans hk1.size b2.size)))
       | (refine wpList_load_blk rfl _ _ rfl w2.heap.size rfl fr1 65 hb5 Tryz.underlying65 hi1 ?_)
       | (at_builtin;rw [fold17 hsz1 _ rfl];refine wpList_app ERi rfl _ _ rfl (.slice oa rs.length oc) rs.length xs rfl (own_alloc hr5 _) 1 fr1.toList (src_of_block Tryz.underlying34 (blk_new w5 _) (by rw [hsz1]) h11) (by omega) (by unfold maxLen;omega) ?_;intro a' c' w7 hown hgrow hat;have hb7:=blk_grown (blk_alloc hb5) hgrow ne5;have c07:w7.cell? ⟨w2.heap.size,0,none⟩=some (.int .i64 0):=(blk_cell hb7 0).trans hf1))
     have hg:(one m o L1).1.going=true:=by rw [HZ.out,HZX.out];rfl
     have l3:=lt_of_block hb3
     have hd5:=hd4.kept k5 (fd4.mono' fun k h=>by omega)
     have hs5:=hs4.kept k5 (fs4.mono' fun k h=>by omega)
     have st:=ir_step (r:=.ok x) hS.lt hS.gl hk1 B15 ha HOK.out hbel hgrow (by rw [HF1.out];exact hown) hat hd5 (fd4.mono' fun k h=>by have:=B13.size;omega) hs5 (fs4.mono' fun k h=>by have:=B13.size;omega)
     obtain ⟨cs2,lf2,rb2,rest2,at2,hS2⟩:=HGO.out (by rw [HZX.out];rfl)
     have hless:=one_less hg
     rw [HZ.out] at hless
     have ST:=Lib.hid st
     have HS2:=Lib.hid hS2
     have HL:=Lib.hid hless
     have HGG:=Lib.hid hg
     clear st hS2 hless hg hd5 hs5
     go_roundg z.2.2.length
     case measure=>rw [HG.out];exact HL.out
     case rel=>exact ir_next HS2.out ST.out (readAll_snoc HALL.out HZ.out HZX.out rfl) (by rw [List.length_append];have:=HL.out;simp only [List.length_singleton];omega)
   · have HZX:=Lib.hid hzb
     clear hzb
     obtain ⟨T,v,hev⟩:=errV_if hfs hf0 aE aU aT
     obtain ⟨fr1,hfr1,hsz1,hi1,h11,hf1⟩:∃fr:Array Value,rsX (.bad f c s) (.slice none 0 0) (.slice none 0 0)=fr∧fr.size=17∧(Tryz.prog.info? 65).map (·.size)=some fr.size∧(∀u∈fr.toList,u.oneCell'=true)∧fr[0]? = some (.int .i64 f):=⟨_,rfl,rfl,infoRi,rsX_one _ _ _ _ _ _ _,rfl⟩
     have hfa:Calls Tryz.prog 29 #[.iface T v] w1 fun e w'=>e = .returned (.agg fr1)∧Below w1.heap.size w1 w':=by rw [←hfr1,←hev];exact fault_any hV1 f c s hfs
     rw [hev]
     have HF1:=Lib.hid hfr1
     have HEV:=Lib.hid hev
     clear hfr1 hfr0 hev
     refine hfa.mono ?_
     rintro e w2 ⟨rfl,b2⟩
     clear hfa
     have hb0:(f==0)=false:=beq_false_of_ne hf0
     by_cases hf5:f=5
     · subst hf5
       go_wp2_with (first
         | (refine wpList_store_blk rfl _ _ _ rfl w2.heap.size rfl fr1 _ rfl 65 (blk_new _ _) hsz1 hi1 h11 ?_;intro w5 hb5 k3;have B15:=Below.step b2 (below_new k3);have hr5:=own_below (own_kept hr hk1 fun g hg=>(HOK.out g hg).1) B15;have ne5:(Value.slice oa rs.length oc).ownBlock≠some w2.heap.size:=fun e=>absurd (own_lt hr _ e) (Nat.not_lt.2 (Nat.le_trans hk1.size b2.size)))
         | (refine wpList_load_blk rfl _ _ rfl w2.heap.size rfl fr1 65 hb5 Tryz.underlying65 hi1 ?_)
         | (at_builtin;rw [fold17 hsz1 _ rfl];refine wpList_app ERi rfl _ _ rfl (.slice oa rs.length oc) rs.length xs rfl (own_alloc hr5 _) 1 fr1.toList (src_of_block Tryz.underlying34 (blk_new w5 _) (by rw [hsz1]) h11) (by omega) (by unfold maxLen;omega) ?_;intro a' c' w7 hown hgrow hat;have hb7:=blk_grown (blk_alloc hb5) hgrow ne5;have c07:w7.cell? ⟨w2.heap.size,0,none⟩=some (.int .i64 5):=(blk_cell hb7 0).trans hf1))
       have hg:(one m o L1).1.going=true:=by rw [HZ.out,HZX.out];rfl
       have st:=ir_step (r:=.bad 5 c s) hS.lt hS.gl hk1 B15 ha HOK.out hbel hgrow (by rw [HF1.out];exact hown) hat (rdB_nil _) (inK_nil _) (RdP.nil _) (inK_nil _)
       obtain ⟨cs2,lf2,rb2,rest2,at2,hS2⟩:=HGO.out (by rw [HZX.out];rfl)
       have hless:=one_less hg
       rw [HZ.out] at hless
       have ST:=Lib.hid st
       have HS2:=Lib.hid hS2
       have HL:=Lib.hid hless
       have HGG:=Lib.hid hg
       clear st hS2 hless hg
       go_roundg z.2.2.length
       case measure=>rw [HG.out];exact HL.out
       case rel=>exact ir_next HS2.out ST.out (readAll_snoc HALL.out HZ.out HZX.out rfl) (by rw [List.length_append];have:=HL.out;simp only [List.length_singleton];omega)
     · have hb5':(f==5)=false:=beq_false_of_ne hf5
       have hn5:(f != 5)=true:=by simpa using hf5
       have hn0:(f != 0)=true:=by simpa using hf0
       have HF5:=Lib.hid hf5
       have HF0:=Lib.hid hf0
       clear hf5 hf0
       go_wp2_with (first
         | (refine wpList_store_blk rfl _ _ _ rfl w2.heap.size rfl fr1 _ rfl 65 (blk_new _ _) hsz1 hi1 h11 ?_;intro w5 hb5 k3;have B15:=Below.step b2 (below_new k3);have hr5:=own_below (own_kept hr hk1 fun g hg=>(HOK.out g hg).1) B15;have ne5:(Value.slice oa rs.length oc).ownBlock≠some w2.heap.size:=fun e=>absurd (own_lt hr _ e) (Nat.not_lt.2 (Nat.le_trans hk1.size b2.size)))
         | (refine wpList_load_blk rfl _ _ rfl w2.heap.size rfl fr1 65 hb5 Tryz.underlying65 hi1 ?_)
         | (at_builtin;rw [fold17 hsz1 _ rfl];refine wpList_app ERi rfl _ _ rfl (.slice oa rs.length oc) rs.length xs rfl (own_alloc hr5 _) 1 fr1.toList (src_of_block Tryz.underlying34 (blk_new w5 _) (by rw [hsz1]) h11) (by omega) (by unfold maxLen;omega) ?_;intro a' c' w7 hown hgrow hat;have hb7:=blk_grown (blk_alloc hb5) hgrow ne5;have c07:w7.cell? ⟨w2.heap.size,0,none⟩=some (.int .i64 f):=(blk_cell hb7 0).trans hf1))
       have hg:(one m o L1).1.going=false:=by rw [HZ.out,HZX.out];exact stop_going HF0.out HF5.out
       have st:=ir_step (r:=.bad f c s) hS.lt hS.gl hk1 B15 ha HOK.out hbel hgrow (by rw [HF1.out];exact hown) hat (rdB_nil _) (inK_nil _) (RdP.nil _) (inK_nil _)
       go_ret
       rw [HALL.out,readAll_stop hg,HZ.out,HZX.out]
       exact ⟨_,rfl,st.2.2.2.1,⟨_,st.1,st.2.1.mono fun _ _=>trivial⟩,fun g hg=>(st.2.2.1 g hg).2⟩
theorem implRead_any {B:Nat} {aE aU aT:Addr} {w:World} {L ps:List Int} {data pcs:Value} (hV:GV B w aE aU aT) (hB:B≤w.heap.size) (hd:RdB w data L) (hp:RdI .i64 w pcs ps) (bs:Bs L) (lim:L.length≤100000000) (mx:Int) (mx0:0≤mx) (mx1:mx≤16777215) :
   Calls Tryz.prog 10 #[data,pcs,.int .i64 mx,.bool false] w (ResEnd 65 w (readAll (mxOf mx) 0 L)):=by
 by_cases hmx:0<mx
 · exact implRead_max hV hB hd hp bs lim mx mx0 mx1 hmx
 · exact implRead_any0 hV hB hd hp bs lim mx hmx
end Go.Proofs.YtfdlbjibninakaaGreatDoor
