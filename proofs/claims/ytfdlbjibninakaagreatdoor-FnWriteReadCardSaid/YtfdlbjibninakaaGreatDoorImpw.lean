/- laws.padding: the padding at a place. -/
import Derived.Test.YtfdlbjibninakaaGreatDoorWz
import Derived.Test.YtfdlbjibninakaaGreatDoorLr2
import Derived.Test.YtfdlbjibninakaaGreatDoorIw4
import Derived.BigGuard
set_option linter.unusedVariables false
set_option linter.unusedSimpArgs false
namespace Go.Proofs.YtfdlbjibninakaaGreatDoor
open Go.RowKit
inductive FrAll (K:Nat→Prop) (w:World):List Value→List Fr→Prop
 | nil:FrAll K w [] []
 | cons (r:Fr) (dv sv:Value) (xs:List Value) (rs:List Fr) (hd:RdB w dv r.data) (hdk:inK K dv) (hs:RdP w sv r.set) (hsk:inK K sv) (h:FrAll K w xs rs):FrAll K w ((frX r dv sv).toList++xs) (r::rs)
section
variable {K K' : Nat → Prop} {w w' : World} {xs : List Value} {rs : List Fr}
theorem FrAll.kept (h:FrAll K w xs rs) (hk:Kept K w w'):FrAll K w' xs rs:=by
 induction h with
 | nil=>exact .nil
 | cons r dv sv xs rs hd hdk hs hsk h ih=>exact .cons r dv sv xs rs (hd.kept hk hdk) hdk (hs.kept hk hsk) hsk ih
theorem FrAll.mono (h:FrAll K w xs rs) (hk:∀k,K k→K' k):FrAll K' w xs rs:=by
 induction h with
 | nil=>exact .nil
 | cons r dv sv xs rs hd hdk hs hsk h ih=>exact .cons r dv sv xs rs hd (hdk.mono' hk) hs (hsk.mono' hk) ih
theorem FrAll.stay (h:FrAll K w xs rs) (hb:Below w.heap.size w w'):FrAll K w' xs rs:=by
 induction h with
 | nil=>exact .nil
 | cons r dv sv xs rs hd hdk hs hsk h ih=>exact .cons r dv sv xs rs (hd.below hb) hdk (hs.below hb) hsk ih
theorem FrAll.snoc (h:FrAll K w xs rs) {r:Fr} {dv sv:Value} (hd:RdB w dv r.data) (hdk:inK K dv) (hs:RdP w sv r.set) (hsk:inK K sv):FrAll K w (xs++(frX r dv sv).toList) (rs ++ [r]):=by
 induction h with
 | nil=>simpa using FrAll.cons r dv sv [] [] hd hdk hs hsk .nil
 | cons r' dv' sv' xs rs hd' hdk' hs' hsk' h ih=>rw [List.append_assoc,List.cons_append];exact .cons r' dv' sv' _ _ hd' hdk' hs' hsk' ih
theorem FrAll.app {ys:List Value} {ss:List Fr} (h:FrAll K w xs rs) (g:FrAll K w ys ss):FrAll K w (xs++ys) (rs++ss):=by
 induction h with
 | nil=>exact g
 | cons r' dv' sv' xs rs hd' hdk' hs' hsk' h ih=>rw [List.append_assoc,List.cons_append];exact .cons r' dv' sv' _ _ hd' hdk' hs' hsk' ih
theorem FrAll.length (h:FrAll K w xs rs):xs.length=rs.length*14:=by
 induction h with
 | nil=>rfl
 | cons r dv sv xs rs hd hdk hs hsk h ih=>rw [List.length_append,ih,List.length_cons,Array.length_toList,frX_size];omega
theorem FrAll.at (h:FrAll K w xs rs):∀{j:Nat} {r:Fr},rs[j]? = some r → ∃dv sv,RdB w dv r.data∧inK K dv∧RdP w sv r.set∧inK K sv ∧ ∀i u,(frX r dv sv)[i]? = some u→xs[j*14+i]? = some u:=by
 induction h with
 | nil=>intro j r hr;simp at hr
 | cons r dv sv xs rs hd hdk hs hsk h ih =>
   intro j r' hr
   cases j with
   | zero =>
     simp at hr
     subst hr
     refine ⟨dv,sv,hd,hdk,hs,hsk,fun i u hi => ?_⟩
     have hlt:=(Array.getElem?_eq_some_iff.1 hi).1
     rw [Nat.zero_mul,Nat.zero_add,List.getElem?_append_left (by simpa using hlt)]
     simpa using hi
   | succ j =>
     simp at hr
     obtain ⟨dv',sv',h1,h2,h3,h4,h5⟩:=ih hr
     refine ⟨dv',sv',h1,h2,h3,h4,fun i u hi => ?_⟩
     rw [List.getElem?_append_right (by rw [Array.length_toList,frX_size];omega),Array.length_toList,frX_size,show (j+1)*14+i-14=j*14+i by omega]
     exact h5 i u hi
end
theorem fr_step {w w2 w3:World} {ob:Obj} {out out':Value} {rs:List Fr} {xs:List Value} {r:Fr} {dv sv:Value} {n:Nat} (hf:Fresh w.heap.size out) (hol:∀j,out.ownBlock=some j→j<n) (hn:n≤w2.heap.size) (hbel:Below w.heap.size w w2) (hsz:w.heap.size≤w2.heap.size)
   (ha:FrAll (fun j=>out.ownBlock≠some j∧j<n) w2 xs rs) (hgrow:(w2.alloc ob).grownBy w3 out.ownBlock) (hat:out'.ownBlock=out.ownBlock∨out'.ownBlock=some (w2.alloc ob).heap.size)
   (hd:RdB w dv r.data) (hs:RdP w2 sv r.set) (fs:inK (n ≤ ·) sv) :
   FrAll (fun j=>out'.ownBlock≠some j∧j<w3.heap.size) w3 (xs++(frX r dv sv).toList) (rs ++ [r])∧Fresh w.heap.size out'∧Below w.heap.size w w3:=by
 have s3:=hgrow.size
 have sa:(w2.alloc ob).heap.size=w2.heap.size+1:=by simp
 rw [sa] at s3 hat
 have k23:∀{J:Nat→Prop},(∀k,out.ownBlock=some k→J k→False)→Kept J w2 w3:=fun {J} hJ=>((Kept.refl J w2).alloc ob).grown hgrow (fun k e h=>(hJ k e h).elim)
 have ne':∀k,k<w2.heap.size→out.ownBlock≠some k→out'.ownBlock≠some k:=by
   intro k hk hne e
   rcases hat with h|h
   · exact hne (h.symm.trans e)
   · rw [h] at e;cases e;omega
 have hb3:Kept (· < w.heap.size) w w3:=(Kept.ofBelow hbel).trans (k23 fun k e h=>by have:=hf k e;omega)
 refine ⟨FrAll.snoc ((ha.kept (k23 fun k e h=>h.1 e)).mono fun k h=>⟨ne' k (by omega) h.1,by omega⟩) (hd.kept hb3 (rdI_lt' hd)) ?_ (hs.kept (k23 (J:=(n ≤ ·)) fun k e h=>by have:=hol k e;omega) fs) ?_,?_,hb3.below (Nat.le_refl _)⟩
 · exact (rdI_lt' hd).mono' fun k h=>⟨ne' k (by omega) fun e=>by have:=hf k e;omega,by omega⟩
 · have h2:=rdP_lt' hs
   revert fs h2
   cases sv with
   | slice a m c=>cases a with
     | none=>intros;trivial
     | some a=>exact fun fs h2=>fs.elim .inl fun fs=>h2.elim .inl fun h2 => .inr ⟨ne' _ h2 fun e=>by have:=hol _ e;omega,by omega⟩
   | _=>intros;trivial
 · intro g hg
   rcases hat with h|h
   · exact hf g (h.symm.trans hg)
   · rw [h] at hg;cases hg;omega
def FrsK (K:Nat→Prop) (w:World) (v:Value) (fs:List Fr):Prop:=
 ∃a c,v = .slice a fs.length c∧fs.length≤c∧c≤maxLen ∧ ∀j x,fs[j]? = some x → ∃b o dv sv,a=some ⟨b,o,none⟩∧K b∧RdB w dv x.data∧inK K dv∧RdP w sv x.set∧inK K sv ∧ ∀i u,(frX x dv sv)[i]? = some u→w.cell? ⟨b,o+(j*14+i),none⟩=some u
theorem FrsK.kept {K:Nat→Prop} {w w':World} {v:Value} {fs:List Fr} (h:FrsK K w v fs) (hk:Kept K w w'):FrsK K w' v fs:=by
 obtain ⟨a,c,e,h1,h2,h3⟩:=h
 refine ⟨a,c,e,h1,h2,fun j x hj => ?_⟩
 obtain ⟨b,o,dv,sv,ea,hb,hd,hdk,hs,hsk,hc⟩:=h3 j x hj
 exact ⟨b,o,dv,sv,ea,hb,hd.kept hk hdk,hdk,hs.kept hk hsk,hsk,fun i u hu=>hk.cell hb (hc i u hu)⟩
theorem FrsK.mono {K K':Nat→Prop} {w:World} {v:Value} {fs:List Fr} (h:FrsK K w v fs) (hk:∀k,K k→K' k):FrsK K' w v fs:=by
 obtain ⟨a,c,e,h1,h2,h3⟩:=h
 refine ⟨a,c,e,h1,h2,fun j x hj => ?_⟩
 obtain ⟨b,o,dv,sv,ea,hb,hd,hdk,hs,hsk,hc⟩:=h3 j x hj
 exact ⟨b,o,dv,sv,ea,hk _ hb,hd,hdk.mono' hk,hs,hsk.mono' hk,hc⟩
theorem FrsK.len {K:Nat→Prop} {w:World} {v:Value} {fs:List Fr} (h:FrsK K w v fs):∃a c,v = .slice a fs.length c∧fs.length≤c∧c≤maxLen:=by
 obtain ⟨a,c,e,h1,h2,-⟩:=h
 exact ⟨a,c,e,h1,h2⟩
theorem FrsR.toK {w:World} {v:Value} {fs:List Fr} (h:FrsR w v fs):FrsK (· < w.heap.size) w v fs:=by
 obtain ⟨a,c,e,h1,h2,h3⟩:=h
 refine ⟨a,c,e,h1,h2,fun j x hj => ?_⟩
 obtain ⟨-,b,o,dv,sv,ea,hd,hs,hc⟩:=h3 j x hj
 exact ⟨b,o,dv,sv,ea,World.block_lt_of_cell? _ _ (hc 0 _ rfl),hd,rdI_lt' hd,hs,rdP_lt' hs,hc⟩
theorem FrsR.types {w:World} {v:Value} {fs:List Fr} (h:FrsR w v fs):∀x∈fs,FrTy x:=by
 obtain ⟨a,c,e,h1,h2,h3⟩:=h
 intro x hx
 obtain ⟨j,hj⟩:=List.mem_iff_getElem?.1 hx
 exact (h3 j x hj).1
theorem frsK_of_row {K:Nat→Prop} {w:World} {T n:Nat} {v:Value} {xs:List Value} {fs:List Fr} (h:Row w T 14 v n xs) (ha:FrAll K w xs fs) (hK:∀g,v.ownBlock=some g→K g):FrsK K w v fs:=by
 have hn:fs.length=n:=by have h1:=h.1;have h2:=ha.length;omega
 subst hn
 obtain ⟨a,c,rfl,h1,h2⟩:=own_shape h
 refine ⟨a,c,rfl,h1,h2,fun j x hj => ?_⟩
 obtain ⟨dv,sv,hd,hdk,hs,hsk,hx⟩:=ha.at hj
 obtain ⟨g,c',e,-⟩:=own_cell h _ _ (hx 0 _ rfl)
 cases e
 refine ⟨g,0,dv,sv,rfl,hK g rfl,hd,hdk,hs,hsk,fun i u hu => ?_⟩
 obtain ⟨g',c'',e',hc⟩:=own_cell h _ _ (hx i u hu)
 cases e'
 simpa using hc
end Go.Proofs.YtfdlbjibninakaaGreatDoor

namespace Go.Proofs.YtfdlbjibninakaaGreatDoor
set_option maxRecDepth 10000
set_option maxHeartbeats 4000000
open Go.RowKit
theorem EBo:Elem Tryz.prog 49 4 1 1 (.bool false):=⟨Tryz.underlying49,by kernel_rfl,rfl,by decide⟩
section
variable {K K' : Nat → Prop} {w w0 w1 : World} {bF cl bW : Nat} {cur out : List Int} {wb al : Value}
theorem WS.grownK {v:Value} (h:WS K w bF cl bW cur out wb al) (hg:w.grownBy w1 v.ownBlock) (hK:∀g,v.ownBlock=some g→K g):WS K w1 bF cl bW cur out wb al:=by
 refine ⟨blk_grown h.F hg (fun e=>h.kF (hK _ e)),blk_grown h.W hg (fun e=>h.kW (hK _ e)),own_grown h.own hg ?_,own_grown h.all hg ?_,h.kF,h.kW,h.kw,h.ka,h.ne,fun k hk=>by have:=h.lt k hk;have:=hg.size;omega⟩
 · cases hb:wb.ownBlock with
   | none=>exact .inl rfl
   | some g=>exact .inr fun e=>h.kw g hb (hK g e.symm)
 · cases hb:al.ownBlock with
   | none=>exact .inl rfl
   | some g=>exact .inr fun e=>h.ka g hb (hK g e.symm)
theorem WS.rekey (h0:WS K w0 bF cl bW cur out wb al) (h:WS K w1 bF cl bW cur out wb al) (hK:∀k,K' k→K k∨(w0.heap.size≤k∧k<w1.heap.size)):WS K' w1 bF cl bW cur out wb al:=by
 refine ⟨h.F,h.W,h.own,h.all,?_,?_,?_,?_,h.ne,?_⟩
 · intro hf
   rcases hK _ hf with hf|hf
   · exact h.kF hf
   · have:=lt_of_block h0.F;omega
 · intro hf
   rcases hK _ hf with hf|hf
   · exact h.kW hf
   · have:=lt_of_block h0.W;omega
 · intro g hg hf
   rcases hK _ hf with hf|hf
   · exact h.kw g hg hf
   · have:=own_lt h0.own g hg;omega
 · intro g hg hf
   rcases hK _ hf with hf|hf
   · exact h.ka g hg hf
   · have:=own_lt h0.all g hg;omega
 · intro k hf
   rcases hK _ hf with hf|hf
   · exact h.lt k hf
   · exact hf.2
end
variable {w : World}
def wLaid (w:World):World:=
 ((w.alloc (.cells #[.slice none 0 0] 101)).alloc (.cells ((framerW (w.heap.size+1+1) w.heap.size (.slice none 0 0)).setIfInBounds 21 (.bool false)) 86)).alloc (.cells #[.pointer (some ⟨w.heap.size+1,0,none⟩)] 67)
theorem wLaid_below (w:World):Below w.heap.size w (wLaid w):=((((Kept.refl (· < w.heap.size) w).alloc _).alloc _).alloc _).below (Nat.le_refl _)
theorem wLaid_ws (w:World):WS (fun j=>j<w.heap.size∨(Value.slice none 0 0).ownBlock=some j) (wLaid w) (w.heap.size+1) (w.heap.size+1+1) w.heap.size [] [] (.slice none 0 0) (.slice none 0 0):=by
 refine WS.new ?_ ?_ ?_ ?_ ?_
 · exact blk_alloc (blk_at (w.alloc _) _ (by simp))
 · exact blk_alloc (blk_alloc (blk_new w _))
 · rintro (h|h)
   · omega
   · cases h
 · rintro (h|h)
   · omega
   · cases h
 · rintro k (h|h)
   · have:=(wLaid_below w).size;omega
   · cases h
theorem padV_below {w1:World} {pv:Value} {p:Option (List Int)} (h:PadV w pv p) (hb:Below w.heap.size w w1):PadV w1 pv p:=by
 cases p with
 | none=>exact h
 | some l=>exact ⟨h.1,h.2.1.below hb,h.2.2⟩
theorem padV_in {pv:Value} {p:Option (List Int)} (h:PadV w pv p):inK (· < w.heap.size) pv:=by
 cases p with
 | none =>
   obtain rfl:pv = .slice none 0 0:=h
   trivial
 | some l=>exact rdI_lt' h.2.1
theorem frX_oneV {x:Fr} {dv sv:Value} (hd:RdB w dv x.data) (hs:RdP w sv x.set):∀u∈(frX x dv sv).toList,u.oneCell'=true:=by
 obtain ⟨a,c,rfl,-⟩:=hd
 obtain ⟨a',c',rfl,-⟩:=hs
 simp [frX,frameC,Value.oneCell']
def WroteAll (w:World) (n:Nat) (out:List Int) (e:Ending) (w':World):Prop:=
 ∃al fv,e = .returned (.tuple #[al,fv])∧Below w.heap.size w w'∧Row w' 5 1 al out.length (bv out)∧Row w' 4 1 fv n (List.replicate n (.bool false))∧Fresh w.heap.size al∧Fresh w.heap.size fv
theorem implWrite_any {lv pv:Value} {fs:List Fr} {ps:List (Option (List Int))} (hl:FrsK (· < w.heap.size) w lv fs) (hp:PadsR w pv ps) (hok:Pl.LegalAll fs ps) (hn:fs.length≤100) (hnp:ps.length≤fs.length) :
   Calls Tryz.prog 18 #[lv,pv,.bool false] w (WroteAll w fs.length (Pl.wAll (Pl.zs fs ps))):=by
 obtain ⟨la,lc,rfl,hlc,hlm,hlf⟩:=hl
 obtain ⟨pa,pc,rfl,hpc,hpm,hpf⟩:=hp
 have HLF:=Lib.hid hlf
 have HPF:=Lib.hid hpf
 have HOK:=Lib.hid hok
 have hO:=Lib.hid (wLaid_below w)
 have hws:=Lib.hid (wLaid_ws w)
 clear hlf hpf hok
 go_enter Tryz.func18,Tryz.ntmps18
 go_wp2_with (go_at_call 26;refine (newFramer_w w.heap.size _).mono ?_;rintro e w' ⟨rfl,rfl⟩)
 change Code.wp _ _ _ _ (wLaid w)
 generalize wLaid w=wo at *
 go_loopw [7,24] (fun fv i wr => ∃k:Nat,k≤fs.length∧i = .int .i64 k∧Row wr 4 1 fv k (List.replicate k (.bool false))∧Fresh w.heap.size fv∧Below w.heap.size w wr ∧ ∃cur wb al,WS (fun j=>j<w.heap.size∨fv.ownBlock=some j) wr (w.heap.size+1) (w.heap.size+1+1) w.heap.size cur (Pl.wAll ((Pl.zs fs ps).take k)) wb al) (fun _ i _=>fs.length-(intOf i).toNat)
 case atStart=>exact ⟨0,Nat.zero_le _,rfl,World.ownsRow_nil _ _ _ _,Fresh.nil _,hO.out,_,_,_,hws.out⟩
 case round =>
   obtain ⟨k,hk,rfl,hrow,hfr,hbel,cur,wb,al,hW⟩:=hrel
   obtain ⟨va,vc,rfl,hvc,hvm⟩:=own_shape hrow
   by_cases hlt:k<fs.length
   · obtain ⟨b,o,dv,sv,rfl,hb,hd,hdK,hs,hsK,hcells⟩:=HLF.out k _ (List.getElem?_eq_getElem hlt)
     have hok:=HOK.out k _ (List.getElem?_eq_getElem hlt)
     have hout:=Pl.wAll_take_len HOK.out hn k
     have hnext:=Pl.wAll_take (ps:=ps) (List.getElem?_eq_getElem hlt)
     have hpv:∃pv,PadV wr pv (Pl.padAt ps k)∧inK (· < w.heap.size) pv∧(k<ps.length → ∃b o,pa=some ⟨b,o,none⟩∧wr.cell? ⟨b,o+k,none⟩=some pv)∧(¬k<ps.length→pv = .slice none 0 0):=by
       by_cases hkp:k<ps.length
       · obtain ⟨b,o,pv,e,hc,hv⟩:=HPF.out k _ (List.getElem?_eq_getElem hkp)
         have e2:Pl.padAt ps k=ps[k]:=by unfold Pl.padAt;rw [List.getElem?_eq_getElem hkp];rfl
         rw [e2]
         exact ⟨pv,padV_below hv hbel,padV_in hv,fun _=>⟨b,o,e,cell_below hc hbel⟩,fun h=>absurd hkp h⟩
       · have e2:Pl.padAt ps k=none:=by unfold Pl.padAt;rw [List.getElem?_eq_none (by omega)];rfl
         rw [e2]
         exact ⟨_,rfl,trivial,fun h=>absurd h hkp,fun _=>rfl⟩
     obtain ⟨pd,hpd,hpdK,hpc1,hpc2⟩:=hpv
     have hdW:=hd.below hbel
     have hsW:=hs.below hbel
     have hcW:∀i u,(frX fs[k] dv sv)[i]? = some u→wr.cell? ⟨b,o+k*14+i,none⟩=some u:=fun i u hu=>by rw [Nat.add_assoc];exact cell_below (hcells i u hu) hbel
     generalize fs[k]=x at *
     generalize Pl.padAt ps k=p at *
     have hwr:∀w1,Below wr.heap.size wr w1→Calls Tryz.prog 36 #[.pointer (some ⟨w.heap.size+1,0,none⟩),.agg (frX x dv sv),pd] w1 (Sent (fun j=>j<w.heap.size∨(Value.slice va k vc).ownBlock=some j) w1 (w.heap.size+1) (w.heap.size+1+1) w.heap.size (Pl.wAll ((Pl.zs fs ps).take k)++Pl.wBytes x (p.getD []) (Pl.pdOf x p))):=fun w1 hb1 =>
       iwrite_any (hW.below hb1) hok (hdW.below hb1) (hdK.mono' fun k h => .inl h) (hsW.below hb1) (hsK.mono' fun k h => .inl h) (padV_below hpd hb1) (hpdK.mono' fun k h => .inl h) (by omega)
     obtain ⟨fr,hfe⟩:∃fr,frX x dv sv=fr:=⟨_,rfl⟩
     have hsz:fr.size=14:=by rw [←hfe];exact frX_size ..
     have h1f:∀u∈fr.toList,u.oneCell'=true:=by rw [←hfe];exact frX_oneV hdW hsW
     have hif:(Tryz.prog.info? 63).map (·.size)=some fr.size:=by rw [hsz];exact infoFi
     rw [hfe] at hwr hcW
     have HWR:=Lib.hid hwr
     have HC:=Lib.hid hcW
     have HIF:=Lib.hid hif
     have HSZ:=Lib.hid hsz
     have H1F:=Lib.hid h1f
     have HW:=Lib.hid hW
     have HR:=Lib.hid hrow
     have HFR:=Lib.hid hfr
     have HBL:=Lib.hid hbel
     have HNX:=Lib.hid hnext
     have HPC1:=Lib.hid hpc1
     have HPC2:=Lib.hid hpc2
     have hkn:(k:Int)<fs.length:=by omega
     clear hfe hsz h1f hif hwr hcW hdW hsW hd hs hdK hsK hcells hok hpd hpdK hpc1 hpc2 hW hrow hfr hbel hnext hout hb
     by_cases hkp:k<ps.length
     · obtain ⟨b',o',rfl,hpcell⟩:=HPC1.out hkp
       have hkpi:(k:Int)<ps.length:=by omega
       go_wp2_with (first
         | (refine wpList_load_at rfl 63 _ rfl b _ rfl fr HC.out Tryz.underlying63 HIF.out ?_)
         | (refine wpList_store_blk rfl 63 _ _ rfl wr.heap.size rfl fr _ rfl 63 (blk_new _ _) HSZ.out HIF.out H1F.out ?_;intro w1 hb1 hk1;have B1:Below wr.heap.size wr w1:=(((Kept.refl (· < wr.heap.size) wr).alloc _).trans (hk1.mono fun k h _=>Nat.ne_of_lt h)).below (Nat.le_refl _);have hpc1:=cell_below hpcell B1)
         | (refine wpList_load_blk rfl 63 _ rfl wr.heap.size rfl fr 63 hb1 Tryz.underlying63 HIF.out ?_)
         | (go_at_call 36;go_loud (refine (HWR.out _ B1).mono ?_);rintro e w2 ⟨rfl,k2,cur2,wb2,al2,h2⟩;have hr2:=own_kept (own_below HR.out B1) k2 (fun g hg => .inr hg))
         | (at_builtin;go_loud (refine wpList_app EBo rfl _ _ rfl (.slice va k vc) k _ rfl (own_alloc hr2 _) 1 _ (src_of_block Tryz.underlying49 (blk_new w2 _) rfl (by simp [Value.oneCell'])) (by omega) (by unfold maxLen;omega) ?_);intro a' c' w3 hown3 hgrow hat))
       have B2:Below w.heap.size w w2:=((Kept.ofBelow (Below.then HBL.out (Nat.le_refl _) B1)).trans (k2.mono fun j hj _ => .inl hj)).below (Nat.le_refl _)
       have hws3:=WS.rekey (K':=fun j=>j<w.heap.size∨(Value.slice a' (k+1) c').ownBlock=some j) (h2.alloc (.cells #[.bool false] 4)) ((h2.alloc (.cells #[.bool false] 4)).grownK (v:=.slice va k vc) hgrow (fun g hg => .inr hg)) (fun j hj=>by
         rcases hj with hj|hj
         · exact .inl (.inl hj)
         · rcases hat with e|e
           · exact .inl (.inr (e▸hj))
           · rw [e] at hj
             cases hj
             exact .inr ⟨Nat.le_refl _,own_lt hown3 _ e⟩)
       have HW3:=Lib.hid hws3
       have HO3:=Lib.hid hown3
       have HF3:=Lib.hid (HFR.out.app (n:=(w2.alloc (.cells #[.bool false] 4)).heap.size) (by have:=B2.size;simp;omega) hat)
       have HB3:=Lib.hid (Below.app (B2.alloc B2.size _) (by have:=B2.size;simp;omega) hgrow HFR.out)
       clear hws3 hown3 hgrow hat h2 k2 hr2 B2 B1 hb1 hk1
       go_roundw
       case rel=>exact ⟨k+1,by omega,by go_num,by rw [List.replicate_succ'];exact HO3.out,HF3.out,HB3.out,cur2,wb2,al2,by rw [HNX.out];exact HW3.out⟩
       case measure=>simp [intOf];omega
     · obtain rfl:=HPC2.out hkp
       have hkpi:¬(k:Int)<ps.length:=by omega
       clear hkp
       go_wp2_with (first
         | (refine wpList_load_at rfl 63 _ rfl b _ rfl fr HC.out Tryz.underlying63 HIF.out ?_)
         | (refine wpList_store_blk rfl 63 _ _ rfl wr.heap.size rfl fr _ rfl 63 (blk_new _ _) HSZ.out HIF.out H1F.out ?_;intro w1 hb1 hk1;have B1:Below wr.heap.size wr w1:=(((Kept.refl (· < wr.heap.size) wr).alloc _).trans (hk1.mono fun k h _=>Nat.ne_of_lt h)).below (Nat.le_refl _))
         | (refine wpList_load_blk rfl 63 _ rfl wr.heap.size rfl fr 63 hb1 Tryz.underlying63 HIF.out ?_)
         | (go_at_call 36;go_loud (refine (HWR.out _ B1).mono ?_);rintro e w2 ⟨rfl,k2,cur2,wb2,al2,h2⟩;have hr2:=own_kept (own_below HR.out B1) k2 (fun g hg => .inr hg))
         | (at_builtin;go_loud (refine wpList_app EBo rfl _ _ rfl (.slice va k vc) k _ rfl (own_alloc hr2 _) 1 _ (src_of_block Tryz.underlying49 (blk_new w2 _) rfl (by simp [Value.oneCell'])) (by omega) (by unfold maxLen;omega) ?_);intro a' c' w3 hown3 hgrow hat))
       have B2:Below w.heap.size w w2:=((Kept.ofBelow (Below.then HBL.out (Nat.le_refl _) B1)).trans (k2.mono fun j hj _ => .inl hj)).below (Nat.le_refl _)
       have hws3:=WS.rekey (K':=fun j=>j<w.heap.size∨(Value.slice a' (k+1) c').ownBlock=some j) (h2.alloc (.cells #[.bool false] 4)) ((h2.alloc (.cells #[.bool false] 4)).grownK (v:=.slice va k vc) hgrow (fun g hg => .inr hg)) (fun j hj=>by
         rcases hj with hj|hj
         · exact .inl (.inl hj)
         · rcases hat with e|e
           · exact .inl (.inr (e▸hj))
           · rw [e] at hj
             cases hj
             exact .inr ⟨Nat.le_refl _,own_lt hown3 _ e⟩)
       have HW3:=Lib.hid hws3
       have HO3:=Lib.hid hown3
       have HF3:=Lib.hid (HFR.out.app (n:=(w2.alloc (.cells #[.bool false] 4)).heap.size) (by have:=B2.size;simp;omega) hat)
       have HB3:=Lib.hid (Below.app (B2.alloc B2.size _) (by have:=B2.size;simp;omega) hgrow HFR.out)
       clear hws3 hown3 hgrow hat h2 k2 hr2 B2 B1 hb1 hk1
       go_roundw
       case rel=>exact ⟨k+1,by omega,by go_num,by rw [List.replicate_succ'];exact HO3.out,HF3.out,HB3.out,cur2,wb2,al2,by rw [HNX.out];exact HW3.out⟩
       case measure=>simp [intOf];omega
   · obtain rfl:k=fs.length:=by omega
     rw [List.take_of_length_le (by rw [Pl.zs_length];exact Nat.le_refl _)] at hW
     obtain ⟨aa,ac,rfl,hac,ham⟩:=own_shape hW.all
     have c0:wr.cell? ⟨w.heap.size,0,none⟩=some (.slice aa (Pl.wAll (Pl.zs fs ps)).length ac):=blk_cell hW.W 0
     have HW:=Lib.hid hW
     have HR:=Lib.hid hrow
     clear hW hrow
     go_wp2_with fail
     go_ret2
     refine ⟨_,_,rfl,hbel,HW.out.all,HR.out,?_,hfr⟩
     intro g hg
     have h1:=HW.out.ka g hg
     exact Nat.le_of_not_lt fun h=>h1 (.inl h)
end Go.Proofs.YtfdlbjibninakaaGreatDoor

namespace Go.Proofs.YtfdlbjibninakaaGreatDoor
set_option maxRecDepth 10000
set_option maxHeartbeats 4000000
open Go.RowKit
theorem ESi:Elem Tryz.prog 61 110 2 16 (.agg #[.int .i64 0,.int .u32 0]):=⟨Tryz.underlying61,by kernel_rfl,rfl,by decide⟩
theorem givenL_any (x:Fr) (a:Option Addr) (n c:Nat) (sv:Value) (w:World) (hs:RdP w sv x.set) (hl:x.set.length≤3000000) :
   Calls Tryz.prog 37 #[.agg (frX x (.slice a n c) sv)] w (TurnEnd w x (.slice a n c)):=by
 obtain ⟨sa,sc,rfl,hs1,hs2,hs3⟩:=hs
 unfold frX frameC
 go_enter Tryz.func37,Tryz.ntmps37
 go_wp2_with (refine wpList_store_blk rfl _ _ _ rfl (w.heap.size+2) rfl (frX x (.slice a n c) (.slice none 0 0)) _ rfl 63 (blk_at _ _ (by simp)) rfl infoFi (by simp [Value.oneCell',frX,frameC]) ?_;intro w1 hb1 hk1;have c13:w1.cell? ⟨w.heap.size,13,none⟩=some (.slice sa x.set.length sc):=hk1.cell (by simp) (blk_cell (blk_alloc (blk_alloc (blk_at w _ rfl))) 13))
 have hB1:Below w.heap.size w w1:=((((Kept.refl (· < w.heap.size) w).alloc _).alloc _).alloc _).trans (hk1.mono (fun k h _=>by omega)) |>.below (Nat.le_refl _)
 have hq1:=hk1.at (b:=w.heap.size+1) (by simp) (blk_alloc (blk_at _ _ (by simp)))
 clear hk1
 go_loopw [36] (fun i wr => ∃k:Nat,k≤x.set.length∧i = .int .i64 k ∧ ∃sv',wr.heap[w.heap.size+2]? = some (.cells (frX x (.slice a n c) sv') 63 (0,0))∧Row wr 110 2 sv' k (prV (x.set.take k))∧Fresh w.heap.size sv'∧Below w.heap.size w wr ∧
   wr.heap[w.heap.size+1]? = w1.heap[w.heap.size+1]?) (fun i _=>x.set.length-(intOf i).toNat)
 case atStart=>exact ⟨0,Nat.zero_le _,rfl,_,hb1,World.ownsRow_nil _ _ _ _,Fresh.nil _,hB1,rfl⟩
 case round =>
   obtain ⟨k,hk,rfl,sv',hb,hrow,hfr,hbel,hq⟩:=hrel
   by_cases hlt:k<x.set.length
   · obtain ⟨b,o,rfl,hc1,hc2⟩:=hs3 k _ (List.getElem?_eq_getElem hlt)
     have hd1:=(Kept.ofBelow hbel).cell (show b<w.heap.size from World.block_lt_of_cell? _ _ hc1) hc1
     have hd2:=(Kept.ofBelow hbel).cell (show b<w.heap.size from World.block_lt_of_cell? _ _ hc1) hc2
     have c13':wr.cell? ⟨w.heap.size+2,13,none⟩=some sv':=blk_cell hb 13
     obtain ⟨va,vc,rfl,hvc,hvm⟩:=own_shape hrow
     have hlt2:=lt_of_block hb
     have hnb:=own_block hrow hb (by decide)
     have hnq:=own_block hrow (hq.trans hq1) (by decide)
     go_wp2_with (first
       | (refine wpList_load_at rfl _ _ rfl b _ rfl #[.int .i64 x.set[k].1,.int .u32 x.set[k].2] (two_at hd1 hd2 (by simp;omega)) Tryz.underlying97 infoSs ?_)
       | (at_builtin;go_loud (refine wpList_app ESi rfl _ _ rfl (.slice va k vc) k _ rfl (own_alloc (own_alloc hrow _) _) 1 _ (src_of_block Tryz.underlying61 (blk_at _ _ (by simp)) rfl (by simp [Value.oneCell'])) (by omega) (by unfold maxLen;omega) ?_);intro a' c' w2 hown2 hgrow hat;have hb2:w2.heap[w.heap.size+1+1]? = _:=blk_grown (blk_alloc (blk_alloc hb)) hgrow hnb;have hd13:=blk_cell hb2 13;have hf13:=blk_free hb2 13))
     go_roundw
     case rel =>
       refine ⟨k+1,by omega,by go_num,.slice a' (k+1) c',blk_set hb2 13 _,?_,hfr.app (by have:=hbel.size;simp;omega) hat,?_,?_⟩
       · rw [prV_take _ _ hlt]
         exact own_set hown2 (own_block hown2 hb2 (by decide)) _
       · exact ((Below.app ((hbel.alloc hbel.size _).alloc (by have:=hbel.size;simp;omega) _) (by have:=hbel.size;simp;omega) hgrow hfr)).setCell (by simp;omega) _
       · rw [hq1]
         exact blk_set_other (blk_grown (blk_alloc (blk_alloc (hq.trans hq1))) hgrow hnq) (by simp) _
     case measure=>simp [intOf];omega
   · have hkl:k=x.set.length:=by omega
     subst hkl
     have hqq:=hq.trans hq1
     clear hs3 hq hq1
     rw [List.take_length] at hrow
     obtain ⟨va,vc,rfl,-,-⟩:=own_shape hrow
     go_wp2_with (first
       | (refine wpList_load_blk rfl _ _ rfl (w.heap.size+2) rfl _ 63 hb Tryz.underlying63 infoFi ?_)
       | (refine wpList_store_blk rfl _ _ _ rfl (w.heap.size+1) rfl _ _ rfl 63 hqq rfl infoFi (by simp [Value.oneCell',frX,frameC]) ?_;intro w2 hb2 hk2))
     refine ret_blk rfl (w.heap.size+1) _ _ rfl hb2 Tryz.underlying63 infoFi rfl ⟨_,rfl,hbel.trans (hk2.mono (fun k h _=>by omega) |>.below hbel.size),?_,fresh_inK hfr⟩
     exact rdP_of_row (own_kept hrow hk2 (fun g hg e=>own_block hrow hqq (by decide) (e▸hg)))
end Go.Proofs.YtfdlbjibninakaaGreatDoor

namespace Go.Proofs.YtfdlbjibninakaaGreatDoor
set_option maxRecDepth 10000
set_option maxHeartbeats 4000000
open Go.RowKit
variable {w : World}
theorem EFi:Elem Tryz.prog 52 63 14 112 (.agg (frX Fr.zero (.slice none 0 0) (.slice none 0 0))):=⟨Tryz.underlying52,by kernel_rfl,rfl,by decide⟩
def GivEnd (w:World) (fs:List Fr) (e:Ending) (w':World):Prop := ∃v',e = .returned v'∧Below w.heap.size w w'∧FrsK (· < w'.heap.size) w' v' fs
theorem givens_any {v:Value} {fs:List Fr} (hv:FrsK (· < w.heap.size) w v fs) (hn:fs.length≤1000) (hl:∀x∈fs,x.set.length≤3000000) :
   Calls Tryz.prog 19 #[v] w (GivEnd w fs):=by
 obtain ⟨la,lc,rfl,hlc,hlm,hlf⟩:=hv
 have HLF:=Lib.hid hlf
 have HL:=Lib.hid hl
 clear hlf hl
 go_enter Tryz.func19,Tryz.ntmps19
 go_wp2_with fail
 go_loopw [3,8] (fun o i wr => ∃k:Nat,k≤fs.length∧i = .int .i64 k ∧ ∃xs,Row wr 63 14 o k xs∧FrAll (fun j=>o.ownBlock≠some j∧j<wr.heap.size) wr xs (fs.take k)∧Fresh w.heap.size o∧Below w.heap.size w wr) (fun _ i _=>fs.length-(intOf i).toNat)
 case atStart=>exact ⟨0,Nat.zero_le _,rfl,[],World.ownsRow_nil _ _ _ _,.nil,Fresh.nil _,Below.refl _ _⟩
 case round =>
   obtain ⟨k,hk,rfl,xs,hr,ha,hfr,hbel⟩:=hrel
   obtain ⟨oa,oc,rfl,hoc,hom⟩:=own_shape hr
   by_cases hlt:k<fs.length
   · obtain ⟨b,o,dv,sv,rfl,hb,hd,hdK,hs,hsK,hcells⟩:=HLF.out k _ (List.getElem?_eq_getElem hlt)
     obtain ⟨da,dc,rfl,-,-⟩:=id hd
     obtain ⟨sa,sc,rfl,-,-⟩:=id hs
     have hcW:∀i u,(frX fs[k] (.slice da fs[k].data.length dc) (.slice sa fs[k].set.length sc))[i]? = some u→wr.cell? ⟨b,o+k*14+i,none⟩=some u:=fun i u hu=>by rw [Nat.add_assoc];exact cell_below (hcells i u hu) hbel
     have hh:=HL.out _ (List.getElem_mem hlt)
     have hsn:fs.take (k+1)=fs.take k ++ [fs[k]]:=List.take_succ_eq_append_getElem hlt
     generalize fs[k]=x at *
     obtain ⟨fr,hfe⟩:∃fr,frX x (.slice da x.data.length dc) (.slice sa x.set.length sc)=fr:=⟨_,rfl⟩
     have hsz:fr.size=14:=by rw [←hfe];exact frX_size ..
     have h1f:∀u∈fr.toList,u.oneCell'=true:=by rw [←hfe];exact frX_one _ _ _ _ _ _ _
     have hif:(Tryz.prog.info? 29).map (·.size)=some fr.size:=by rw [hsz];exact infoFs
     have hgv:∀w',Below wr.heap.size wr w'→Calls Tryz.prog 37 #[.agg fr] w' (TurnEnd w' x (.slice da x.data.length dc)):=fun w' hb'=>by rw [←hfe];exact givenL_any x _ _ _ _ w' ((hs.below hbel).below hb') hh
     rw [hfe] at hcW
     have HC:=Lib.hid hcW
     have HSZ:=Lib.hid hsz
     have H1F:=Lib.hid h1f
     have HIF:=Lib.hid hif
     have HGV:=Lib.hid hgv
     have HSN:=Lib.hid hsn
     have HD:=Lib.hid hd
     have HR:=Lib.hid hr
     have HA:=Lib.hid ha
     have HFR:=Lib.hid hfr
     have HBL:=Lib.hid hbel
     have hkn:(k:Int)<fs.length:=by omega
     clear hcW hsz h1f hif hgv hsn hd hs hr ha hfr hbel hfe hcells hdK hsK hb
     go_wp2_with (first
       | (refine wpList_load_at rfl 29 _ rfl b _ rfl fr HC.out Tryz.underlying29 HIF.out ?_)
       | (refine wpList_store_blk rfl 29 _ _ rfl wr.heap.size rfl fr _ rfl 29 (blk_new _ _) HSZ.out HIF.out H1F.out ?_;intro w1 hb1 hk1;have B1:Below wr.heap.size wr w1:=(((Kept.refl (· < wr.heap.size) wr).alloc _).trans (hk1.mono fun k h _=>Nat.ne_of_lt h)).below (Nat.le_refl _))
       | (refine wpList_load_blk rfl 29 _ rfl wr.heap.size rfl fr 29 hb1 Tryz.underlying29 HIF.out ?_)
       | (go_at_call 37;go_loud (refine (HGV.out _ B1).mono ?_);rintro e w2 ⟨sv',rfl,hb2,hs2,hk2⟩;have hr2:=own_below (own_below HR.out B1) hb2;obtain ⟨sa',sc',rfl,-,-⟩:=id hs2;unfold frX frameC)
       | (at_builtin;go_loud (refine wpList_app EFi rfl _ _ rfl (.slice oa k oc) k xs rfl (own_alloc hr2 _) 1 _ (src_of_block Tryz.underlying52 (blk_new w2 _) rfl (by simp [Value.oneCell'])) (by omega) (by unfold maxLen;omega) ?_);intro a' c' w3 hown3 hgrow hat))
     have hB2:Below wr.heap.size wr w2:=Below.then B1 (Nat.le_refl _) hb2
     have st:=fr_step (dv:=.slice da x.data.length dc) (sv:=.slice sa' x.set.length sc') (r:=x) HFR.out (own_lt HR.out) hB2.size (Below.then HBL.out (Nat.le_refl _) hB2) (Nat.le_trans HBL.out.size hB2.size) (HA.out.stay hB2) hgrow hat HD.out hs2 (hk2.mono' fun j hj=>Nat.le_trans B1.size hj)
     have ST:=Lib.hid st
     have HO:=Lib.hid hown3
     clear st hown3 hs2 hk2 hb2 hB2 hat hgrow hr2 hb1 hk1 B1
     go_roundw
     case rel=>exact ⟨k+1,by omega,by go_num,_,HO.out,by rw [HSN.out];exact ST.out.1,ST.out.2.1,ST.out.2.2⟩
     case measure=>simp [intOf];omega
   · obtain rfl:k=fs.length:=by omega
     have HA:=Lib.hid ha
     have HR:=Lib.hid hr
     clear ha hr
     go_wp2_with fail
     go_ret
     have h:=HA.out
     rw [List.take_length] at h
     exact ⟨_,rfl,hbel,frsK_of_row HR.out (h.mono fun k h=>h.2) (own_lt HR.out)⟩
end Go.Proofs.YtfdlbjibninakaaGreatDoor

namespace Go.Proofs.YtfdlbjibninakaaGreatDoor
set_option maxRecDepth 10000
set_option maxHeartbeats 1000000
open Go.RowKit
variable {w : World}
theorem equalIn_nilS (w:World) (d:Nat) (a:Option Addr) (n c:Nat):(Op.equalIn (d+1) 22 (.slice a n c) (.slice none 0 0)).run Tryz.prog w = .ok a.isNone w:=by
 cases a<;>simp [Op.equalIn,run_underlying Tryz.underlying22]
theorem eql_nilS (w:World) (a:Option Addr) (n c:Nat):(binOp .eql 22 (.slice a n c) (.slice none 0 0)).run Tryz.prog w = .ok (.bool a.isNone) w:=by
 simp only [binOp]
 simp [Op.equal,Op.maxDepth,equalIn_nilS w 9999 a n c]
def PadEnd (w:World) (p:Option (List Int)) (e:Ending) (w':World):Prop := ∃pd,e = .returned (.tuple #[pd,.bool p.isSome])∧PadV w pd p∧w=w'
theorem padding_any {pv:Value} {ps:List (Option (List Int))} (hp:PadsR w pv ps) (k:Nat):Calls Tryz.prog 16 #[pv,.int .i64 k] w (PadEnd w (Pl.padAt ps k)):=by
 obtain ⟨pa,pc,rfl,hpc,hpm,hpf⟩:=hp
 by_cases hk:k<ps.length
 · obtain ⟨b,o,pd,rfl,hc,hv⟩:=hpf k _ (List.getElem?_eq_getElem hk)
   have e2:Pl.padAt ps k=ps[k]:=by unfold Pl.padAt;rw [List.getElem?_eq_getElem hk];rfl
   rw [e2]
   have hki:(k:Int)<ps.length:=by omega
   have hle:¬ps.length≤k:=by omega
   generalize ps[k]=p at *
   clear hpf hk e2
   cases p with
   | none =>
     obtain rfl:pd = .slice none 0 0:=hv
     have hnl:∀w,(binOp .eql 22 (.slice none 0 0) (.slice none 0 0)).run Tryz.prog w = .ok (.bool true) w:=fun w=>eql_nilS w none 0 0
     go_enter Tryz.func16,Tryz.ntmps16
     go_wp2_with fail
     go_ret2
     exact ⟨_,rfl,rfl,rfl⟩
   | some l =>
     obtain ⟨⟨a,n,c,rfl⟩,hr⟩:=id hv
     have HV:=Lib.hid hv
     have hnl:∀w,(binOp .eql 22 (.slice (some a) n c) (.slice none 0 0)).run Tryz.prog w = .ok (.bool false) w:=fun w=>eql_nilS w (some a) n c
     clear hv hr
     go_enter Tryz.func16,Tryz.ntmps16
     go_wp2_with fail
     go_ret2
     exact ⟨_,rfl,HV.out,rfl⟩
 · have e2:Pl.padAt ps k=none:=by unfold Pl.padAt;rw [List.getElem?_eq_none (by omega)];rfl
   rw [e2]
   have hki:¬(k:Int)<ps.length:=by omega
   have hle:ps.length≤k:=by omega
   clear hpf hk e2
   go_enter Tryz.func16,Tryz.ntmps16
   go_wp2_with fail
   go_ret2
   exact ⟨_,rfl,rfl,rfl⟩
end Go.Proofs.YtfdlbjibninakaaGreatDoor
