/- laws.results: results of the package as results of the reference. -/
import Derived.Test.YtfdlbjibninakaaGreatDoorCf
import Derived.Deep.RegionHeld3
set_option linter.unusedVariables false
set_option linter.unusedSimpArgs false
namespace Go.Proofs.YtfdlbjibninakaaGreatDoor
set_option maxRecDepth 10000
set_option maxHeartbeats 4000000
open Go.RowKit
theorem ESs:Elem Tryz.prog 27 97 2 16 (.agg #[.int .i64 0,.int .u32 0]):=⟨Tryz.underlying27,by kernel_rfl,rfl,by decide⟩
theorem infoSi:(Tryz.prog.info? 110).map (·.size)=some 2:=by kernel_rfl
theorem infoSs:(Tryz.prog.info? 97).map (·.size)=some 2:=by kernel_rfl
def TurnEnd (w:World) (x:Fr) (dv:Value) (e:Ending) (w':World):Prop := ∃sv,e = .returned (.agg (frX x dv sv))∧Below w.heap.size w w'∧RdP w' sv x.set∧inK (w.heap.size ≤ ·) sv
theorem prV_take (l:List (Int × Int)) (k:Nat) (h:k<l.length):prV (l.take (k+1))=prV (l.take k) ++ [.int .i64 l[k].1,.int .u32 l[k].2]:=by
 rw [List.take_succ_eq_append_getElem h,prV_app];rfl
theorem fresh_inK {B:Nat} {v:Value} (h:Fresh B v):inK (B ≤ ·) v:=by
 cases v with
 | slice a n c=>cases a with
   | none=>trivial
   | some a=>exact .inr (h _ rfl)
 | _=>trivial
theorem plainL_any (x:Fr) (a:Option Addr) (n c:Nat) (sv:Value) (w:World) (hs:RdP w sv x.set) (hl:x.set.length≤3000000) :
   Calls Tryz.prog 25 #[.agg (frX x (.slice a n c) sv)] w (TurnEnd w x (.slice a n c)):=by
 obtain ⟨sa,sc,rfl,hs1,hs2,hs3⟩:=hs
 unfold frX frameC
 go_enter Tryz.func25,Tryz.ntmps25
 go_wp2_with (refine wpList_store_blk rfl _ _ _ rfl (w.heap.size+2) rfl (frX x (.slice a n c) (.slice none 0 0)) _ rfl 29 (blk_at _ _ (by simp)) rfl infoFs (by simp [Value.oneCell',frX,frameC]) ?_;intro w1 hb1 hk1;have c13:w1.cell? ⟨w.heap.size,13,none⟩=some (.slice sa x.set.length sc):=hk1.cell (by simp) (blk_cell (blk_alloc (blk_alloc (blk_at w _ rfl))) 13))
 have hB1:Below w.heap.size w w1:=((((Kept.refl (· < w.heap.size) w).alloc _).alloc _).alloc _).trans (hk1.mono (fun k h _=>by omega)) |>.below (Nat.le_refl _)
 have hq1:=hk1.at (b:=w.heap.size+1) (by simp) (blk_alloc (blk_at _ _ (by simp)))
 clear hk1
 go_loopw [36] (fun i wr => ∃k:Nat,k≤x.set.length∧i = .int .i64 k ∧ ∃sv',wr.heap[w.heap.size+2]? = some (.cells (frX x (.slice a n c) sv') 29 (0,0))∧Row wr 97 2 sv' k (prV (x.set.take k))∧Fresh w.heap.size sv'∧Below w.heap.size w wr ∧
   wr.heap[w.heap.size+1]? = w1.heap[w.heap.size+1]?) (fun i _=>x.set.length-(intOf i).toNat)
 case atStart=>exact ⟨0,Nat.zero_le _,rfl,_,hb1,World.ownsRow_nil _ _ _ _,Fresh.nil _,hB1,rfl⟩
 case round =>
   obtain ⟨k,hk,rfl,sv',hb,hrow,hfr,hbel,hq⟩:=hrel
   by_cases hlt:k<x.set.length
   · obtain ⟨b,o,rfl,hc1,hc2⟩:=hs3 k _ (List.getElem?_eq_getElem hlt)
     have hd1:=(Kept.ofBelow hbel).cell (show b<w.heap.size from World.block_lt_of_cell? _ _ hc1) hc1
     have hd2:=(Kept.ofBelow hbel).cell (show b<w.heap.size from World.block_lt_of_cell? _ _ hc1) hc2
     have c13':wr.cell? ⟨w.heap.size+2,13,none⟩=some sv':=blk_cell hb 13
     obtain ⟨va,vc,rfl,hvc,hvm⟩:=own_shape hrow
     have hlt2:=lt_of_block hb
     have hnb:=own_block hrow hb (by decide)
     have hnq:=own_block hrow (hq.trans hq1) (by decide)
     go_wp2_with (first
       | (refine wpList_load_at rfl _ _ rfl b _ rfl #[.int .i64 x.set[k].1,.int .u32 x.set[k].2] (two_at hd1 hd2 (by simp;omega)) Tryz.underlying110 infoSi ?_)
       | (at_builtin;go_loud (refine wpList_app ESs rfl _ _ rfl (.slice va k vc) k _ rfl (own_alloc (own_alloc hrow _) _) 1 _ (src_of_block Tryz.underlying27 (blk_at _ _ (by simp)) rfl (by simp [Value.oneCell'])) (by omega) (by unfold maxLen;omega) ?_);intro a' c' w2 hown2 hgrow hat;have hb2:w2.heap[w.heap.size+1+1]? = _:=blk_grown (blk_alloc (blk_alloc hb)) hgrow hnb;have hd13:=blk_cell hb2 13;have hf13:=blk_free hb2 13))
     go_roundw
     case rel =>
       refine ⟨k+1,by omega,by go_num,.slice a' (k+1) c',blk_set hb2 13 _,?_,hfr.app (by have:=hbel.size;simp;omega) hat,?_,?_⟩
       · rw [prV_take _ _ hlt]
         exact own_set hown2 (own_block hown2 hb2 (by decide)) _
       · exact ((Below.app ((hbel.alloc hbel.size _).alloc (by have:=hbel.size;simp;omega) _) (by have:=hbel.size;simp;omega) hgrow hfr)).setCell (by simp;omega) _
       · rw [hq1]
         exact blk_set_other (blk_grown (blk_alloc (blk_alloc (hq.trans hq1))) hgrow hnq) (by simp) _
     case measure=>simp [intOf];omega
   · have hkl:k=x.set.length:=by omega
     subst hkl
     have hqq:=hq.trans hq1
     clear hs3 hq hq1
     rw [List.take_length] at hrow
     obtain ⟨va,vc,rfl,-,-⟩:=own_shape hrow
     go_wp2_with (first
       | (refine wpList_load_blk rfl _ _ rfl (w.heap.size+2) rfl _ 29 hb Tryz.underlying29 infoFs ?_)
       | (refine wpList_store_blk rfl _ _ _ rfl (w.heap.size+1) rfl _ _ rfl 29 hqq rfl infoFs (by simp [Value.oneCell',frX,frameC]) ?_;intro w2 hb2 hk2))
     refine ret_blk rfl (w.heap.size+1) _ _ rfl hb2 Tryz.underlying29 infoFs rfl ⟨_,rfl,hbel.trans (hk2.mono (fun k h _=>by omega) |>.below hbel.size),?_,fresh_inK hfr⟩
     exact rdP_of_row (own_kept hrow hk2 (fun g hg e=>own_block hrow hqq (by decide) (e▸hg)))
end Go.Proofs.YtfdlbjibninakaaGreatDoor

namespace Go.Proofs.YtfdlbjibninakaaGreatDoor
set_option maxRecDepth 10000
set_option maxHeartbeats 8000000
open Go.RowKit
theorem rdI_lt' {k:IntKind} {w:World} {v:Value} {l:List Int} (h:RdI k w v l):inK (· < w.heap.size) v:=by
 obtain ⟨a,c,rfl,-,-,h3⟩:=h
 cases a with
 | none=>trivial
 | some a =>
   cases l with
   | nil=>exact .inl rfl
   | cons y l =>
     obtain ⟨b,o,e,hc⟩:=h3 0 y rfl
     cases e
     exact .inr (World.block_lt_of_cell? _ _ hc)
theorem rdP_lt' {w:World} {v:Value} {l:List (Int × Int)} (h:RdP w v l):inK (· < w.heap.size) v:=by
 obtain ⟨a,c,rfl,-,-,h3⟩:=h
 cases a with
 | none=>trivial
 | some a =>
   cases l with
   | nil=>exact .inl rfl
   | cons y l =>
     obtain ⟨b,o,e,hc,-⟩:=h3 0 y rfl
     cases e
     exact .inr (World.block_lt_of_cell? _ _ hc)
theorem res_step {w w2 w3:World} {ob:Obj} {out out':Value} {rs:List Rs} {xs:List Value} {r:Rs} {dv sv:Value} {n:Nat} (hf:Fresh w.heap.size out) (hol:∀j,out.ownBlock=some j→j<n) (hn:n≤w2.heap.size) (hbel:Below w.heap.size w w2) (hsz:w.heap.size≤w2.heap.size)
   (ha:RsAll (fun j=>out.ownBlock≠some j∧j<n) w2 xs rs) (hgrow:(w2.alloc ob).grownBy w3 out.ownBlock) (hat:out'.ownBlock=out.ownBlock∨out'.ownBlock=some (w2.alloc ob).heap.size)
   (hd:RdB w dv r.x.data) (hs:RdP w2 sv r.x.set) (fs:inK (n ≤ ·) sv) :
   RsAll (fun j=>out'.ownBlock≠some j∧j<w3.heap.size) w3 (xs++(rsX r dv sv).toList) (rs ++ [r])∧Fresh w.heap.size out'∧Below w.heap.size w w3:=by
 have s3:=hgrow.size
 have sa:(w2.alloc ob).heap.size=w2.heap.size+1:=by simp
 rw [sa] at s3 hat
 have k23:∀{J:Nat→Prop},(∀k,out.ownBlock=some k→J k→False)→Kept J w2 w3:=fun {J} hJ=>((Kept.refl J w2).alloc ob).grown hgrow (fun k e h=>(hJ k e h).elim)
 have ne':∀k,k<w2.heap.size→out.ownBlock≠some k→out'.ownBlock≠some k:=by
   intro k hk hne e
   rcases hat with h|h
   · exact hne (h.symm.trans e)
   · rw [h] at e;cases e;omega
 have hb3:Kept (· < w.heap.size) w w3:=(Kept.ofBelow hbel).trans (k23 fun k e h=>by have:=hf k e;omega)
 refine ⟨RsAll.snoc ((ha.kept (k23 fun k e h=>h.1 e)).mono fun k h=>⟨ne' k (by omega) h.1,by omega⟩) (hd.kept hb3 (rdI_lt' hd)) ?_ (hs.kept (k23 (J:=(n ≤ ·)) fun k e h=>by have:=hol k e;omega) fs) ?_,?_,hb3.below (Nat.le_refl _)⟩
 · exact (rdI_lt' hd).mono' fun k h=>⟨ne' k (by omega) fun e=>by have:=hf k e;omega,by omega⟩
 · have h2:=rdP_lt' hs
   revert fs h2
   cases sv with
   | slice a m c=>cases a with
     | none=>intros;trivial
     | some a=>exact fun fs h2=>fs.elim .inl fun fs=>h2.elim .inl fun h2 => .inr ⟨ne' _ h2 fun e=>by have:=hol _ e;omega,by omega⟩
   | _=>intros;trivial
 · intro g hg
   rcases hat with h|h
   · exact hf g (h.symm.trans hg)
   · rw [h] at hg;cases hg;omega
theorem results_any (v:Value) (rs:List Rs) (w:World) (hv:ResR 65 w v rs) (hn:rs.length≤100000000) (hl:∀r∈rs,r.x.set.length≤3000000) :
   Calls Tryz.prog 9 #[v] w (ResEnd 31 w rs):=by
 obtain ⟨ys,hrow,hall⟩:=hv
 obtain ⟨va,vc,rfl,hvc,hvm⟩:=own_shape hrow
 go_enter Tryz.func9,Tryz.ntmps9
 go_wp2_with fail
 go_loopw [3,8] (fun o i wr => ∃k:Nat,k≤rs.length∧i = .int .i64 k ∧ ∃xs,Row wr 31 17 o k xs∧RsAll (fun j=>o.ownBlock≠some j∧j<wr.heap.size) wr xs (rs.take k)∧Fresh w.heap.size o∧Below w.heap.size w wr) (fun _ i _=>rs.length-(intOf i).toNat)
 case atStart=>exact ⟨0,Nat.zero_le _,rfl,[],World.ownsRow_nil _ _ _ _,.nil,Fresh.nil _,Below.refl _ _⟩
 case round =>
   obtain ⟨k,hk,rfl,xs,hr,ha,hfr,hbel⟩:=hrel
   by_cases hlt:k<rs.length
   · obtain ⟨oa,oc,rfl,hoc,hom⟩:=own_shape hr
     obtain ⟨dv,sv,hd,-,hs,-,hx⟩:=hall.at (List.getElem?_eq_getElem hlt)
     have hd':=hd
     have hs':=hs
     obtain ⟨da,dc,rfl,-,-,-⟩:=hd'
     obtain ⟨sa,sc,rfl,-,-,-⟩:=hs'
     have hcells:∃g,va=some ⟨g,0,none⟩ ∧ ∀j u,(rsX rs[k] (.slice da rs[k].x.data.length dc) (.slice sa rs[k].x.set.length sc))[j]? = some u→wr.cell? ⟨g,k*17+j,none⟩=some u:=by
       obtain ⟨g,c,e,-⟩:=own_cell hrow (k*17) _ (hx 0 _ rfl)
       cases e
       refine ⟨g,rfl,fun j u hu => ?_⟩
       obtain ⟨g',c',e',hc⟩:=own_cell hrow _ _ (hx j u hu)
       cases e'
       exact (Kept.ofBelow hbel).cell (show g<w.heap.size from World.block_lt_of_cell? _ _ hc) hc
     obtain ⟨g,rfl,hcells⟩:=hcells
     have hh:=hl _ (List.getElem_mem hlt)
     obtain ⟨fr,hfe⟩:∃fr,rsX rs[k] (.slice da rs[k].x.data.length dc) (.slice sa rs[k].x.set.length sc)=fr:=⟨_,rfl⟩
     have hsz:fr.size=17:=by rw [←hfe];exact rsX_size ..
     have h1f:∀u∈fr.toList,u.oneCell'=true:=by rw [←hfe];exact rsX_one _ _ _ _ _ _ _
     have hif:(Tryz.prog.info? 65).map (·.size)=some fr.size:=by rw [hsz];exact infoRi
     rw [hfe] at hcells
     have HF:=Lib.hid hfe
     have HC:=Lib.hid hcells
     have HL:=Lib.hid hl
     have HS:=Lib.hid hs
     have HD:=Lib.hid hd
     clear hx hcells hl hs hd hfe
     go_wp2_with (first
       | (refine wpList_load_at rfl _ _ rfl g (k*17) rfl fr HC.out Tryz.underlying65 hif ?_)
       | (refine wpList_store_blk rfl _ _ _ rfl wr.heap.size rfl fr _ rfl 65 (blk_new _ _) hsz hif h1f ?_;intro w1 hb1 hk1))
     have hb0:w1.heap[wr.heap.size]? = some (.cells (rsC rs[k].f rs[k].c rs[k].s (frX rs[k].x (.slice da rs[k].x.data.length dc) (.slice sa rs[k].x.set.length sc))) 65 (0,0)):=by rw [hb1,←HF.out];rfl
     have hbel1:Below w.heap.size w w1:=(hbel.alloc hbel.size _).trans ((hk1.mono (fun k h _=>by have:=hbel.size;omega)).below (by have:=hbel.size;simp;omega))
     have hs1:RdP w1 (.slice sa rs[k].x.set.length sc) rs[k].x.set:=HS.out.below hbel1
     have hr1:Row w1 31 17 (.slice oa k oc) k xs:=own_kept (own_alloc hr _) hk1 (fun g hg e=>by have:=own_lt hr g hg;omega)
     have hB1:Below wr.heap.size wr w1:=((Kept.refl (· < wr.heap.size) wr).alloc _).trans (hk1.mono fun k h _=>Nat.ne_of_lt h) |>.below (Nat.le_refl _)
     have hnq:(Value.slice oa k oc).ownBlock≠some wr.heap.size:=fun e=>absurd (own_lt hr _ e) (Nat.lt_irrefl _)
     have hpl:∀w',RdP w' (.slice sa rs[k].x.set.length sc) rs[k].x.set→Calls Tryz.prog 25 #[.agg (frX rs[k].x (.slice da rs[k].x.data.length dc) (.slice sa rs[k].x.set.length sc))] w' (TurnEnd w' rs[k].x (.slice da rs[k].x.data.length dc)):=fun w' h=>plainL_any _ _ _ _ _ w' h hh
     have hxz:(Tryz.prog.info? 63).map (·.size)=some (frX rs[k].x (.slice da rs[k].x.data.length dc) (.slice sa rs[k].x.set.length sc)).size:=by rw [frX_size];exact infoFi
     generalize frX rs[k].x (.slice da rs[k].x.data.length dc) (.slice sa rs[k].x.set.length sc)=fx at *
     have HP:=Lib.hid hpl
     have HX:=Lib.hid hxz
     have HB:=Lib.hid hb0
     clear hpl hsz h1f hif HF HC hxz
     clear hb1 hk1 hb0
     refine wp_region_held_drew (S:=fun w'=>w'.heap[wr.heap.size]? = some (.cells (rsC rs[k].f rs[k].c rs[k].s fx) 65 (0,0))) (by kernel_rfl) HB.out (fun hHeld => ?_)
     refine tkSr 0 (.slice oa k oc) ?_;try simp only [Act.put,sxA,sxB,sxC]
     refine tkSr 1 (.pointer (some ⟨wr.heap.size,0,none⟩)) ?_;try simp only [Act.put,sxA,sxB,sxC]
     refine tkLr 2 (.int .i64 rs[k].f) ?_ ?_
     · intro w hSw;have hc:=(rsC_012 hSw).1;clear hSw;go_simp
     try simp only [Act.put,sxA,sxB,sxC]
     refine tkSr 3 (.pointer (some ⟨wr.heap.size,1,none⟩)) ?_;try simp only [Act.put,sxA,sxB,sxC]
     refine tkLr 4 (.int .u32 rs[k].c) ?_ ?_
     · intro w hSw;have hc:=(rsC_012 hSw).2.1;clear hSw;go_simp
     try simp only [Act.put,sxA,sxB,sxC]
     refine tkSr 5 (.pointer (some ⟨wr.heap.size,2,none⟩)) ?_;try simp only [Act.put,sxA,sxB,sxC]
     refine tkLr 6 (.int .u32 rs[k].s) ?_ ?_
     · intro w hSw;have hc:=(rsC_012 hSw).2.2;clear hSw;go_simp
     try simp only [Act.put,sxA,sxB,sxC]
     refine tkSr 7 (.pointer (some ⟨wr.heap.size,3,none⟩)) ?_;try simp only [Act.put,sxA,sxB,sxC]
     refine tkLr 8 (.agg fx) ?_ ?_
     · intro w hSw;exact exec_load_at _ _ rfl wr.heap.size 3 rfl fx (rsC_at hSw) Tryz.underlying63 HX.out
     try simp only [Act.put,sxA,sxB,sxC]
     refine wpAnyH_ready (rs:=[9]) (by kernel_rfl) (by simp) ?_
     refine AllReadyH.cons rfl (fun K' hK => ?_) AllReadyH.nil
     go_simp
     refine (HP.out w1.drew hs1).mono ?_
     rintro e w2 ⟨sv',rfl,hb2,hs2,hk2⟩
     have hb3:=blk_below (w:=w1.drew) hHeld hb2
     clear hHeld
     obtain ⟨sa',sc',rfl,-,-,-⟩:=id hs2
     unfold frX frameC
     go_wp2_with fail
     refine hK.out _ _ hb3 (fun hHeld => ?_)
     clear hK K'
     try simp only [Act.put,sxA,sxB,sxC]
     refine tkSr 10 (.agg #[.int .i64 rs[k].f,.int .u32 rs[k].c,.int .u32 rs[k].s,.int .i64 rs[k].x.ty,.int .i64 rs[k].x.fl,.int .u32 rs[k].x.st,.int .i64 rs[k].x.ln,.slice da rs[k].x.data.length dc,.int .u32 rs[k].x.pr,.int .u32 rs[k].x.la,.int .u32 rs[k].x.co,.int .u32 rs[k].x.inc,.bool rs[k].x.hp,.bool rs[k].x.ex,.int .u32 rs[k].x.dep,.int .i64 rs[k].x.wt,.slice sa' rs[k].x.set.length sc']) ?_;try simp only [Act.put,sxA,sxB,sxC]
     refine wpAnyH_ready (rs:=[11]) (by kernel_rfl) (by simp) ?_
     refine AllReadyH.cons rfl (fun K' hK => ?_) AllReadyH.nil
     go_simp
     refine hK.out _ _ (blk_alloc hb3) (fun hHeld => ?_)
     clear hK K'
     try simp only [Act.put,sxA,sxB,sxC]
     refine wpAnyH_ready (rs:=[12]) (by kernel_rfl) (by simp) ?_
     refine AllReadyH.cons rfl (fun K' hK => ?_) AllReadyH.nil
     have hr2:Row w2 31 17 (.slice oa k oc) k xs:=own_below (w:=w1.drew) hr1 hb2
     refine step_app ERs rfl _ _ rfl (.slice oa k oc) k xs rfl (own_alloc hr2 _) 1 _ (src_of_block Tryz.underlying23 (blk_new _ _) rfl (by simp [Value.oneCell'])) (by omega) (by unfold maxLen;omega) ?_
     intro a' c' w3 hown3 hgrow hat
     refine hK.out _ _ ?_ (fun hHeld => ?_)
     · exact blk_grown (blk_alloc hb3) hgrow hnq
     clear hK K'
     try simp only [Act.put,sxA,sxB,sxC]
     refine tkSr 13 (.slice a' (k+1) c') ?_;try simp only [Act.put,sxA,sxB,sxC]
     refine wpAnyH_done (by kernel_rfl) ?_ _
     go_wp2_with fail
     have hB2:Below wr.heap.size wr w2:=⟨hb2.os.trans hB1.os,hb2.tape.trans hB1.tape,hb2.output.trans hB1.output,Nat.le_trans hB1.size hb2.size,fun j hj=>(hb2.block j (Nat.lt_of_lt_of_le hj hB1.size)).trans (hB1.block j hj)⟩
     have st:=res_step (dv:=.slice da rs[k].x.data.length dc) (sv:=.slice sa' rs[k].x.set.length sc') (r:=rs[k]) hfr (own_lt hr) hB2.size (Below.then hbel (Nat.le_refl _) hB2) (Nat.le_trans hbel.size hB2.size) (ha.stay hB2) hgrow hat HD.out hs2 (hk2.mono' fun j hj=>Nat.le_trans hB1.size hj)
     have ST:=Lib.hid st
     have HO:=Lib.hid hown3
     clear st hown3 hs2 hk2 hb2 hB2 hat hgrow hr2 hb3
     go_roundw
     case rel=>exact ⟨k+1,by omega,by go_num,_,HO.out,by rw [List.take_succ_eq_append_getElem hlt];exact ST.out.1,ST.out.2.1,ST.out.2.2⟩
     case measure=>simp [intOf];omega
   · have hkl:k=rs.length:=by omega
     subst hkl
     have HA:=Lib.hid ha
     clear ha hl hall
     go_wp2_with fail
     go_ret
     refine ⟨_,rfl,hbel,⟨xs,hr,?_⟩,hfr⟩
     have:=HA.out
     rw [List.take_length] at this
     exact this.mono fun _ _=>trivial
end Go.Proofs.YtfdlbjibninakaaGreatDoor
