/- spec.Equal: two frames compared. -/
import Derived.Test.YtfdlbjibninakaaGreatDoorCf
import Derived.Laws.StructEq
import Derived.Deep.QuietTactic
import Derived.BigQuiet
import Derived.Outline
set_option linter.unusedVariables false
set_option linter.unusedSimpArgs false
namespace Go.Proofs.YtfdlbjibninakaaGreatDoor
set_option maxRecDepth 10000
set_option maxHeartbeats 8000000
open Go.RowKit
theorem fieldsS:Tryz.prog.underlying 97=some (.struct (Tryz.prog.fieldsOf 97)):=by kernel_rfl
theorem stoodS:Tryz.prog.stoodInHeld 97=false:=by kernel_rfl
theorem infoSs':(Tryz.prog.info? 97).map (·.size)=some 2:=by kernel_rfl
theorem neq_set (a b c d:Int):∃q:Bool,(q=false↔a=c∧b=d) ∧ ∀w,(binOp .neq 97 (.agg #[.int .i64 a,.int .u32 b]) (.agg #[.int .i64 c,.int .u32 d])).run Tryz.prog w = .ok (.bool q) w:=by
 have hui:Tryz.prog.underlying 3=some (.int .i64):=by kernel_rfl
 have hu32:Tryz.prog.underlying 26=some (.int .u32):=Tryz.underlying26
 by_cases h1:a=c<;>by_cases h2:b=d
 · refine ⟨false,by simp [h1,h2],fun w => ?_⟩
   rw [run_neq_struct,show (10000:Nat)=9999+1 from rfl,run_equalIn_struct w 9999 97 _ _ fieldsS stoodS]
   unfold Program.fieldsOf
   rw [Tryz.underlying97]
   simp [Op.eqFields,part,run_equalIn_int w 9998 _ _ .i64 _ _ hui,run_equalIn_int w 9998 _ _ .u32 _ _ hu32,h1,h2]
 all_goals
   refine ⟨true,by simp [h1,h2],fun w => ?_⟩
   rw [run_neq_struct,show (10000:Nat)=9999+1 from rfl,run_equalIn_struct w 9999 97 _ _ fieldsS stoodS]
   unfold Program.fieldsOf
   rw [Tryz.underlying97]
   simp [Op.eqFields,part,run_equalIn_int w 9998 _ _ .i64 _ _ hui,run_equalIn_int w 9998 _ _ .u32 _ _ hu32,h1,h2]
theorem RdB.run {w:World} {v:Value} {l:List Int} (h:RdB w v l) {w':World} (hb:Below w.heap.size w w'):(convert 22 9 v).run Tryz.prog w' = .ok (.string (strOfNums l)) w':=conv_rd (h.below hb)
def EqYes (w:World) (e:Ending) (w':World):Prop:=e = .returned (.bool true)∧Below w.heap.size w w'
theorem RdP.shape {w:World} {v:Value} {l:List (Int × Int)} (h:RdP w v l):∃a c,v = .slice a l.length c∧l.length≤c∧c≤maxLen:=by
 obtain ⟨a,c,e,h1,h2,-⟩:=h
 exact ⟨a,c,e,h1,h2⟩
theorem equal_yes (x:Fr) (dv ev sv tv:Value) (w:World) (hd:RdB w dv x.data) (he:RdB w ev x.data) (hs:RdP w sv x.set) (ht:RdP w tv x.set) :
   Calls Tryz.prog 20 #[.agg (frX x dv sv),.agg (frX x ev tv)] w (EqYes w):=by
 obtain ⟨sa,sc,rfl,hsc,hsm⟩:=hs.shape
 obtain ⟨ta,tc,rfl,htc,htm⟩:=ht.shape
 have hB2:Below w.heap.size w ((w.alloc (.cells (frX x dv (.slice sa x.set.length sc)) 29)).alloc (.cells (frX x ev (.slice ta x.set.length tc)) 29)):=(((Kept.refl (· < w.heap.size) w).alloc _).alloc _).below (Nat.le_refl _)
 have e1:=hd.run hB2
 have e2:=he.run hB2
 unfold frX frameC at e1 e2 ⊢
 unfold maxLen at hsm htm
 go_enter Tryz.func20,Tryz.ntmps20
 go_wp2_with fail
 clear e1 e2
 go_loopw [109] (fun i wr => ∃k:Nat,k≤x.set.length∧i = .int .i64 k∧Below w.heap.size w wr∧wr.cell? ⟨w.heap.size,13,none⟩=some (.slice sa x.set.length sc)∧wr.cell? ⟨w.heap.size+1,13,none⟩=some (.slice ta x.set.length tc)) (fun i _=>x.set.length-(intOf i).toNat)
 case atStart=>exact ⟨0,Nat.zero_le _,rfl,hB2,blk_cell (blk_alloc (blk_new w _)) 13,blk_cell (blk_at _ _ (by simp)) 13⟩
 case round =>
   obtain ⟨k,hk,rfl,hbel,cA,cB⟩:=hrel
   by_cases hlt:k<x.set.length
   · obtain ⟨_,_,e1,-,-,q1⟩:=hs.below hbel
     obtain ⟨_,_,e2,-,-,q2⟩:=ht.below hbel
     cases e1
     cases e2
     obtain ⟨ba,oa,rfl,u1,u2⟩:=q1 k _ (List.getElem?_eq_getElem hlt)
     obtain ⟨bb,ob,rfl,v1,v2⟩:=q2 k _ (List.getElem?_eq_getElem hlt)
     obtain ⟨q,hq,hqr⟩:=neq_set x.set[k].1 x.set[k].2 x.set[k].1 x.set[k].2
     obtain rfl:q=false:=hq.2 ⟨rfl,rfl⟩
     have HS:=Lib.hid hs
     have HT:=Lib.hid ht
     clear q1 q2 hq hs ht hd he
     generalize x.set[k].1=y1 at *
     generalize x.set[k].2=y2 at *
     generalize x.set.length=n at *
     go_wp2
     refine wp_region_quiet_lit (by kernel_rfl) (by kernel_rfl) ?_
     repeat (first
       | (refine quiet_load_at rfl 97 _ rfl ba _ rfl #[.int .i64 y1,.int .u32 y2] (by rintro _ ⟨_,rfl⟩;exact two_at u1 u2 (by simp;omega)) Tryz.underlying97 infoSs' ?_)
       | (refine quiet_load_at rfl 97 _ rfl bb _ rfl #[.int .i64 y1,.int .u32 y2] (by rintro _ ⟨_,rfl⟩;exact two_at v1 v2 (by simp;omega)) Tryz.underlying97 infoSs' ?_)
       | quiet_step (fail))
     refine wpQuiet_nil ?_
     intro _ hw'
     obtain ⟨nq,hw''⟩:=hw'
     subst hw''
     go_wp2
     go_roundw
     case rel=>exact ⟨k+1,by omega,by go_num,⟨hbel.os,hbel.tape,hbel.output,hbel.size,hbel.block⟩,cA,cB⟩
     case measure=>simp [intOf];omega
   · clear hs ht hd he
     go_wp2
     go_ret
     exact ⟨rfl,hbel⟩
end Go.Proofs.YtfdlbjibninakaaGreatDoor
