/- spec.Legal: the first test; the whole. -/
import Derived.Test.YtfdlbjibninakaaGreatDoorLgc
set_option linter.unusedVariables false
set_option linter.unusedSimpArgs false
namespace Go.Proofs.YtfdlbjibninakaaGreatDoor
set_option maxRecDepth 100000
set_option maxHeartbeats 16000000
open Go.RowKit
theorem legal_any {w:World} {x:Fr} {dv sv pv:Value} {pad:List Int} {pd:Bool} (hT:FrTy x) (hd:RdB w dv x.data) (hs:RdP w sv x.set) (hp:RdB w pv pad):Calls Tryz.prog 32 #[.agg (frX x dv sv),pv,.bool pd] w (EqAny w (Pl.Legal x pad pd)):=by
 obtain ⟨sa,sc,rfl,hsc,hsm⟩:=hs.shape
 obtain ⟨da,dc,rfl,hdc,hdm,-⟩:=id hd
 obtain ⟨pa,pc,rfl,hpc,hpm,-⟩:=id hp
 unfold maxLen at hsm hdm hpm
 have HT:=Lib.hid hT
 have HS:=Lib.hid hs
 have HD:=Lib.hid hd
 have HP:=Lib.hid hp
 have CLN:=Lib.hid fun (w':World) (hb:Below w.heap.size w w')=>clean_any (x:=x) (hd.below hb) (hs.below hb) hT.data
 have FLG:=Lib.hid fun w=>flags_any x.ty w
 have HH0:Hid ((fun w'=>w'.heap[w.heap.size]? = some (.cells #[.int .i64 x.ty,.int .i64 x.fl,.int .u32 x.st,.int .i64 x.ln,.slice da x.data.length dc,.int .u32 x.pr,.int .u32 x.la,.int .u32 x.co,.int .u32 x.inc,.bool x.hp,.bool x.ex,.int .u32 x.dep,.int .i64 x.wt,.slice sa x.set.length sc] 29 (0,0))∧Below w.heap.size w w') (w.alloc (.cells #[.int .i64 x.ty,.int .i64 x.fl,.int .u32 x.st,.int .i64 x.ln,.slice da x.data.length dc,.int .u32 x.pr,.int .u32 x.la,.int .u32 x.co,.int .u32 x.inc,.bool x.hp,.bool x.ex,.int .u32 x.dep,.int .i64 x.wt,.slice sa x.set.length sc] 29)).drew):=Lib.hid ⟨blk_new w _,Below.drew (((Kept.refl (· < w.heap.size) w).alloc _).below (Nat.le_refl _))⟩
 have hG1:∀(F A:Int) (q0 q1 q2 q3 q5 q6 q7 q8 q9:Bool),flF x.ty=F→bits .andNot .i64 x.fl F=A→decide (x.ty<0)=q0→decide (255<x.ty)=q1→decide (x.fl<0)=q2→(A != 0)=q3→decide (2147483647<x.st)=q5→decide ((16084:Int)<x.data.length)=q6→(x.ln != 0)=q7→decide (x.wt<0)=q8→decide (255<x.wt)=q9 →
     (q0=false→q1=false→q2=false→q3=false→x=Pl.cleanF x→q5=false→q6=false→q7=false→q8=false→q9=false→Ask1 x):=by
   intro F A q0 q1 q2 q3 q5 q6 q7 q8 q9 hF hA h0 h1 h2 h3 h5 h6 h7 h8 h9 e0 e1 e2 e3 hc e5 e6 e7 e8 e9
   subst e0 e1 e2 e3 e5 e6 e7 e8 e9
   simp at h0 h1 h2 h3 h5 h6 h7 h8 h9
   exact ⟨⟨h0,h1⟩,h2,by rw [hF,hA];exact h3,hc,h5,by omega,h7,⟨h8,h9⟩⟩
 obtain ⟨F,hF⟩:∃F,flF x.ty=F:=⟨_,rfl⟩
 obtain ⟨A,hA⟩:∃A,bits .andNot .i64 x.fl F=A:=⟨_,rfl⟩
 obtain ⟨q0,hq0⟩:∃q,decide (x.ty<0)=q:=⟨_,rfl⟩
 obtain ⟨q1,hq1⟩:∃q,decide (255<x.ty)=q:=⟨_,rfl⟩
 obtain ⟨q2,hq2⟩:∃q,decide (x.fl<0)=q:=⟨_,rfl⟩
 obtain ⟨q3,hq3⟩:∃q,(A != 0)=q:=⟨_,rfl⟩
 obtain ⟨q5,hq5⟩:∃q,decide (2147483647<x.st)=q:=⟨_,rfl⟩
 obtain ⟨q6,hq6⟩:∃q,decide ((16084:Int)<x.data.length)=q:=⟨_,rfl⟩
 obtain ⟨q7,hq7⟩:∃q,(x.ln != 0)=q:=⟨_,rfl⟩
 obtain ⟨q8,hq8⟩:∃q,decide (x.wt<0)=q:=⟨_,rfl⟩
 obtain ⟨q9,hq9⟩:∃q,decide (255<x.wt)=q:=⟨_,rfl⟩
 have GOOD:=Lib.hid (hG1 F A q0 q1 q2 q3 q5 q6 q7 q8 q9 hF hA hq0 hq1 hq2 hq3 hq5 hq6 hq7 hq8 hq9)
 rw [hF] at FLG
 unfold frX frameC at CLN ⊢
 clear hT hs hd hp hG1 hF
 go_enter Tryz.func32,Tryz.ntmps32
 go_upto_region 1 with fail
 rename_i K2 h2 K3 h3
 generalize Value.agg #[.int .i64 x.ty,.int .i64 x.fl,.int .u32 x.st,.int .i64 x.ln,.slice da x.data.length dc,.int .u32 x.pr,.int .u32 x.la,.int .u32 x.co,.int .u32 x.inc,.bool x.hp,.bool x.ex,.int .u32 x.dep,.int .i64 x.wt,.slice sa x.set.length sc]=A0
 go_cut [61] from 9 (fun v wc => ∃q:Bool,v = .bool q∧(q=false→Ask1 x)∧wc.heap[w.heap.size]? = some (.cells #[.int .i64 x.ty,.int .i64 x.fl,.int .u32 x.st,.int .i64 x.ln,.slice da x.data.length dc,.int .u32 x.pr,.int .u32 x.la,.int .u32 x.co,.int .u32 x.inc,.bool x.hp,.bool x.ex,.int .u32 x.dep,.int .i64 x.wt,.slice sa x.set.length sc] 29 (0,0))∧Below w.heap.size w wc)
 case first =>
   refine wp_region_held_drew (S:=fun w'=>w'.heap[w.heap.size]? = some (.cells #[.int .i64 x.ty,.int .i64 x.fl,.int .u32 x.st,.int .i64 x.ln,.slice da x.data.length dc,.int .u32 x.pr,.int .u32 x.la,.int .u32 x.co,.int .u32 x.inc,.bool x.hp,.bool x.ex,.int .u32 x.dep,.int .i64 x.wt,.slice sa x.set.length sc] 29 (0,0))∧Below w.heap.size w w') (by kernel_rfl) HH0.out (fun hHeld => ?_)
   refine tkS 0 (.pointer (some ⟨w.heap.size,0,none⟩)) ?_;simp only [Act.put,sxA,sxB,sxC,sxD,sxE,sxF]
   refine tkL 1 (.int .i64 x.ty) ?_ ?_
   · intro w' hSw;have hc:w'.cell? ⟨w.heap.size,0,none⟩=some (.int .i64 x.ty):=blk_cell hSw.1 0;clear hSw;go_simp
   simp only [Act.put,sxA,sxB,sxC,sxD,sxE,sxF]
   refine tkS 2 (.bool q0) ?_;simp only [Act.put,sxA,sxB,sxC,sxD,sxE,sxF]
   cases q0
   · skip
     refine tkS 3 (.bool false) ?_;simp only [Act.put,sxA,sxB,sxC,sxD,sxE,sxF]
     refine tkS 4 (.pointer (some ⟨w.heap.size,0,none⟩)) ?_;simp only [Act.put,sxA,sxB,sxC,sxD,sxE,sxF]
     refine tkL 5 (.int .i64 x.ty) ?_ ?_
     · intro w' hSw;have hc:w'.cell? ⟨w.heap.size,0,none⟩=some (.int .i64 x.ty):=blk_cell hSw.1 0;clear hSw;go_simp
     simp only [Act.put,sxA,sxB,sxC,sxD,sxE,sxF]
     refine tkS 6 (.bool q1) ?_;simp only [Act.put,sxA,sxB,sxC,sxD,sxE,sxF]
     cases q1
     · skip
       refine tkS 7 (.bool false) ?_;simp only [Act.put,sxA,sxB,sxC,sxD,sxE,sxF]
       refine tkS 8 (.bool false) ?_;simp only [Act.put,sxA,sxB,sxC,sxD,sxE,sxF]
       refine tkS 9 (.pointer (some ⟨w.heap.size,1,none⟩)) ?_;simp only [Act.put,sxA,sxB,sxC,sxD,sxE,sxF]
       refine tkL 10 (.int .i64 x.fl) ?_ ?_
       · intro w' hSw;have hc:w'.cell? ⟨w.heap.size,1,none⟩=some (.int .i64 x.fl):=blk_cell hSw.1 1;clear hSw;go_simp
       simp only [Act.put,sxA,sxB,sxC,sxD,sxE,sxF]
       refine tkS 11 (.bool q2) ?_;simp only [Act.put,sxA,sxB,sxC,sxD,sxE,sxF]
       cases q2
       · skip
         refine tkS 12 (.bool false) ?_;simp only [Act.put,sxA,sxB,sxC,sxD,sxE,sxF]
         refine tkS 13 (.bool false) ?_;simp only [Act.put,sxA,sxB,sxC,sxD,sxE,sxF]
         refine tkS 14 (.pointer (some ⟨w.heap.size,1,none⟩)) ?_;simp only [Act.put,sxA,sxB,sxC,sxD,sxE,sxF]
         refine tkL 15 (.int .i64 x.fl) ?_ ?_
         · intro w' hSw;have hc:w'.cell? ⟨w.heap.size,1,none⟩=some (.int .i64 x.fl):=blk_cell hSw.1 1;clear hSw;go_simp
         simp only [Act.put,sxA,sxB,sxC,sxD,sxE,sxF]
         refine tkS 16 (.pointer (some ⟨w.heap.size,0,none⟩)) ?_;simp only [Act.put,sxA,sxB,sxC,sxD,sxE,sxF]
         refine tkL 17 (.int .i64 x.ty) ?_ ?_
         · intro w' hSw;have hc:w'.cell? ⟨w.heap.size,0,none⟩=some (.int .i64 x.ty):=blk_cell hSw.1 0;clear hSw;go_simp
         simp only [Act.put,sxA,sxB,sxC,sxD,sxE,sxF]
         refine wpAnyH_ready (rs:=[18]) (by kernel_rfl) (by simp) ?_
         refine AllReadyH.cons rfl (fun K' hK => ?_) AllReadyH.nil
         go_simp
         refine (FLG.out _).mono ?_
         rintro e w1 ⟨rfl,rfl⟩
         go_wp2_with fail
         refine hK.out _ _ hHeld (fun hHeld1 => ?_)
         clear hK K'
         try simp only [Act.put,sxA,sxB,sxC,sxD,sxE,sxF]
         refine tkL 19 (.int .i64 A) ?_ ?_
         · intro w' _;go_simp;try rfl
         simp only [Act.put,sxA,sxB,sxC,sxD,sxE,sxF]
         refine tkS 20 (.bool q3) ?_;simp only [Act.put,sxA,sxB,sxC,sxD,sxE,sxF]
         cases q3
         · skip
           refine tkS 21 (.bool false) ?_;simp only [Act.put,sxA,sxB,sxC,sxD,sxE,sxF]
           refine tkS 22 (.bool false) ?_;simp only [Act.put,sxA,sxB,sxC,sxD,sxE,sxF]
           refine tkL 23 (.agg #[.int .i64 x.ty,.int .i64 x.fl,.int .u32 x.st,.int .i64 x.ln,.slice da x.data.length dc,.int .u32 x.pr,.int .u32 x.la,.int .u32 x.co,.int .u32 x.inc,.bool x.hp,.bool x.ex,.int .u32 x.dep,.int .i64 x.wt,.slice sa x.set.length sc]) ?_ ?_
           · intro w' hSw;exact exec_load_at _ _ rfl w.heap.size 0 rfl #[.int .i64 x.ty,.int .i64 x.fl,.int .u32 x.st,.int .i64 x.ln,.slice da x.data.length dc,.int .u32 x.pr,.int .u32 x.la,.int .u32 x.co,.int .u32 x.inc,.bool x.hp,.bool x.ex,.int .u32 x.dep,.int .i64 x.wt,.slice sa x.set.length sc] (fun j v hj=>by rw [Nat.zero_add,blk_cell hSw.1];exact hj) Tryz.underlying29 infoFs
           simp only [Act.put,sxA,sxB,sxC,sxD,sxE,sxF]
           refine wpAnyH_ready (rs:=[24]) (by kernel_rfl) (by simp) ?_
           refine AllReadyH.cons rfl (fun K' hK => ?_) AllReadyH.nil
           go_simp
           refine (CLN.out _ hHeld.2).mono ?_
           rintro e w1 ⟨qc,rfl,hcl,b1⟩
           have HCQ:=Lib.hid hcl
           clear hcl
           have hb1:=blk_below hHeld.1 b1
           have hB1:=Below.then hHeld.2 (Nat.le_refl _) b1
           go_wp2_with fail
           refine hK.out _ _ ⟨hb1,hB1⟩ (fun hHeld2 => ?_)
           clear hK K' hHeld hHeld1 hb1 b1
           try simp only [Act.put,sxA,sxB,sxC,sxD,sxE,sxF]
           refine tkS 25 (.bool (!qc)) ?_;simp only [Act.put,sxA,sxB,sxC,sxD,sxE,sxF]
           cases qc
           · as_aux_lemma =>
             refine tkS 26 (.bool true) ?_;simp only [Act.put,sxA,sxB,sxC,sxD,sxE,sxF]
             refine tkS 27 (.bool true) ?_;simp only [Act.put,sxA,sxB,sxC,sxD,sxE,sxF]
             refine tkU 28 ?_;simp only [Act.put,sxA,sxB,sxC,sxD,sxE,sxF]
             refine tkU 29 ?_;simp only [Act.put,sxA,sxB,sxC,sxD,sxE,sxF]
             refine tkU 30 ?_;simp only [Act.put,sxA,sxB,sxC,sxD,sxE,sxF]
             refine tkS 31 (.bool true) ?_;simp only [Act.put,sxA,sxB,sxC,sxD,sxE,sxF]
             refine tkS 32 (.bool true) ?_;simp only [Act.put,sxA,sxB,sxC,sxD,sxE,sxF]
             refine tkU 33 ?_;simp only [Act.put,sxA,sxB,sxC,sxD,sxE,sxF]
             refine tkU 34 ?_;simp only [Act.put,sxA,sxB,sxC,sxD,sxE,sxF]
             refine tkU 35 ?_;simp only [Act.put,sxA,sxB,sxC,sxD,sxE,sxF]
             refine tkU 36 ?_;simp only [Act.put,sxA,sxB,sxC,sxD,sxE,sxF]
             refine tkS 37 (.bool true) ?_;simp only [Act.put,sxA,sxB,sxC,sxD,sxE,sxF]
             refine tkS 38 (.bool true) ?_;simp only [Act.put,sxA,sxB,sxC,sxD,sxE,sxF]
             refine tkU 39 ?_;simp only [Act.put,sxA,sxB,sxC,sxD,sxE,sxF]
             refine tkU 40 ?_;simp only [Act.put,sxA,sxB,sxC,sxD,sxE,sxF]
             refine tkU 41 ?_;simp only [Act.put,sxA,sxB,sxC,sxD,sxE,sxF]
             refine tkS 42 (.bool true) ?_;simp only [Act.put,sxA,sxB,sxC,sxD,sxE,sxF]
             refine tkS 43 (.bool true) ?_;simp only [Act.put,sxA,sxB,sxC,sxD,sxE,sxF]
             refine tkU 44 ?_;simp only [Act.put,sxA,sxB,sxC,sxD,sxE,sxF]
             refine tkU 45 ?_;simp only [Act.put,sxA,sxB,sxC,sxD,sxE,sxF]
             refine tkU 46 ?_;simp only [Act.put,sxA,sxB,sxC,sxD,sxE,sxF]
             refine tkS 47 (.bool true) ?_;simp only [Act.put,sxA,sxB,sxC,sxD,sxE,sxF]
             refine tkS 48 (.bool true) ?_;simp only [Act.put,sxA,sxB,sxC,sxD,sxE,sxF]
             refine tkU 49 ?_;simp only [Act.put,sxA,sxB,sxC,sxD,sxE,sxF]
             refine tkU 50 ?_;simp only [Act.put,sxA,sxB,sxC,sxD,sxE,sxF]
             refine tkU 51 ?_;simp only [Act.put,sxA,sxB,sxC,sxD,sxE,sxF]
             refine tkS 52 (.bool true) ?_;simp only [Act.put,sxA,sxB,sxC,sxD,sxE,sxF]
             refine wpAnyH_done (by kernel_rfl) ?_ _
             go_wp2_with fail
             go_meet
             case rel=>exact ⟨true,rfl,fun h=>(by cases h),hHeld2.1,hHeld2.2⟩
           · skip
             refine tkS 26 (.bool false) ?_;simp only [Act.put,sxA,sxB,sxC,sxD,sxE,sxF]
             refine tkS 27 (.bool false) ?_;simp only [Act.put,sxA,sxB,sxC,sxD,sxE,sxF]
             refine tkS 28 (.pointer (some ⟨w.heap.size,2,none⟩)) ?_;simp only [Act.put,sxA,sxB,sxC,sxD,sxE,sxF]
             refine tkL 29 (.int .u32 x.st) ?_ ?_
             · intro w' hSw;have hc:w'.cell? ⟨w.heap.size,2,none⟩=some (.int .u32 x.st):=blk_cell hSw.1 2;clear hSw;go_simp
             simp only [Act.put,sxA,sxB,sxC,sxD,sxE,sxF]
             refine tkS 30 (.bool q5) ?_;simp only [Act.put,sxA,sxB,sxC,sxD,sxE,sxF]
             cases q5
             · skip
               refine tkS 31 (.bool false) ?_;simp only [Act.put,sxA,sxB,sxC,sxD,sxE,sxF]
               refine tkS 32 (.bool false) ?_;simp only [Act.put,sxA,sxB,sxC,sxD,sxE,sxF]
               refine tkS 33 (.pointer (some ⟨w.heap.size,4,none⟩)) ?_;simp only [Act.put,sxA,sxB,sxC,sxD,sxE,sxF]
               refine tkL 34 (.slice da x.data.length dc) ?_ ?_
               · intro w' hSw;have hc:w'.cell? ⟨w.heap.size,4,none⟩=some (.slice da x.data.length dc):=blk_cell hSw.1 4;clear hSw;go_simp
               simp only [Act.put,sxA,sxB,sxC,sxD,sxE,sxF]
               refine tkL 35 (.int .i64 x.data.length) ?_ ?_
               · intro w' _;go_simp;try rfl
               simp only [Act.put,sxA,sxB,sxC,sxD,sxE,sxF]
               refine tkS 36 (.bool q6) ?_;simp only [Act.put,sxA,sxB,sxC,sxD,sxE,sxF]
               cases q6
               · skip
                 refine tkS 37 (.bool false) ?_;simp only [Act.put,sxA,sxB,sxC,sxD,sxE,sxF]
                 refine tkS 38 (.bool false) ?_;simp only [Act.put,sxA,sxB,sxC,sxD,sxE,sxF]
                 refine tkS 39 (.pointer (some ⟨w.heap.size,3,none⟩)) ?_;simp only [Act.put,sxA,sxB,sxC,sxD,sxE,sxF]
                 refine tkL 40 (.int .i64 x.ln) ?_ ?_
                 · intro w' hSw;have hc:w'.cell? ⟨w.heap.size,3,none⟩=some (.int .i64 x.ln):=blk_cell hSw.1 3;clear hSw;go_simp
                 simp only [Act.put,sxA,sxB,sxC,sxD,sxE,sxF]
                 refine tkS 41 (.bool q7) ?_;simp only [Act.put,sxA,sxB,sxC,sxD,sxE,sxF]
                 cases q7
                 · skip
                   refine tkS 42 (.bool false) ?_;simp only [Act.put,sxA,sxB,sxC,sxD,sxE,sxF]
                   refine tkS 43 (.bool false) ?_;simp only [Act.put,sxA,sxB,sxC,sxD,sxE,sxF]
                   refine tkS 44 (.pointer (some ⟨w.heap.size,12,none⟩)) ?_;simp only [Act.put,sxA,sxB,sxC,sxD,sxE,sxF]
                   refine tkL 45 (.int .i64 x.wt) ?_ ?_
                   · intro w' hSw;have hc:w'.cell? ⟨w.heap.size,12,none⟩=some (.int .i64 x.wt):=blk_cell hSw.1 12;clear hSw;go_simp
                   simp only [Act.put,sxA,sxB,sxC,sxD,sxE,sxF]
                   refine tkS 46 (.bool q8) ?_;simp only [Act.put,sxA,sxB,sxC,sxD,sxE,sxF]
                   cases q8
                   · skip
                     refine tkS 47 (.bool false) ?_;simp only [Act.put,sxA,sxB,sxC,sxD,sxE,sxF]
                     refine tkS 48 (.bool false) ?_;simp only [Act.put,sxA,sxB,sxC,sxD,sxE,sxF]
                     refine tkS 49 (.pointer (some ⟨w.heap.size,12,none⟩)) ?_;simp only [Act.put,sxA,sxB,sxC,sxD,sxE,sxF]
                     refine tkL 50 (.int .i64 x.wt) ?_ ?_
                     · intro w' hSw;have hc:w'.cell? ⟨w.heap.size,12,none⟩=some (.int .i64 x.wt):=blk_cell hSw.1 12;clear hSw;go_simp
                     simp only [Act.put,sxA,sxB,sxC,sxD,sxE,sxF]
                     refine tkS 51 (.bool q9) ?_;simp only [Act.put,sxA,sxB,sxC,sxD,sxE,sxF]
                     cases q9
                     · skip
                       refine tkS 52 (.bool false) ?_;simp only [Act.put,sxA,sxB,sxC,sxD,sxE,sxF]
                       refine wpAnyH_done (by kernel_rfl) ?_ _
                       go_wp2_with fail
                       go_meet
                       case rel=>exact ⟨false,rfl,fun _=>GOOD.out (by trivial) (by trivial) (by trivial) (by trivial) (HCQ.out (by trivial)) (by trivial) (by trivial) (by trivial) (by trivial) (by trivial),hHeld2.1,hHeld2.2⟩
                     · skip
                       refine tkS 52 (.bool true) ?_;simp only [Act.put,sxA,sxB,sxC,sxD,sxE,sxF]
                       refine wpAnyH_done (by kernel_rfl) ?_ _
                       go_wp2_with fail
                       go_meet
                       case rel=>exact ⟨true,rfl,fun h=>(by cases h),hHeld2.1,hHeld2.2⟩
                   · skip
                     refine tkS 47 (.bool true) ?_;simp only [Act.put,sxA,sxB,sxC,sxD,sxE,sxF]
                     refine tkS 48 (.bool true) ?_;simp only [Act.put,sxA,sxB,sxC,sxD,sxE,sxF]
                     refine tkU 49 ?_;simp only [Act.put,sxA,sxB,sxC,sxD,sxE,sxF]
                     refine tkU 50 ?_;simp only [Act.put,sxA,sxB,sxC,sxD,sxE,sxF]
                     refine tkU 51 ?_;simp only [Act.put,sxA,sxB,sxC,sxD,sxE,sxF]
                     refine tkS 52 (.bool true) ?_;simp only [Act.put,sxA,sxB,sxC,sxD,sxE,sxF]
                     refine wpAnyH_done (by kernel_rfl) ?_ _
                     go_wp2_with fail
                     go_meet
                     case rel=>exact ⟨true,rfl,fun h=>(by cases h),hHeld2.1,hHeld2.2⟩
                 · skip
                   refine tkS 42 (.bool true) ?_;simp only [Act.put,sxA,sxB,sxC,sxD,sxE,sxF]
                   refine tkS 43 (.bool true) ?_;simp only [Act.put,sxA,sxB,sxC,sxD,sxE,sxF]
                   refine tkU 44 ?_;simp only [Act.put,sxA,sxB,sxC,sxD,sxE,sxF]
                   refine tkU 45 ?_;simp only [Act.put,sxA,sxB,sxC,sxD,sxE,sxF]
                   refine tkU 46 ?_;simp only [Act.put,sxA,sxB,sxC,sxD,sxE,sxF]
                   refine tkS 47 (.bool true) ?_;simp only [Act.put,sxA,sxB,sxC,sxD,sxE,sxF]
                   refine tkS 48 (.bool true) ?_;simp only [Act.put,sxA,sxB,sxC,sxD,sxE,sxF]
                   refine tkU 49 ?_;simp only [Act.put,sxA,sxB,sxC,sxD,sxE,sxF]
                   refine tkU 50 ?_;simp only [Act.put,sxA,sxB,sxC,sxD,sxE,sxF]
                   refine tkU 51 ?_;simp only [Act.put,sxA,sxB,sxC,sxD,sxE,sxF]
                   refine tkS 52 (.bool true) ?_;simp only [Act.put,sxA,sxB,sxC,sxD,sxE,sxF]
                   refine wpAnyH_done (by kernel_rfl) ?_ _
                   go_wp2_with fail
                   go_meet
                   case rel=>exact ⟨true,rfl,fun h=>(by cases h),hHeld2.1,hHeld2.2⟩
               · as_aux_lemma =>
                 refine tkS 37 (.bool true) ?_;simp only [Act.put,sxA,sxB,sxC,sxD,sxE,sxF]
                 refine tkS 38 (.bool true) ?_;simp only [Act.put,sxA,sxB,sxC,sxD,sxE,sxF]
                 refine tkU 39 ?_;simp only [Act.put,sxA,sxB,sxC,sxD,sxE,sxF]
                 refine tkU 40 ?_;simp only [Act.put,sxA,sxB,sxC,sxD,sxE,sxF]
                 refine tkU 41 ?_;simp only [Act.put,sxA,sxB,sxC,sxD,sxE,sxF]
                 refine tkS 42 (.bool true) ?_;simp only [Act.put,sxA,sxB,sxC,sxD,sxE,sxF]
                 refine tkS 43 (.bool true) ?_;simp only [Act.put,sxA,sxB,sxC,sxD,sxE,sxF]
                 refine tkU 44 ?_;simp only [Act.put,sxA,sxB,sxC,sxD,sxE,sxF]
                 refine tkU 45 ?_;simp only [Act.put,sxA,sxB,sxC,sxD,sxE,sxF]
                 refine tkU 46 ?_;simp only [Act.put,sxA,sxB,sxC,sxD,sxE,sxF]
                 refine tkS 47 (.bool true) ?_;simp only [Act.put,sxA,sxB,sxC,sxD,sxE,sxF]
                 refine tkS 48 (.bool true) ?_;simp only [Act.put,sxA,sxB,sxC,sxD,sxE,sxF]
                 refine tkU 49 ?_;simp only [Act.put,sxA,sxB,sxC,sxD,sxE,sxF]
                 refine tkU 50 ?_;simp only [Act.put,sxA,sxB,sxC,sxD,sxE,sxF]
                 refine tkU 51 ?_;simp only [Act.put,sxA,sxB,sxC,sxD,sxE,sxF]
                 refine tkS 52 (.bool true) ?_;simp only [Act.put,sxA,sxB,sxC,sxD,sxE,sxF]
                 refine wpAnyH_done (by kernel_rfl) ?_ _
                 go_wp2_with fail
                 go_meet
                 case rel=>exact ⟨true,rfl,fun h=>(by cases h),hHeld2.1,hHeld2.2⟩
             · as_aux_lemma =>
               refine tkS 31 (.bool true) ?_;simp only [Act.put,sxA,sxB,sxC,sxD,sxE,sxF]
               refine tkS 32 (.bool true) ?_;simp only [Act.put,sxA,sxB,sxC,sxD,sxE,sxF]
               refine tkU 33 ?_;simp only [Act.put,sxA,sxB,sxC,sxD,sxE,sxF]
               refine tkU 34 ?_;simp only [Act.put,sxA,sxB,sxC,sxD,sxE,sxF]
               refine tkU 35 ?_;simp only [Act.put,sxA,sxB,sxC,sxD,sxE,sxF]
               refine tkU 36 ?_;simp only [Act.put,sxA,sxB,sxC,sxD,sxE,sxF]
               refine tkS 37 (.bool true) ?_;simp only [Act.put,sxA,sxB,sxC,sxD,sxE,sxF]
               refine tkS 38 (.bool true) ?_;simp only [Act.put,sxA,sxB,sxC,sxD,sxE,sxF]
               refine tkU 39 ?_;simp only [Act.put,sxA,sxB,sxC,sxD,sxE,sxF]
               refine tkU 40 ?_;simp only [Act.put,sxA,sxB,sxC,sxD,sxE,sxF]
               refine tkU 41 ?_;simp only [Act.put,sxA,sxB,sxC,sxD,sxE,sxF]
               refine tkS 42 (.bool true) ?_;simp only [Act.put,sxA,sxB,sxC,sxD,sxE,sxF]
               refine tkS 43 (.bool true) ?_;simp only [Act.put,sxA,sxB,sxC,sxD,sxE,sxF]
               refine tkU 44 ?_;simp only [Act.put,sxA,sxB,sxC,sxD,sxE,sxF]
               refine tkU 45 ?_;simp only [Act.put,sxA,sxB,sxC,sxD,sxE,sxF]
               refine tkU 46 ?_;simp only [Act.put,sxA,sxB,sxC,sxD,sxE,sxF]
               refine tkS 47 (.bool true) ?_;simp only [Act.put,sxA,sxB,sxC,sxD,sxE,sxF]
               refine tkS 48 (.bool true) ?_;simp only [Act.put,sxA,sxB,sxC,sxD,sxE,sxF]
               refine tkU 49 ?_;simp only [Act.put,sxA,sxB,sxC,sxD,sxE,sxF]
               refine tkU 50 ?_;simp only [Act.put,sxA,sxB,sxC,sxD,sxE,sxF]
               refine tkU 51 ?_;simp only [Act.put,sxA,sxB,sxC,sxD,sxE,sxF]
               refine tkS 52 (.bool true) ?_;simp only [Act.put,sxA,sxB,sxC,sxD,sxE,sxF]
               refine wpAnyH_done (by kernel_rfl) ?_ _
               go_wp2_with fail
               go_meet
               case rel=>exact ⟨true,rfl,fun h=>(by cases h),hHeld2.1,hHeld2.2⟩
         · as_aux_lemma =>
           refine tkS 21 (.bool true) ?_;simp only [Act.put,sxA,sxB,sxC,sxD,sxE,sxF]
           refine tkS 22 (.bool true) ?_;simp only [Act.put,sxA,sxB,sxC,sxD,sxE,sxF]
           refine tkU 23 ?_;simp only [Act.put,sxA,sxB,sxC,sxD,sxE,sxF]
           refine tkU 24 ?_;simp only [Act.put,sxA,sxB,sxC,sxD,sxE,sxF]
           refine tkU 25 ?_;simp only [Act.put,sxA,sxB,sxC,sxD,sxE,sxF]
           refine tkS 26 (.bool true) ?_;simp only [Act.put,sxA,sxB,sxC,sxD,sxE,sxF]
           refine tkS 27 (.bool true) ?_;simp only [Act.put,sxA,sxB,sxC,sxD,sxE,sxF]
           refine tkU 28 ?_;simp only [Act.put,sxA,sxB,sxC,sxD,sxE,sxF]
           refine tkU 29 ?_;simp only [Act.put,sxA,sxB,sxC,sxD,sxE,sxF]
           refine tkU 30 ?_;simp only [Act.put,sxA,sxB,sxC,sxD,sxE,sxF]
           refine tkS 31 (.bool true) ?_;simp only [Act.put,sxA,sxB,sxC,sxD,sxE,sxF]
           refine tkS 32 (.bool true) ?_;simp only [Act.put,sxA,sxB,sxC,sxD,sxE,sxF]
           refine tkU 33 ?_;simp only [Act.put,sxA,sxB,sxC,sxD,sxE,sxF]
           refine tkU 34 ?_;simp only [Act.put,sxA,sxB,sxC,sxD,sxE,sxF]
           refine tkU 35 ?_;simp only [Act.put,sxA,sxB,sxC,sxD,sxE,sxF]
           refine tkU 36 ?_;simp only [Act.put,sxA,sxB,sxC,sxD,sxE,sxF]
           refine tkS 37 (.bool true) ?_;simp only [Act.put,sxA,sxB,sxC,sxD,sxE,sxF]
           refine tkS 38 (.bool true) ?_;simp only [Act.put,sxA,sxB,sxC,sxD,sxE,sxF]
           refine tkU 39 ?_;simp only [Act.put,sxA,sxB,sxC,sxD,sxE,sxF]
           refine tkU 40 ?_;simp only [Act.put,sxA,sxB,sxC,sxD,sxE,sxF]
           refine tkU 41 ?_;simp only [Act.put,sxA,sxB,sxC,sxD,sxE,sxF]
           refine tkS 42 (.bool true) ?_;simp only [Act.put,sxA,sxB,sxC,sxD,sxE,sxF]
           refine tkS 43 (.bool true) ?_;simp only [Act.put,sxA,sxB,sxC,sxD,sxE,sxF]
           refine tkU 44 ?_;simp only [Act.put,sxA,sxB,sxC,sxD,sxE,sxF]
           refine tkU 45 ?_;simp only [Act.put,sxA,sxB,sxC,sxD,sxE,sxF]
           refine tkU 46 ?_;simp only [Act.put,sxA,sxB,sxC,sxD,sxE,sxF]
           refine tkS 47 (.bool true) ?_;simp only [Act.put,sxA,sxB,sxC,sxD,sxE,sxF]
           refine tkS 48 (.bool true) ?_;simp only [Act.put,sxA,sxB,sxC,sxD,sxE,sxF]
           refine tkU 49 ?_;simp only [Act.put,sxA,sxB,sxC,sxD,sxE,sxF]
           refine tkU 50 ?_;simp only [Act.put,sxA,sxB,sxC,sxD,sxE,sxF]
           refine tkU 51 ?_;simp only [Act.put,sxA,sxB,sxC,sxD,sxE,sxF]
           refine tkS 52 (.bool true) ?_;simp only [Act.put,sxA,sxB,sxC,sxD,sxE,sxF]
           refine wpAnyH_done (by kernel_rfl) ?_ _
           go_wp2_with fail
           go_meet
           case rel=>exact ⟨true,rfl,fun h=>(by cases h),hHeld1.1,hHeld1.2⟩
       · as_aux_lemma =>
         refine tkS 12 (.bool true) ?_;simp only [Act.put,sxA,sxB,sxC,sxD,sxE,sxF]
         refine tkS 13 (.bool true) ?_;simp only [Act.put,sxA,sxB,sxC,sxD,sxE,sxF]
         refine tkU 14 ?_;simp only [Act.put,sxA,sxB,sxC,sxD,sxE,sxF]
         refine tkU 15 ?_;simp only [Act.put,sxA,sxB,sxC,sxD,sxE,sxF]
         refine tkU 16 ?_;simp only [Act.put,sxA,sxB,sxC,sxD,sxE,sxF]
         refine tkU 17 ?_;simp only [Act.put,sxA,sxB,sxC,sxD,sxE,sxF]
         refine tkU 18 ?_;simp only [Act.put,sxA,sxB,sxC,sxD,sxE,sxF]
         refine tkU 19 ?_;simp only [Act.put,sxA,sxB,sxC,sxD,sxE,sxF]
         refine tkU 20 ?_;simp only [Act.put,sxA,sxB,sxC,sxD,sxE,sxF]
         refine tkS 21 (.bool true) ?_;simp only [Act.put,sxA,sxB,sxC,sxD,sxE,sxF]
         refine tkS 22 (.bool true) ?_;simp only [Act.put,sxA,sxB,sxC,sxD,sxE,sxF]
         refine tkU 23 ?_;simp only [Act.put,sxA,sxB,sxC,sxD,sxE,sxF]
         refine tkU 24 ?_;simp only [Act.put,sxA,sxB,sxC,sxD,sxE,sxF]
         refine tkU 25 ?_;simp only [Act.put,sxA,sxB,sxC,sxD,sxE,sxF]
         refine tkS 26 (.bool true) ?_;simp only [Act.put,sxA,sxB,sxC,sxD,sxE,sxF]
         refine tkS 27 (.bool true) ?_;simp only [Act.put,sxA,sxB,sxC,sxD,sxE,sxF]
         refine tkU 28 ?_;simp only [Act.put,sxA,sxB,sxC,sxD,sxE,sxF]
         refine tkU 29 ?_;simp only [Act.put,sxA,sxB,sxC,sxD,sxE,sxF]
         refine tkU 30 ?_;simp only [Act.put,sxA,sxB,sxC,sxD,sxE,sxF]
         refine tkS 31 (.bool true) ?_;simp only [Act.put,sxA,sxB,sxC,sxD,sxE,sxF]
         refine tkS 32 (.bool true) ?_;simp only [Act.put,sxA,sxB,sxC,sxD,sxE,sxF]
         refine tkU 33 ?_;simp only [Act.put,sxA,sxB,sxC,sxD,sxE,sxF]
         refine tkU 34 ?_;simp only [Act.put,sxA,sxB,sxC,sxD,sxE,sxF]
         refine tkU 35 ?_;simp only [Act.put,sxA,sxB,sxC,sxD,sxE,sxF]
         refine tkU 36 ?_;simp only [Act.put,sxA,sxB,sxC,sxD,sxE,sxF]
         refine tkS 37 (.bool true) ?_;simp only [Act.put,sxA,sxB,sxC,sxD,sxE,sxF]
         refine tkS 38 (.bool true) ?_;simp only [Act.put,sxA,sxB,sxC,sxD,sxE,sxF]
         refine tkU 39 ?_;simp only [Act.put,sxA,sxB,sxC,sxD,sxE,sxF]
         refine tkU 40 ?_;simp only [Act.put,sxA,sxB,sxC,sxD,sxE,sxF]
         refine tkU 41 ?_;simp only [Act.put,sxA,sxB,sxC,sxD,sxE,sxF]
         refine tkS 42 (.bool true) ?_;simp only [Act.put,sxA,sxB,sxC,sxD,sxE,sxF]
         refine tkS 43 (.bool true) ?_;simp only [Act.put,sxA,sxB,sxC,sxD,sxE,sxF]
         refine tkU 44 ?_;simp only [Act.put,sxA,sxB,sxC,sxD,sxE,sxF]
         refine tkU 45 ?_;simp only [Act.put,sxA,sxB,sxC,sxD,sxE,sxF]
         refine tkU 46 ?_;simp only [Act.put,sxA,sxB,sxC,sxD,sxE,sxF]
         refine tkS 47 (.bool true) ?_;simp only [Act.put,sxA,sxB,sxC,sxD,sxE,sxF]
         refine tkS 48 (.bool true) ?_;simp only [Act.put,sxA,sxB,sxC,sxD,sxE,sxF]
         refine tkU 49 ?_;simp only [Act.put,sxA,sxB,sxC,sxD,sxE,sxF]
         refine tkU 50 ?_;simp only [Act.put,sxA,sxB,sxC,sxD,sxE,sxF]
         refine tkU 51 ?_;simp only [Act.put,sxA,sxB,sxC,sxD,sxE,sxF]
         refine tkS 52 (.bool true) ?_;simp only [Act.put,sxA,sxB,sxC,sxD,sxE,sxF]
         refine wpAnyH_done (by kernel_rfl) ?_ _
         go_wp2_with fail
         go_meet
         case rel=>exact ⟨true,rfl,fun h=>(by cases h),hHeld.1,hHeld.2⟩
     · as_aux_lemma =>
       refine tkS 7 (.bool true) ?_;simp only [Act.put,sxA,sxB,sxC,sxD,sxE,sxF]
       refine tkS 8 (.bool true) ?_;simp only [Act.put,sxA,sxB,sxC,sxD,sxE,sxF]
       refine tkU 9 ?_;simp only [Act.put,sxA,sxB,sxC,sxD,sxE,sxF]
       refine tkU 10 ?_;simp only [Act.put,sxA,sxB,sxC,sxD,sxE,sxF]
       refine tkU 11 ?_;simp only [Act.put,sxA,sxB,sxC,sxD,sxE,sxF]
       refine tkS 12 (.bool true) ?_;simp only [Act.put,sxA,sxB,sxC,sxD,sxE,sxF]
       refine tkS 13 (.bool true) ?_;simp only [Act.put,sxA,sxB,sxC,sxD,sxE,sxF]
       refine tkU 14 ?_;simp only [Act.put,sxA,sxB,sxC,sxD,sxE,sxF]
       refine tkU 15 ?_;simp only [Act.put,sxA,sxB,sxC,sxD,sxE,sxF]
       refine tkU 16 ?_;simp only [Act.put,sxA,sxB,sxC,sxD,sxE,sxF]
       refine tkU 17 ?_;simp only [Act.put,sxA,sxB,sxC,sxD,sxE,sxF]
       refine tkU 18 ?_;simp only [Act.put,sxA,sxB,sxC,sxD,sxE,sxF]
       refine tkU 19 ?_;simp only [Act.put,sxA,sxB,sxC,sxD,sxE,sxF]
       refine tkU 20 ?_;simp only [Act.put,sxA,sxB,sxC,sxD,sxE,sxF]
       refine tkS 21 (.bool true) ?_;simp only [Act.put,sxA,sxB,sxC,sxD,sxE,sxF]
       refine tkS 22 (.bool true) ?_;simp only [Act.put,sxA,sxB,sxC,sxD,sxE,sxF]
       refine tkU 23 ?_;simp only [Act.put,sxA,sxB,sxC,sxD,sxE,sxF]
       refine tkU 24 ?_;simp only [Act.put,sxA,sxB,sxC,sxD,sxE,sxF]
       refine tkU 25 ?_;simp only [Act.put,sxA,sxB,sxC,sxD,sxE,sxF]
       refine tkS 26 (.bool true) ?_;simp only [Act.put,sxA,sxB,sxC,sxD,sxE,sxF]
       refine tkS 27 (.bool true) ?_;simp only [Act.put,sxA,sxB,sxC,sxD,sxE,sxF]
       refine tkU 28 ?_;simp only [Act.put,sxA,sxB,sxC,sxD,sxE,sxF]
       refine tkU 29 ?_;simp only [Act.put,sxA,sxB,sxC,sxD,sxE,sxF]
       refine tkU 30 ?_;simp only [Act.put,sxA,sxB,sxC,sxD,sxE,sxF]
       refine tkS 31 (.bool true) ?_;simp only [Act.put,sxA,sxB,sxC,sxD,sxE,sxF]
       refine tkS 32 (.bool true) ?_;simp only [Act.put,sxA,sxB,sxC,sxD,sxE,sxF]
       refine tkU 33 ?_;simp only [Act.put,sxA,sxB,sxC,sxD,sxE,sxF]
       refine tkU 34 ?_;simp only [Act.put,sxA,sxB,sxC,sxD,sxE,sxF]
       refine tkU 35 ?_;simp only [Act.put,sxA,sxB,sxC,sxD,sxE,sxF]
       refine tkU 36 ?_;simp only [Act.put,sxA,sxB,sxC,sxD,sxE,sxF]
       refine tkS 37 (.bool true) ?_;simp only [Act.put,sxA,sxB,sxC,sxD,sxE,sxF]
       refine tkS 38 (.bool true) ?_;simp only [Act.put,sxA,sxB,sxC,sxD,sxE,sxF]
       refine tkU 39 ?_;simp only [Act.put,sxA,sxB,sxC,sxD,sxE,sxF]
       refine tkU 40 ?_;simp only [Act.put,sxA,sxB,sxC,sxD,sxE,sxF]
       refine tkU 41 ?_;simp only [Act.put,sxA,sxB,sxC,sxD,sxE,sxF]
       refine tkS 42 (.bool true) ?_;simp only [Act.put,sxA,sxB,sxC,sxD,sxE,sxF]
       refine tkS 43 (.bool true) ?_;simp only [Act.put,sxA,sxB,sxC,sxD,sxE,sxF]
       refine tkU 44 ?_;simp only [Act.put,sxA,sxB,sxC,sxD,sxE,sxF]
       refine tkU 45 ?_;simp only [Act.put,sxA,sxB,sxC,sxD,sxE,sxF]
       refine tkU 46 ?_;simp only [Act.put,sxA,sxB,sxC,sxD,sxE,sxF]
       refine tkS 47 (.bool true) ?_;simp only [Act.put,sxA,sxB,sxC,sxD,sxE,sxF]
       refine tkS 48 (.bool true) ?_;simp only [Act.put,sxA,sxB,sxC,sxD,sxE,sxF]
       refine tkU 49 ?_;simp only [Act.put,sxA,sxB,sxC,sxD,sxE,sxF]
       refine tkU 50 ?_;simp only [Act.put,sxA,sxB,sxC,sxD,sxE,sxF]
       refine tkU 51 ?_;simp only [Act.put,sxA,sxB,sxC,sxD,sxE,sxF]
       refine tkS 52 (.bool true) ?_;simp only [Act.put,sxA,sxB,sxC,sxD,sxE,sxF]
       refine wpAnyH_done (by kernel_rfl) ?_ _
       go_wp2_with fail
       go_meet
       case rel=>exact ⟨true,rfl,fun h=>(by cases h),hHeld.1,hHeld.2⟩
   · as_aux_lemma =>
     refine tkS 3 (.bool true) ?_;simp only [Act.put,sxA,sxB,sxC,sxD,sxE,sxF]
     refine tkU 4 ?_;simp only [Act.put,sxA,sxB,sxC,sxD,sxE,sxF]
     refine tkU 5 ?_;simp only [Act.put,sxA,sxB,sxC,sxD,sxE,sxF]
     refine tkU 6 ?_;simp only [Act.put,sxA,sxB,sxC,sxD,sxE,sxF]
     refine tkS 7 (.bool true) ?_;simp only [Act.put,sxA,sxB,sxC,sxD,sxE,sxF]
     refine tkS 8 (.bool true) ?_;simp only [Act.put,sxA,sxB,sxC,sxD,sxE,sxF]
     refine tkU 9 ?_;simp only [Act.put,sxA,sxB,sxC,sxD,sxE,sxF]
     refine tkU 10 ?_;simp only [Act.put,sxA,sxB,sxC,sxD,sxE,sxF]
     refine tkU 11 ?_;simp only [Act.put,sxA,sxB,sxC,sxD,sxE,sxF]
     refine tkS 12 (.bool true) ?_;simp only [Act.put,sxA,sxB,sxC,sxD,sxE,sxF]
     refine tkS 13 (.bool true) ?_;simp only [Act.put,sxA,sxB,sxC,sxD,sxE,sxF]
     refine tkU 14 ?_;simp only [Act.put,sxA,sxB,sxC,sxD,sxE,sxF]
     refine tkU 15 ?_;simp only [Act.put,sxA,sxB,sxC,sxD,sxE,sxF]
     refine tkU 16 ?_;simp only [Act.put,sxA,sxB,sxC,sxD,sxE,sxF]
     refine tkU 17 ?_;simp only [Act.put,sxA,sxB,sxC,sxD,sxE,sxF]
     refine tkU 18 ?_;simp only [Act.put,sxA,sxB,sxC,sxD,sxE,sxF]
     refine tkU 19 ?_;simp only [Act.put,sxA,sxB,sxC,sxD,sxE,sxF]
     refine tkU 20 ?_;simp only [Act.put,sxA,sxB,sxC,sxD,sxE,sxF]
     refine tkS 21 (.bool true) ?_;simp only [Act.put,sxA,sxB,sxC,sxD,sxE,sxF]
     refine tkS 22 (.bool true) ?_;simp only [Act.put,sxA,sxB,sxC,sxD,sxE,sxF]
     refine tkU 23 ?_;simp only [Act.put,sxA,sxB,sxC,sxD,sxE,sxF]
     refine tkU 24 ?_;simp only [Act.put,sxA,sxB,sxC,sxD,sxE,sxF]
     refine tkU 25 ?_;simp only [Act.put,sxA,sxB,sxC,sxD,sxE,sxF]
     refine tkS 26 (.bool true) ?_;simp only [Act.put,sxA,sxB,sxC,sxD,sxE,sxF]
     refine tkS 27 (.bool true) ?_;simp only [Act.put,sxA,sxB,sxC,sxD,sxE,sxF]
     refine tkU 28 ?_;simp only [Act.put,sxA,sxB,sxC,sxD,sxE,sxF]
     refine tkU 29 ?_;simp only [Act.put,sxA,sxB,sxC,sxD,sxE,sxF]
     refine tkU 30 ?_;simp only [Act.put,sxA,sxB,sxC,sxD,sxE,sxF]
     refine tkS 31 (.bool true) ?_;simp only [Act.put,sxA,sxB,sxC,sxD,sxE,sxF]
     refine tkS 32 (.bool true) ?_;simp only [Act.put,sxA,sxB,sxC,sxD,sxE,sxF]
     refine tkU 33 ?_;simp only [Act.put,sxA,sxB,sxC,sxD,sxE,sxF]
     refine tkU 34 ?_;simp only [Act.put,sxA,sxB,sxC,sxD,sxE,sxF]
     refine tkU 35 ?_;simp only [Act.put,sxA,sxB,sxC,sxD,sxE,sxF]
     refine tkU 36 ?_;simp only [Act.put,sxA,sxB,sxC,sxD,sxE,sxF]
     refine tkS 37 (.bool true) ?_;simp only [Act.put,sxA,sxB,sxC,sxD,sxE,sxF]
     refine tkS 38 (.bool true) ?_;simp only [Act.put,sxA,sxB,sxC,sxD,sxE,sxF]
     refine tkU 39 ?_;simp only [Act.put,sxA,sxB,sxC,sxD,sxE,sxF]
     refine tkU 40 ?_;simp only [Act.put,sxA,sxB,sxC,sxD,sxE,sxF]
     refine tkU 41 ?_;simp only [Act.put,sxA,sxB,sxC,sxD,sxE,sxF]
     refine tkS 42 (.bool true) ?_;simp only [Act.put,sxA,sxB,sxC,sxD,sxE,sxF]
     refine tkS 43 (.bool true) ?_;simp only [Act.put,sxA,sxB,sxC,sxD,sxE,sxF]
     refine tkU 44 ?_;simp only [Act.put,sxA,sxB,sxC,sxD,sxE,sxF]
     refine tkU 45 ?_;simp only [Act.put,sxA,sxB,sxC,sxD,sxE,sxF]
     refine tkU 46 ?_;simp only [Act.put,sxA,sxB,sxC,sxD,sxE,sxF]
     refine tkS 47 (.bool true) ?_;simp only [Act.put,sxA,sxB,sxC,sxD,sxE,sxF]
     refine tkS 48 (.bool true) ?_;simp only [Act.put,sxA,sxB,sxC,sxD,sxE,sxF]
     refine tkU 49 ?_;simp only [Act.put,sxA,sxB,sxC,sxD,sxE,sxF]
     refine tkU 50 ?_;simp only [Act.put,sxA,sxB,sxC,sxD,sxE,sxF]
     refine tkU 51 ?_;simp only [Act.put,sxA,sxB,sxC,sxD,sxE,sxF]
     refine tkS 52 (.bool true) ?_;simp only [Act.put,sxA,sxB,sxC,sxD,sxE,sxF]
     refine wpAnyH_done (by kernel_rfl) ?_ _
     go_wp2_with fail
     go_meet
     case rel=>exact ⟨true,rfl,fun h=>(by cases h),hHeld.1,hHeld.2⟩
 case rest =>
   obtain ⟨q,rfl,hG1,hF,hB⟩:=hcut
   clear hA hq0 hq1 hq2 hq3 hq5 hq6 hq7 hq8 hq9 GOOD CLN FLG HH0
   go_upto_if 61 with fail
   go_cut [] from 9 (fun wx=>Ask1 x∧wx.heap[w.heap.size]? = some (.cells #[.int .i64 x.ty,.int .i64 x.fl,.int .u32 x.st,.int .i64 x.ln,.slice da x.data.length dc,.int .u32 x.pr,.int .u32 x.la,.int .u32 x.co,.int .u32 x.inc,.bool x.hp,.bool x.ex,.int .u32 x.dep,.int .i64 x.wt,.slice sa x.set.length sc] 29 (0,0))∧Below w.heap.size w wx)
   case first =>
     have HG1:=Lib.hid hG1
     have HFB:=Lib.hid (⟨hF,hB⟩:_∧_)
     clear hG1 hF hB
     cases q
     · go_wp2
       go_meet
       case rel=>exact ⟨HG1.out (by trivial),HFB.out.1,HFB.out.2⟩
     · go_wp2
       go_ret
       exact .no HFB.out.2
   case rest =>
     obtain ⟨g1,hF',hB'⟩:=hcut
     have G1:=Lib.hid g1
     apply h2
     exact legal_rest HT HS HP hsm hsc hdc hdm hpc hpm hF' hB' G1
end Go.Proofs.YtfdlbjibninakaaGreatDoor
