/- FnRefused, the law's own walk. -/
import Derived.Test.YtfdlbjibninakaaDoorWone
import Derived.Deep.Cut
namespace Go.Proofs.YtfdlbjibninakaaDoor
open Go.RowKit
variable {w : World} {vS vP vB : Value}
/-- What is answered: true, and nothing changed. -/
def TrueKept (w : World) (e : Ending) (w' : World) : Prop := e = .returned (.bool true) ∧ Below w.heap.size w w'
theorem given_tried (k s i : Int) (d : Nat) (w : World) : Calls Tryd.prog 18 #[.agg (triedC k s i d)] w fun e w' => e = .returned (.agg (triedC k s i d)) ∧ Below w.heap.size w w' :=
  given_nil k 0 s 0 1 0 0 i 0 0 false false (some ⟨d, 0, none⟩) 1 1 w
theorem fold14 {fr : Array Value} (hsz : fr.size = 14) (z : Array Value) (hz : z.size = 14) : Array.foldl (fun (cs : Array Value) (x : Value × Nat) => cs.setIfInBounds x.snd x.fst) z (fr.zipIdx 0) 0 14 = fr := by
  apply Array.toList_inj.1
  obtain ⟨l⟩ := fr
  obtain ⟨k⟩ := z
  match l, k, hsz, hz with
  | [c0, c1, c2, c3, c4, c5, c6, c7, c8, c9, c10, c11, c12, c13], [d0, d1, d2, d3, d4, d5, d6, d7, d8, d9, d10, d11, d12, d13], _, _ => simp
theorem tried_one (k s i : Int) (d : Nat) : ∀ u ∈ (triedC k s i d).toList, u.oneCell' = true := by simp [triedC, frameC, Value.oneCell']
set_option maxRecDepth 10000 in
set_option maxHeartbeats 8000000 in
theorem refused1_zero (hE : EG w vS vP vB) (s i : Int) (a : Option Addr) (n c : Nat) (hn : n ≤ 2147483647) (hs0 : s = 0) :
    Calls Tryd.prog 5 #[.int .i64 1, .int .u32 s, .slice a n c, .int .u32 i] w (TrueKept w) := by
  obtain ⟨fr, hfr⟩ : ∃ fr, triedC 1 s i w.heap.size = fr := ⟨_, rfl⟩
  have hsz : fr.size = 14 := by rw [← hfr]; rfl
  have h1f : ∀ u ∈ fr.toList, u.oneCell' = true := by rw [← hfr]; exact tried_one _ _ _ _
  have hif : (Tryd.prog.info? 35).map (·.size) = some fr.size := by rw [hsz]; exact infoFs
  have hg : ∀ w, Calls Tryd.prog 18 #[.agg fr] w fun e w' => e = .returned (.agg fr) ∧ Below w.heap.size w w' := fun w => by rw [← hfr]; exact given_tried _ _ _ _ w
  have hn' : ¬ (2147483647 : Int) < n := by omega
  have h0 : 0 ≤ s := by omega
  have h1 : s < 4294967296 := by omega
  have hs : vs s = false := by subst hs0; rfl
  have e0 : (s == 0) = true := by simp [hs0]
  clear hs0
  have hw : ∀ (w1 : World) (bF : Nat), RS w1 bF vS vP vB → Calls Tryd.prog 36 #[.pointer (some ⟨bF, 0, none⟩), .agg fr, .slice none 0 0] w1 (Refuses w1) := fun w1 bF hr => by rw [← hfr]; exact write_headers_ref hr s i _ h0 h1 hs none 0 0
  go_enter Tryd.func5, Tryd.ntmps5
  go_wp2_with (first
    | (refine wpList_store_blk rfl _ _ _ rfl (w.heap.size + 1) rfl fr _ (by rw [← hfr]; rfl) 35 (blk_at _ _ (by simp)) hsz hif h1f ?_; intro w1 hb1 hk1; have l1 : Below w.heap.size w w1 := (((Kept.refl (· < w.heap.size) w).alloc _).alloc _).trans (hk1.mono (fun k h _ => by omega)) |>.below (Nat.le_refl _))
    | (refine wpList_load_blk rfl _ _ rfl (w.heap.size + 1) rfl _ 35 hb1 Tryd.underlying35 hif ?_)
    | (go_at_call 18; refine (hg _).mono ?_; rintro e w2 ⟨rfl, l2⟩)
    | (go_at_call 17; rw [fold14 hsz _ rfl]; (refine (implWrite_nopad (((hE.below l1).below l2).below (below_one _ _)) w2.heap.size fr (blk_at _ _ rfl) hsz h1f (fun w1 hr _ => hw w1 _ hr)).mono ?_; rintro e w3 ⟨fv, rfl, l3, hrow⟩; obtain ⟨g, cap, rfl, hc⟩ := own_cell hrow 0 (.bool true) rfl)))
  go_ret
  exact ⟨rfl, Below.then (Below.then l1 (Nat.le_refl _) (l2.alloc l2.size _)) (Nat.le_refl _) l3⟩
set_option maxRecDepth 10000 in
set_option maxHeartbeats 8000000 in
theorem refused1_big (hE : EG w vS vP vB) (s i : Int) (a : Option Addr) (n c : Nat) (hn : n ≤ 2147483647) (h0 : 0 ≤ s) (h1 : s < 4294967296) (hs0 : 2147483647 < s) :
    Calls Tryd.prog 5 #[.int .i64 1, .int .u32 s, .slice a n c, .int .u32 i] w (TrueKept w) := by
  obtain ⟨fr, hfr⟩ : ∃ fr, triedC 1 s i w.heap.size = fr := ⟨_, rfl⟩
  have hsz : fr.size = 14 := by rw [← hfr]; rfl
  have h1f : ∀ u ∈ fr.toList, u.oneCell' = true := by rw [← hfr]; exact tried_one _ _ _ _
  have hif : (Tryd.prog.info? 35).map (·.size) = some fr.size := by rw [hsz]; exact infoFs
  have hg : ∀ w, Calls Tryd.prog 18 #[.agg fr] w fun e w' => e = .returned (.agg fr) ∧ Below w.heap.size w w' := fun w => by rw [← hfr]; exact given_tried _ _ _ _ w
  have hn' : ¬ (2147483647 : Int) < n := by omega
  have hs : vs s = false := by unfold vs; simp; omega
  have e0 : (s == 0) = false := by simp; omega
  have hw : ∀ (w1 : World) (bF : Nat), RS w1 bF vS vP vB → Calls Tryd.prog 36 #[.pointer (some ⟨bF, 0, none⟩), .agg fr, .slice none 0 0] w1 (Refuses w1) := fun w1 bF hr => by rw [← hfr]; exact write_headers_ref hr s i _ h0 h1 hs none 0 0
  go_enter Tryd.func5, Tryd.ntmps5
  go_wp2_with (first
    | (refine wpList_store_blk rfl _ _ _ rfl (w.heap.size + 1) rfl fr _ (by rw [← hfr]; rfl) 35 (blk_at _ _ (by simp)) hsz hif h1f ?_; intro w1 hb1 hk1; have l1 : Below w.heap.size w w1 := (((Kept.refl (· < w.heap.size) w).alloc _).alloc _).trans (hk1.mono (fun k h _ => by omega)) |>.below (Nat.le_refl _))
    | (refine wpList_load_blk rfl _ _ rfl (w.heap.size + 1) rfl _ 35 hb1 Tryd.underlying35 hif ?_)
    | (go_at_call 18; refine (hg _).mono ?_; rintro e w2 ⟨rfl, l2⟩)
    | (go_at_call 17; rw [fold14 hsz _ rfl]; (refine (implWrite_nopad (((hE.below l1).below l2).below (below_one _ _)) w2.heap.size fr (blk_at _ _ rfl) hsz h1f (fun w1 hr _ => hw w1 _ hr)).mono ?_; rintro e w3 ⟨fv, rfl, l3, hrow⟩; obtain ⟨g, cap, rfl, hc⟩ := own_cell hrow 0 (.bool true) rfl)))
  go_ret
  exact ⟨rfl, Below.then (Below.then l1 (Nat.le_refl _) (l2.alloc l2.size _)) (Nat.le_refl _) l3⟩
set_option maxRecDepth 10000 in
set_option maxHeartbeats 8000000 in
theorem refused1_good  (s i : Int) (a : Option Addr) (n c : Nat) (hn : n ≤ 2147483647) (hs0 : s ≠ 0) (hs1 : ¬ 2147483647 < s) :
    Calls Tryd.prog 5 #[.int .i64 1, .int .u32 s, .slice a n c, .int .u32 i] w (TrueKept w) := by
  obtain ⟨fr, hfr⟩ : ∃ fr, triedC 1 s i w.heap.size = fr := ⟨_, rfl⟩
  have hsz : fr.size = 14 := by rw [← hfr]; rfl
  have h1f : ∀ u ∈ fr.toList, u.oneCell' = true := by rw [← hfr]; exact tried_one _ _ _ _
  have hif : (Tryd.prog.info? 35).map (·.size) = some fr.size := by rw [hsz]; exact infoFs
  have hg : ∀ w, Calls Tryd.prog 18 #[.agg fr] w fun e w' => e = .returned (.agg fr) ∧ Below w.heap.size w w' := fun w => by rw [← hfr]; exact given_tried _ _ _ _ w
  have hn' : ¬ (2147483647 : Int) < n := by omega
  have e0 : (s == 0) = false := by simp [hs0]
  go_enter Tryd.func5, Tryd.ntmps5
  go_wp2_with (first
    | (refine wpList_store_blk rfl _ _ _ rfl (w.heap.size + 1) rfl fr _ (by rw [← hfr]; rfl) 35 (blk_at _ _ (by simp)) hsz hif h1f ?_; intro w1 hb1 hk1; have l1 : Below w.heap.size w w1 := (((Kept.refl (· < w.heap.size) w).alloc _).alloc _).trans (hk1.mono (fun k h _ => by omega)) |>.below (Nat.le_refl _))
    | (refine wpList_load_blk rfl _ _ rfl (w.heap.size + 1) rfl _ 35 hb1 Tryd.underlying35 hif ?_)
    | (go_at_call 18; refine (hg _).mono ?_; rintro e w2 ⟨rfl, l2⟩)
    | (fail))
  go_ret
  exact ⟨rfl, l1⟩
set_option maxRecDepth 10000 in
set_option maxHeartbeats 8000000 in
theorem refused3_zero (hE : EG w vS vP vB) (s i : Int) (a : Option Addr) (n c : Nat) (hn : n ≤ 2147483647) (hs0 : s = 0) :
    Calls Tryd.prog 5 #[.int .i64 3, .int .u32 s, .slice a n c, .int .u32 i] w (TrueKept w) := by
  obtain ⟨fr, hfr⟩ : ∃ fr, triedC 3 s i w.heap.size = fr := ⟨_, rfl⟩
  have hsz : fr.size = 14 := by rw [← hfr]; rfl
  have h1f : ∀ u ∈ fr.toList, u.oneCell' = true := by rw [← hfr]; exact tried_one _ _ _ _
  have hif : (Tryd.prog.info? 35).map (·.size) = some fr.size := by rw [hsz]; exact infoFs
  have hg : ∀ w, Calls Tryd.prog 18 #[.agg fr] w fun e w' => e = .returned (.agg fr) ∧ Below w.heap.size w w' := fun w => by rw [← hfr]; exact given_tried _ _ _ _ w
  have hn' : ¬ (2147483647 : Int) < n := by omega
  have h0 : 0 ≤ s := by omega
  have h1 : s < 4294967296 := by omega
  have hs : vs s = false := by subst hs0; rfl
  have e0 : (s == 0) = true := by simp [hs0]
  clear hs0
  have hw : ∀ (w1 : World) (bF : Nat), RS w1 bF vS vP vB → Calls Tryd.prog 36 #[.pointer (some ⟨bF, 0, none⟩), .agg fr, .slice none 0 0] w1 (Refuses w1) := fun w1 bF hr => by rw [← hfr]; exact write_rst_ref hr s i _ h0 h1 hs _
  go_enter Tryd.func5, Tryd.ntmps5
  go_wp2_with (first
    | (refine wpList_store_blk rfl _ _ _ rfl (w.heap.size + 1) rfl fr _ (by rw [← hfr]; rfl) 35 (blk_at _ _ (by simp)) hsz hif h1f ?_; intro w1 hb1 hk1; have l1 : Below w.heap.size w w1 := (((Kept.refl (· < w.heap.size) w).alloc _).alloc _).trans (hk1.mono (fun k h _ => by omega)) |>.below (Nat.le_refl _))
    | (refine wpList_load_blk rfl _ _ rfl (w.heap.size + 1) rfl _ 35 hb1 Tryd.underlying35 hif ?_)
    | (go_at_call 18; refine (hg _).mono ?_; rintro e w2 ⟨rfl, l2⟩)
    | (go_at_call 17; rw [fold14 hsz _ rfl]; (refine (implWrite_nopad (((hE.below l1).below l2).below (below_one _ _)) w2.heap.size fr (blk_at _ _ rfl) hsz h1f (fun w1 hr _ => hw w1 _ hr)).mono ?_; rintro e w3 ⟨fv, rfl, l3, hrow⟩; obtain ⟨g, cap, rfl, hc⟩ := own_cell hrow 0 (.bool true) rfl)))
  go_ret
  exact ⟨rfl, Below.then (Below.then l1 (Nat.le_refl _) (l2.alloc l2.size _)) (Nat.le_refl _) l3⟩
set_option maxRecDepth 10000 in
set_option maxHeartbeats 8000000 in
theorem refused3_big (hE : EG w vS vP vB) (s i : Int) (a : Option Addr) (n c : Nat) (hn : n ≤ 2147483647) (h0 : 0 ≤ s) (h1 : s < 4294967296) (hs0 : 2147483647 < s) :
    Calls Tryd.prog 5 #[.int .i64 3, .int .u32 s, .slice a n c, .int .u32 i] w (TrueKept w) := by
  obtain ⟨fr, hfr⟩ : ∃ fr, triedC 3 s i w.heap.size = fr := ⟨_, rfl⟩
  have hsz : fr.size = 14 := by rw [← hfr]; rfl
  have h1f : ∀ u ∈ fr.toList, u.oneCell' = true := by rw [← hfr]; exact tried_one _ _ _ _
  have hif : (Tryd.prog.info? 35).map (·.size) = some fr.size := by rw [hsz]; exact infoFs
  have hg : ∀ w, Calls Tryd.prog 18 #[.agg fr] w fun e w' => e = .returned (.agg fr) ∧ Below w.heap.size w w' := fun w => by rw [← hfr]; exact given_tried _ _ _ _ w
  have hn' : ¬ (2147483647 : Int) < n := by omega
  have hs : vs s = false := by unfold vs; simp; omega
  have e0 : (s == 0) = false := by simp; omega
  have hw : ∀ (w1 : World) (bF : Nat), RS w1 bF vS vP vB → Calls Tryd.prog 36 #[.pointer (some ⟨bF, 0, none⟩), .agg fr, .slice none 0 0] w1 (Refuses w1) := fun w1 bF hr => by rw [← hfr]; exact write_rst_ref hr s i _ h0 h1 hs _
  go_enter Tryd.func5, Tryd.ntmps5
  go_wp2_with (first
    | (refine wpList_store_blk rfl _ _ _ rfl (w.heap.size + 1) rfl fr _ (by rw [← hfr]; rfl) 35 (blk_at _ _ (by simp)) hsz hif h1f ?_; intro w1 hb1 hk1; have l1 : Below w.heap.size w w1 := (((Kept.refl (· < w.heap.size) w).alloc _).alloc _).trans (hk1.mono (fun k h _ => by omega)) |>.below (Nat.le_refl _))
    | (refine wpList_load_blk rfl _ _ rfl (w.heap.size + 1) rfl _ 35 hb1 Tryd.underlying35 hif ?_)
    | (go_at_call 18; refine (hg _).mono ?_; rintro e w2 ⟨rfl, l2⟩)
    | (go_at_call 17; rw [fold14 hsz _ rfl]; (refine (implWrite_nopad (((hE.below l1).below l2).below (below_one _ _)) w2.heap.size fr (blk_at _ _ rfl) hsz h1f (fun w1 hr _ => hw w1 _ hr)).mono ?_; rintro e w3 ⟨fv, rfl, l3, hrow⟩; obtain ⟨g, cap, rfl, hc⟩ := own_cell hrow 0 (.bool true) rfl)))
  go_ret
  exact ⟨rfl, Below.then (Below.then l1 (Nat.le_refl _) (l2.alloc l2.size _)) (Nat.le_refl _) l3⟩
set_option maxRecDepth 10000 in
set_option maxHeartbeats 8000000 in
theorem refused3_good  (s i : Int) (a : Option Addr) (n c : Nat) (hn : n ≤ 2147483647) (hs0 : s ≠ 0) (hs1 : ¬ 2147483647 < s) :
    Calls Tryd.prog 5 #[.int .i64 3, .int .u32 s, .slice a n c, .int .u32 i] w (TrueKept w) := by
  obtain ⟨fr, hfr⟩ : ∃ fr, triedC 3 s i w.heap.size = fr := ⟨_, rfl⟩
  have hsz : fr.size = 14 := by rw [← hfr]; rfl
  have h1f : ∀ u ∈ fr.toList, u.oneCell' = true := by rw [← hfr]; exact tried_one _ _ _ _
  have hif : (Tryd.prog.info? 35).map (·.size) = some fr.size := by rw [hsz]; exact infoFs
  have hg : ∀ w, Calls Tryd.prog 18 #[.agg fr] w fun e w' => e = .returned (.agg fr) ∧ Below w.heap.size w w' := fun w => by rw [← hfr]; exact given_tried _ _ _ _ w
  have hn' : ¬ (2147483647 : Int) < n := by omega
  have e0 : (s == 0) = false := by simp [hs0]
  go_enter Tryd.func5, Tryd.ntmps5
  go_wp2_with (first
    | (refine wpList_store_blk rfl _ _ _ rfl (w.heap.size + 1) rfl fr _ (by rw [← hfr]; rfl) 35 (blk_at _ _ (by simp)) hsz hif h1f ?_; intro w1 hb1 hk1; have l1 : Below w.heap.size w w1 := (((Kept.refl (· < w.heap.size) w).alloc _).alloc _).trans (hk1.mono (fun k h _ => by omega)) |>.below (Nat.le_refl _))
    | (refine wpList_load_blk rfl _ _ rfl (w.heap.size + 1) rfl _ 35 hb1 Tryd.underlying35 hif ?_)
    | (go_at_call 18; refine (hg _).mono ?_; rintro e w2 ⟨rfl, l2⟩)
    | (fail))
  go_ret
  exact ⟨rfl, l1⟩
set_option maxRecDepth 10000 in
set_option maxHeartbeats 8000000 in
theorem refused5_zero (hE : EG w vS vP vB) (s i : Int) (a : Option Addr) (n c : Nat) (hn : n ≤ 2147483647) (hs0 : s = 0) :
    Calls Tryd.prog 5 #[.int .i64 5, .int .u32 s, .slice a n c, .int .u32 i] w (TrueKept w) := by
  obtain ⟨fr, hfr⟩ : ∃ fr, triedC 5 s i w.heap.size = fr := ⟨_, rfl⟩
  have hsz : fr.size = 14 := by rw [← hfr]; rfl
  have h1f : ∀ u ∈ fr.toList, u.oneCell' = true := by rw [← hfr]; exact tried_one _ _ _ _
  have hif : (Tryd.prog.info? 35).map (·.size) = some fr.size := by rw [hsz]; exact infoFs
  have hg : ∀ w, Calls Tryd.prog 18 #[.agg fr] w fun e w' => e = .returned (.agg fr) ∧ Below w.heap.size w w' := fun w => by rw [← hfr]; exact given_tried _ _ _ _ w
  have hn' : ¬ (2147483647 : Int) < n := by omega
  have h0 : 0 ≤ s := by omega
  have h1 : s < 4294967296 := by omega
  have hs : vs s = false := by subst hs0; rfl
  have e0 : (s == 0) = true := by simp [hs0]
  clear hs0
  have hw : ∀ (w1 : World) (bF : Nat), RS w1 bF vS vP vB → Calls Tryd.prog 36 #[.pointer (some ⟨bF, 0, none⟩), .agg fr, .slice none 0 0] w1 (Refuses w1) := fun w1 bF hr => by rw [← hfr]; exact write_promise_ref hr s i _ h0 h1 hs none 0 0
  go_enter Tryd.func5, Tryd.ntmps5
  go_wp2_with (first
    | (refine wpList_store_blk rfl _ _ _ rfl (w.heap.size + 1) rfl fr _ (by rw [← hfr]; rfl) 35 (blk_at _ _ (by simp)) hsz hif h1f ?_; intro w1 hb1 hk1; have l1 : Below w.heap.size w w1 := (((Kept.refl (· < w.heap.size) w).alloc _).alloc _).trans (hk1.mono (fun k h _ => by omega)) |>.below (Nat.le_refl _))
    | (refine wpList_load_blk rfl _ _ rfl (w.heap.size + 1) rfl _ 35 hb1 Tryd.underlying35 hif ?_)
    | (go_at_call 18; refine (hg _).mono ?_; rintro e w2 ⟨rfl, l2⟩)
    | (go_at_call 17; rw [fold14 hsz _ rfl]; (refine (implWrite_nopad (((hE.below l1).below l2).below (below_one _ _)) w2.heap.size fr (blk_at _ _ rfl) hsz h1f (fun w1 hr _ => hw w1 _ hr)).mono ?_; rintro e w3 ⟨fv, rfl, l3, hrow⟩; obtain ⟨g, cap, rfl, hc⟩ := own_cell hrow 0 (.bool true) rfl)))
  go_ret
  exact ⟨rfl, Below.then (Below.then l1 (Nat.le_refl _) (l2.alloc l2.size _)) (Nat.le_refl _) l3⟩
set_option maxRecDepth 10000 in
set_option maxHeartbeats 8000000 in
theorem refused5_big (hE : EG w vS vP vB) (s i : Int) (a : Option Addr) (n c : Nat) (hn : n ≤ 2147483647) (h0 : 0 ≤ s) (h1 : s < 4294967296) (hs0 : 2147483647 < s) :
    Calls Tryd.prog 5 #[.int .i64 5, .int .u32 s, .slice a n c, .int .u32 i] w (TrueKept w) := by
  obtain ⟨fr, hfr⟩ : ∃ fr, triedC 5 s i w.heap.size = fr := ⟨_, rfl⟩
  have hsz : fr.size = 14 := by rw [← hfr]; rfl
  have h1f : ∀ u ∈ fr.toList, u.oneCell' = true := by rw [← hfr]; exact tried_one _ _ _ _
  have hif : (Tryd.prog.info? 35).map (·.size) = some fr.size := by rw [hsz]; exact infoFs
  have hg : ∀ w, Calls Tryd.prog 18 #[.agg fr] w fun e w' => e = .returned (.agg fr) ∧ Below w.heap.size w w' := fun w => by rw [← hfr]; exact given_tried _ _ _ _ w
  have hn' : ¬ (2147483647 : Int) < n := by omega
  have hs : vs s = false := by unfold vs; simp; omega
  have e0 : (s == 0) = false := by simp; omega
  have hw : ∀ (w1 : World) (bF : Nat), RS w1 bF vS vP vB → Calls Tryd.prog 36 #[.pointer (some ⟨bF, 0, none⟩), .agg fr, .slice none 0 0] w1 (Refuses w1) := fun w1 bF hr => by rw [← hfr]; exact write_promise_ref hr s i _ h0 h1 hs none 0 0
  go_enter Tryd.func5, Tryd.ntmps5
  go_wp2_with (first
    | (refine wpList_store_blk rfl _ _ _ rfl (w.heap.size + 1) rfl fr _ (by rw [← hfr]; rfl) 35 (blk_at _ _ (by simp)) hsz hif h1f ?_; intro w1 hb1 hk1; have l1 : Below w.heap.size w w1 := (((Kept.refl (· < w.heap.size) w).alloc _).alloc _).trans (hk1.mono (fun k h _ => by omega)) |>.below (Nat.le_refl _))
    | (refine wpList_load_blk rfl _ _ rfl (w.heap.size + 1) rfl _ 35 hb1 Tryd.underlying35 hif ?_)
    | (go_at_call 18; refine (hg _).mono ?_; rintro e w2 ⟨rfl, l2⟩)
    | (go_at_call 17; rw [fold14 hsz _ rfl]; (refine (implWrite_nopad (((hE.below l1).below l2).below (below_one _ _)) w2.heap.size fr (blk_at _ _ rfl) hsz h1f (fun w1 hr _ => hw w1 _ hr)).mono ?_; rintro e w3 ⟨fv, rfl, l3, hrow⟩; obtain ⟨g, cap, rfl, hc⟩ := own_cell hrow 0 (.bool true) rfl)))
  go_ret
  exact ⟨rfl, Below.then (Below.then l1 (Nat.le_refl _) (l2.alloc l2.size _)) (Nat.le_refl _) l3⟩
set_option maxRecDepth 10000 in
set_option maxHeartbeats 8000000 in
theorem refused5_good  (s i : Int) (a : Option Addr) (n c : Nat) (hn : n ≤ 2147483647) (hs0 : s ≠ 0) (hs1 : ¬ 2147483647 < s) :
    Calls Tryd.prog 5 #[.int .i64 5, .int .u32 s, .slice a n c, .int .u32 i] w (TrueKept w) := by
  obtain ⟨fr, hfr⟩ : ∃ fr, triedC 5 s i w.heap.size = fr := ⟨_, rfl⟩
  have hsz : fr.size = 14 := by rw [← hfr]; rfl
  have h1f : ∀ u ∈ fr.toList, u.oneCell' = true := by rw [← hfr]; exact tried_one _ _ _ _
  have hif : (Tryd.prog.info? 35).map (·.size) = some fr.size := by rw [hsz]; exact infoFs
  have hg : ∀ w, Calls Tryd.prog 18 #[.agg fr] w fun e w' => e = .returned (.agg fr) ∧ Below w.heap.size w w' := fun w => by rw [← hfr]; exact given_tried _ _ _ _ w
  have hn' : ¬ (2147483647 : Int) < n := by omega
  have e0 : (s == 0) = false := by simp [hs0]
  go_enter Tryd.func5, Tryd.ntmps5
  go_wp2_with (first
    | (refine wpList_store_blk rfl _ _ _ rfl (w.heap.size + 1) rfl fr _ (by rw [← hfr]; rfl) 35 (blk_at _ _ (by simp)) hsz hif h1f ?_; intro w1 hb1 hk1; have l1 : Below w.heap.size w w1 := (((Kept.refl (· < w.heap.size) w).alloc _).alloc _).trans (hk1.mono (fun k h _ => by omega)) |>.below (Nat.le_refl _))
    | (refine wpList_load_blk rfl _ _ rfl (w.heap.size + 1) rfl _ 35 hb1 Tryd.underlying35 hif ?_)
    | (go_at_call 18; refine (hg _).mono ?_; rintro e w2 ⟨rfl, l2⟩)
    | (fail))
  go_ret
  exact ⟨rfl, l1⟩
set_option maxRecDepth 10000 in
set_option maxHeartbeats 8000000 in
theorem refused9_zero (hE : EG w vS vP vB) (s i : Int) (a : Option Addr) (n c : Nat) (hn : n ≤ 2147483647) (hs0 : s = 0) :
    Calls Tryd.prog 5 #[.int .i64 9, .int .u32 s, .slice a n c, .int .u32 i] w (TrueKept w) := by
  obtain ⟨fr, hfr⟩ : ∃ fr, triedC 9 s i w.heap.size = fr := ⟨_, rfl⟩
  have hsz : fr.size = 14 := by rw [← hfr]; rfl
  have h1f : ∀ u ∈ fr.toList, u.oneCell' = true := by rw [← hfr]; exact tried_one _ _ _ _
  have hif : (Tryd.prog.info? 35).map (·.size) = some fr.size := by rw [hsz]; exact infoFs
  have hg : ∀ w, Calls Tryd.prog 18 #[.agg fr] w fun e w' => e = .returned (.agg fr) ∧ Below w.heap.size w w' := fun w => by rw [← hfr]; exact given_tried _ _ _ _ w
  have hn' : ¬ (2147483647 : Int) < n := by omega
  have h0 : 0 ≤ s := by omega
  have h1 : s < 4294967296 := by omega
  have hs : vs s = false := by subst hs0; rfl
  have e0 : (s == 0) = true := by simp [hs0]
  clear hs0
  have hw : ∀ (w1 : World) (bF : Nat), RS w1 bF vS vP vB → Calls Tryd.prog 36 #[.pointer (some ⟨bF, 0, none⟩), .agg fr, .slice none 0 0] w1 (Refuses w1) := fun w1 bF hr => by rw [← hfr]; exact write_cont_ref hr s i _ h0 h1 hs _
  go_enter Tryd.func5, Tryd.ntmps5
  go_wp2_with (first
    | (refine wpList_store_blk rfl _ _ _ rfl (w.heap.size + 1) rfl fr _ (by rw [← hfr]; rfl) 35 (blk_at _ _ (by simp)) hsz hif h1f ?_; intro w1 hb1 hk1; have l1 : Below w.heap.size w w1 := (((Kept.refl (· < w.heap.size) w).alloc _).alloc _).trans (hk1.mono (fun k h _ => by omega)) |>.below (Nat.le_refl _))
    | (refine wpList_load_blk rfl _ _ rfl (w.heap.size + 1) rfl _ 35 hb1 Tryd.underlying35 hif ?_)
    | (go_at_call 18; refine (hg _).mono ?_; rintro e w2 ⟨rfl, l2⟩)
    | (go_at_call 17; rw [fold14 hsz _ rfl]; (refine (implWrite_nopad (((hE.below l1).below l2).below (below_one _ _)) w2.heap.size fr (blk_at _ _ rfl) hsz h1f (fun w1 hr _ => hw w1 _ hr)).mono ?_; rintro e w3 ⟨fv, rfl, l3, hrow⟩; obtain ⟨g, cap, rfl, hc⟩ := own_cell hrow 0 (.bool true) rfl)))
  go_ret
  exact ⟨rfl, Below.then (Below.then l1 (Nat.le_refl _) (l2.alloc l2.size _)) (Nat.le_refl _) l3⟩
set_option maxRecDepth 10000 in
set_option maxHeartbeats 8000000 in
theorem refused9_big (hE : EG w vS vP vB) (s i : Int) (a : Option Addr) (n c : Nat) (hn : n ≤ 2147483647) (h0 : 0 ≤ s) (h1 : s < 4294967296) (hs0 : 2147483647 < s) :
    Calls Tryd.prog 5 #[.int .i64 9, .int .u32 s, .slice a n c, .int .u32 i] w (TrueKept w) := by
  obtain ⟨fr, hfr⟩ : ∃ fr, triedC 9 s i w.heap.size = fr := ⟨_, rfl⟩
  have hsz : fr.size = 14 := by rw [← hfr]; rfl
  have h1f : ∀ u ∈ fr.toList, u.oneCell' = true := by rw [← hfr]; exact tried_one _ _ _ _
  have hif : (Tryd.prog.info? 35).map (·.size) = some fr.size := by rw [hsz]; exact infoFs
  have hg : ∀ w, Calls Tryd.prog 18 #[.agg fr] w fun e w' => e = .returned (.agg fr) ∧ Below w.heap.size w w' := fun w => by rw [← hfr]; exact given_tried _ _ _ _ w
  have hn' : ¬ (2147483647 : Int) < n := by omega
  have hs : vs s = false := by unfold vs; simp; omega
  have e0 : (s == 0) = false := by simp; omega
  have hw : ∀ (w1 : World) (bF : Nat), RS w1 bF vS vP vB → Calls Tryd.prog 36 #[.pointer (some ⟨bF, 0, none⟩), .agg fr, .slice none 0 0] w1 (Refuses w1) := fun w1 bF hr => by rw [← hfr]; exact write_cont_ref hr s i _ h0 h1 hs _
  go_enter Tryd.func5, Tryd.ntmps5
  go_wp2_with (first
    | (refine wpList_store_blk rfl _ _ _ rfl (w.heap.size + 1) rfl fr _ (by rw [← hfr]; rfl) 35 (blk_at _ _ (by simp)) hsz hif h1f ?_; intro w1 hb1 hk1; have l1 : Below w.heap.size w w1 := (((Kept.refl (· < w.heap.size) w).alloc _).alloc _).trans (hk1.mono (fun k h _ => by omega)) |>.below (Nat.le_refl _))
    | (refine wpList_load_blk rfl _ _ rfl (w.heap.size + 1) rfl _ 35 hb1 Tryd.underlying35 hif ?_)
    | (go_at_call 18; refine (hg _).mono ?_; rintro e w2 ⟨rfl, l2⟩)
    | (go_at_call 17; rw [fold14 hsz _ rfl]; (refine (implWrite_nopad (((hE.below l1).below l2).below (below_one _ _)) w2.heap.size fr (blk_at _ _ rfl) hsz h1f (fun w1 hr _ => hw w1 _ hr)).mono ?_; rintro e w3 ⟨fv, rfl, l3, hrow⟩; obtain ⟨g, cap, rfl, hc⟩ := own_cell hrow 0 (.bool true) rfl)))
  go_ret
  exact ⟨rfl, Below.then (Below.then l1 (Nat.le_refl _) (l2.alloc l2.size _)) (Nat.le_refl _) l3⟩
set_option maxRecDepth 10000 in
set_option maxHeartbeats 8000000 in
theorem refused9_good  (s i : Int) (a : Option Addr) (n c : Nat) (hn : n ≤ 2147483647) (hs0 : s ≠ 0) (hs1 : ¬ 2147483647 < s) :
    Calls Tryd.prog 5 #[.int .i64 9, .int .u32 s, .slice a n c, .int .u32 i] w (TrueKept w) := by
  obtain ⟨fr, hfr⟩ : ∃ fr, triedC 9 s i w.heap.size = fr := ⟨_, rfl⟩
  have hsz : fr.size = 14 := by rw [← hfr]; rfl
  have h1f : ∀ u ∈ fr.toList, u.oneCell' = true := by rw [← hfr]; exact tried_one _ _ _ _
  have hif : (Tryd.prog.info? 35).map (·.size) = some fr.size := by rw [hsz]; exact infoFs
  have hg : ∀ w, Calls Tryd.prog 18 #[.agg fr] w fun e w' => e = .returned (.agg fr) ∧ Below w.heap.size w w' := fun w => by rw [← hfr]; exact given_tried _ _ _ _ w
  have hn' : ¬ (2147483647 : Int) < n := by omega
  have e0 : (s == 0) = false := by simp [hs0]
  go_enter Tryd.func5, Tryd.ntmps5
  go_wp2_with (first
    | (refine wpList_store_blk rfl _ _ _ rfl (w.heap.size + 1) rfl fr _ (by rw [← hfr]; rfl) 35 (blk_at _ _ (by simp)) hsz hif h1f ?_; intro w1 hb1 hk1; have l1 : Below w.heap.size w w1 := (((Kept.refl (· < w.heap.size) w).alloc _).alloc _).trans (hk1.mono (fun k h _ => by omega)) |>.below (Nat.le_refl _))
    | (refine wpList_load_blk rfl _ _ rfl (w.heap.size + 1) rfl _ 35 hb1 Tryd.underlying35 hif ?_)
    | (go_at_call 18; refine (hg _).mono ?_; rintro e w2 ⟨rfl, l2⟩)
    | (fail))
  go_ret
  exact ⟨rfl, l1⟩
set_option maxRecDepth 10000 in
set_option maxHeartbeats 8000000 in
theorem refused2_zero (hE : EG w vS vP vB) (s i : Int) (a : Option Addr) (n c : Nat) (hn : n ≤ 2147483647) (hs0 : s = 0) :
    Calls Tryd.prog 5 #[.int .i64 2, .int .u32 s, .slice a n c, .int .u32 i] w (TrueKept w) := by
  obtain ⟨fr, hfr⟩ : ∃ fr, triedC 2 s i w.heap.size = fr := ⟨_, rfl⟩
  have hsz : fr.size = 14 := by rw [← hfr]; rfl
  have h1f : ∀ u ∈ fr.toList, u.oneCell' = true := by rw [← hfr]; exact tried_one _ _ _ _
  have hif : (Tryd.prog.info? 35).map (·.size) = some fr.size := by rw [hsz]; exact infoFs
  have hg : ∀ w, Calls Tryd.prog 18 #[.agg fr] w fun e w' => e = .returned (.agg fr) ∧ Below w.heap.size w w' := fun w => by rw [← hfr]; exact given_tried _ _ _ _ w
  have hn' : ¬ (2147483647 : Int) < n := by omega
  have h0 : 0 ≤ s := by omega
  have h1 : s < 4294967296 := by omega
  have hs : vs s = false := by subst hs0; rfl
  have e0 : (s == 0) = true := by simp [hs0]
  clear hs0
  have hw : ∀ (w1 : World) (bF : Nat), RS w1 bF vS vP vB → Calls Tryd.prog 36 #[.pointer (some ⟨bF, 0, none⟩), .agg fr, .slice none 0 0] w1 (Refuses w1) := fun w1 bF hr => by rw [← hfr]; exact write_priority_ref hr s i _ h0 h1 hs _
  go_enter Tryd.func5, Tryd.ntmps5
  go_wp2_with (first
    | (refine wpList_store_blk rfl _ _ _ rfl (w.heap.size + 1) rfl fr _ (by rw [← hfr]; rfl) 35 (blk_at _ _ (by simp)) hsz hif h1f ?_; intro w1 hb1 hk1; have l1 : Below w.heap.size w w1 := (((Kept.refl (· < w.heap.size) w).alloc _).alloc _).trans (hk1.mono (fun k h _ => by omega)) |>.below (Nat.le_refl _))
    | (refine wpList_load_blk rfl _ _ rfl (w.heap.size + 1) rfl _ 35 hb1 Tryd.underlying35 hif ?_)
    | (go_at_call 18; refine (hg _).mono ?_; rintro e w2 ⟨rfl, l2⟩)
    | (go_at_call 17; rw [fold14 hsz _ rfl]; (refine (implWrite_nopad (((hE.below l1).below l2).below (below_one _ _)) w2.heap.size fr (blk_at _ _ rfl) hsz h1f (fun w1 hr _ => hw w1 _ hr)).mono ?_; rintro e w3 ⟨fv, rfl, l3, hrow⟩; obtain ⟨g, cap, rfl, hc⟩ := own_cell hrow 0 (.bool true) rfl)))
  go_ret
  exact ⟨rfl, Below.then (Below.then l1 (Nat.le_refl _) (l2.alloc l2.size _)) (Nat.le_refl _) l3⟩
set_option maxRecDepth 10000 in
set_option maxHeartbeats 8000000 in
theorem refused2_big (hE : EG w vS vP vB) (s i : Int) (a : Option Addr) (n c : Nat) (hn : n ≤ 2147483647) (h0 : 0 ≤ s) (h1 : s < 4294967296) (hs0 : 2147483647 < s) :
    Calls Tryd.prog 5 #[.int .i64 2, .int .u32 s, .slice a n c, .int .u32 i] w (TrueKept w) := by
  obtain ⟨fr, hfr⟩ : ∃ fr, triedC 2 s i w.heap.size = fr := ⟨_, rfl⟩
  have hsz : fr.size = 14 := by rw [← hfr]; rfl
  have h1f : ∀ u ∈ fr.toList, u.oneCell' = true := by rw [← hfr]; exact tried_one _ _ _ _
  have hif : (Tryd.prog.info? 35).map (·.size) = some fr.size := by rw [hsz]; exact infoFs
  have hg : ∀ w, Calls Tryd.prog 18 #[.agg fr] w fun e w' => e = .returned (.agg fr) ∧ Below w.heap.size w w' := fun w => by rw [← hfr]; exact given_tried _ _ _ _ w
  have hn' : ¬ (2147483647 : Int) < n := by omega
  have hs : vs s = false := by unfold vs; simp; omega
  have e0 : (s == 0) = false := by simp; omega
  have hw : ∀ (w1 : World) (bF : Nat), RS w1 bF vS vP vB → Calls Tryd.prog 36 #[.pointer (some ⟨bF, 0, none⟩), .agg fr, .slice none 0 0] w1 (Refuses w1) := fun w1 bF hr => by rw [← hfr]; exact write_priority_ref hr s i _ h0 h1 hs _
  go_enter Tryd.func5, Tryd.ntmps5
  go_wp2_with (first
    | (refine wpList_store_blk rfl _ _ _ rfl (w.heap.size + 1) rfl fr _ (by rw [← hfr]; rfl) 35 (blk_at _ _ (by simp)) hsz hif h1f ?_; intro w1 hb1 hk1; have l1 : Below w.heap.size w w1 := (((Kept.refl (· < w.heap.size) w).alloc _).alloc _).trans (hk1.mono (fun k h _ => by omega)) |>.below (Nat.le_refl _))
    | (refine wpList_load_blk rfl _ _ rfl (w.heap.size + 1) rfl _ 35 hb1 Tryd.underlying35 hif ?_)
    | (go_at_call 18; refine (hg _).mono ?_; rintro e w2 ⟨rfl, l2⟩)
    | (go_at_call 17; rw [fold14 hsz _ rfl]; (refine (implWrite_nopad (((hE.below l1).below l2).below (below_one _ _)) w2.heap.size fr (blk_at _ _ rfl) hsz h1f (fun w1 hr _ => hw w1 _ hr)).mono ?_; rintro e w3 ⟨fv, rfl, l3, hrow⟩; obtain ⟨g, cap, rfl, hc⟩ := own_cell hrow 0 (.bool true) rfl)))
  go_ret
  exact ⟨rfl, Below.then (Below.then l1 (Nat.le_refl _) (l2.alloc l2.size _)) (Nat.le_refl _) l3⟩
set_option maxRecDepth 10000 in
set_option maxHeartbeats 8000000 in
theorem refused2_good  (s i : Int) (a : Option Addr) (n c : Nat) (hn : n ≤ 2147483647) (hs0 : s ≠ 0) (hs1 : ¬ 2147483647 < s) :
    Calls Tryd.prog 5 #[.int .i64 2, .int .u32 s, .slice a n c, .int .u32 i] w (TrueKept w) := by
  obtain ⟨fr, hfr⟩ : ∃ fr, triedC 2 s i w.heap.size = fr := ⟨_, rfl⟩
  have hsz : fr.size = 14 := by rw [← hfr]; rfl
  have h1f : ∀ u ∈ fr.toList, u.oneCell' = true := by rw [← hfr]; exact tried_one _ _ _ _
  have hif : (Tryd.prog.info? 35).map (·.size) = some fr.size := by rw [hsz]; exact infoFs
  have hg : ∀ w, Calls Tryd.prog 18 #[.agg fr] w fun e w' => e = .returned (.agg fr) ∧ Below w.heap.size w w' := fun w => by rw [← hfr]; exact given_tried _ _ _ _ w
  have hn' : ¬ (2147483647 : Int) < n := by omega
  have e0 : (s == 0) = false := by simp [hs0]
  go_enter Tryd.func5, Tryd.ntmps5
  go_wp2_with (first
    | (refine wpList_store_blk rfl _ _ _ rfl (w.heap.size + 1) rfl fr _ (by rw [← hfr]; rfl) 35 (blk_at _ _ (by simp)) hsz hif h1f ?_; intro w1 hb1 hk1; have l1 : Below w.heap.size w w1 := (((Kept.refl (· < w.heap.size) w).alloc _).alloc _).trans (hk1.mono (fun k h _ => by omega)) |>.below (Nat.le_refl _))
    | (refine wpList_load_blk rfl _ _ rfl (w.heap.size + 1) rfl _ 35 hb1 Tryd.underlying35 hif ?_)
    | (go_at_call 18; refine (hg _).mono ?_; rintro e w2 ⟨rfl, l2⟩)
    | (fail))
  go_ret
  exact ⟨rfl, l1⟩
set_option maxRecDepth 10000 in
set_option maxHeartbeats 8000000 in
theorem refused8_zeroa (hE : EG w vS vP vB) (s i : Int) (a : Option Addr) (n c : Nat) (hn : n ≤ 2147483647) (hi0 : i = 0) (hq : s = 0) :
    Calls Tryd.prog 5 #[.int .i64 8, .int .u32 s, .slice a n c, .int .u32 i] w (TrueKept w) := by
  obtain ⟨fr, hfr⟩ : ∃ fr, triedC 8 s i w.heap.size = fr := ⟨_, rfl⟩
  have hsz : fr.size = 14 := by rw [← hfr]; rfl
  have h1f : ∀ u ∈ fr.toList, u.oneCell' = true := by rw [← hfr]; exact tried_one _ _ _ _
  have hif : (Tryd.prog.info? 35).map (·.size) = some fr.size := by rw [hsz]; exact infoFs
  have hg : ∀ w, Calls Tryd.prog 18 #[.agg fr] w fun e w' => e = .returned (.agg fr) ∧ Below w.heap.size w w' := fun w => by rw [← hfr]; exact given_tried _ _ _ _ w
  have hn' : ¬ (2147483647 : Int) < n := by omega
  have hs : vs i = false := by subst hi0; rfl
  have e0 : (i == 0) = true := by simp [hi0]
  clear hi0
  have es : (s == 0) = true := by simp [hq]
  clear hq
  have hw : ∀ (w1 : World) (bF : Nat), RS w1 bF vS vP vB → Calls Tryd.prog 36 #[.pointer (some ⟨bF, 0, none⟩), .agg fr, .slice none 0 0] w1 (Refuses w1) := fun w1 bF hr => by rw [← hfr]; exact write_window_ref hr s i _ hs _
  go_enter Tryd.func5, Tryd.ntmps5
  go_wp2_with (first
    | (refine wpList_store_blk rfl _ _ _ rfl (w.heap.size + 1) rfl fr _ (by rw [← hfr]; rfl) 35 (blk_at _ _ (by simp)) hsz hif h1f ?_; intro w1 hb1 hk1; have l1 : Below w.heap.size w w1 := (((Kept.refl (· < w.heap.size) w).alloc _).alloc _).trans (hk1.mono (fun k h _ => by omega)) |>.below (Nat.le_refl _))
    | (refine wpList_load_blk rfl _ _ rfl (w.heap.size + 1) rfl _ 35 hb1 Tryd.underlying35 hif ?_)
    | (go_at_call 18; refine (hg _).mono ?_; rintro e w2 ⟨rfl, l2⟩)
    | (go_at_call 17; rw [fold14 hsz _ rfl]; (refine (implWrite_nopad (((hE.below l1).below l2).below (below_one _ _)) w2.heap.size fr (blk_at _ _ rfl) hsz h1f (fun w1 hr _ => hw w1 _ hr)).mono ?_; rintro e w3 ⟨fv, rfl, l3, hrow⟩; obtain ⟨g, cap, rfl, hc⟩ := own_cell hrow 0 (.bool true) rfl)))
  go_ret
  exact ⟨rfl, Below.then (Below.then l1 (Nat.le_refl _) (l2.alloc l2.size _)) (Nat.le_refl _) l3⟩
set_option maxRecDepth 10000 in
set_option maxHeartbeats 8000000 in
theorem refused8_biga (hE : EG w vS vP vB) (s i : Int) (a : Option Addr) (n c : Nat) (hn : n ≤ 2147483647) (h0 : 0 ≤ i) (hi0 : 2147483647 < i) (hq : s = 0) :
    Calls Tryd.prog 5 #[.int .i64 8, .int .u32 s, .slice a n c, .int .u32 i] w (TrueKept w) := by
  obtain ⟨fr, hfr⟩ : ∃ fr, triedC 8 s i w.heap.size = fr := ⟨_, rfl⟩
  have hsz : fr.size = 14 := by rw [← hfr]; rfl
  have h1f : ∀ u ∈ fr.toList, u.oneCell' = true := by rw [← hfr]; exact tried_one _ _ _ _
  have hif : (Tryd.prog.info? 35).map (·.size) = some fr.size := by rw [hsz]; exact infoFs
  have hg : ∀ w, Calls Tryd.prog 18 #[.agg fr] w fun e w' => e = .returned (.agg fr) ∧ Below w.heap.size w w' := fun w => by rw [← hfr]; exact given_tried _ _ _ _ w
  have hn' : ¬ (2147483647 : Int) < n := by omega
  have hs : vs i = false := by unfold vs; simp; omega
  have e0 : (i == 0) = false := by simp; omega
  have es : (s == 0) = true := by simp [hq]
  clear hq
  have hw : ∀ (w1 : World) (bF : Nat), RS w1 bF vS vP vB → Calls Tryd.prog 36 #[.pointer (some ⟨bF, 0, none⟩), .agg fr, .slice none 0 0] w1 (Refuses w1) := fun w1 bF hr => by rw [← hfr]; exact write_window_ref hr s i _ hs _
  go_enter Tryd.func5, Tryd.ntmps5
  go_wp2_with (first
    | (refine wpList_store_blk rfl _ _ _ rfl (w.heap.size + 1) rfl fr _ (by rw [← hfr]; rfl) 35 (blk_at _ _ (by simp)) hsz hif h1f ?_; intro w1 hb1 hk1; have l1 : Below w.heap.size w w1 := (((Kept.refl (· < w.heap.size) w).alloc _).alloc _).trans (hk1.mono (fun k h _ => by omega)) |>.below (Nat.le_refl _))
    | (refine wpList_load_blk rfl _ _ rfl (w.heap.size + 1) rfl _ 35 hb1 Tryd.underlying35 hif ?_)
    | (go_at_call 18; refine (hg _).mono ?_; rintro e w2 ⟨rfl, l2⟩)
    | (go_at_call 17; rw [fold14 hsz _ rfl]; (refine (implWrite_nopad (((hE.below l1).below l2).below (below_one _ _)) w2.heap.size fr (blk_at _ _ rfl) hsz h1f (fun w1 hr _ => hw w1 _ hr)).mono ?_; rintro e w3 ⟨fv, rfl, l3, hrow⟩; obtain ⟨g, cap, rfl, hc⟩ := own_cell hrow 0 (.bool true) rfl)))
  go_ret
  exact ⟨rfl, Below.then (Below.then l1 (Nat.le_refl _) (l2.alloc l2.size _)) (Nat.le_refl _) l3⟩
set_option maxRecDepth 10000 in
set_option maxHeartbeats 8000000 in
theorem refused8_gooda  (s i : Int) (a : Option Addr) (n c : Nat) (hn : n ≤ 2147483647) (hi0 : i ≠ 0) (hi1 : ¬ 2147483647 < i) (hq : s = 0) :
    Calls Tryd.prog 5 #[.int .i64 8, .int .u32 s, .slice a n c, .int .u32 i] w (TrueKept w) := by
  obtain ⟨fr, hfr⟩ : ∃ fr, triedC 8 s i w.heap.size = fr := ⟨_, rfl⟩
  have hsz : fr.size = 14 := by rw [← hfr]; rfl
  have h1f : ∀ u ∈ fr.toList, u.oneCell' = true := by rw [← hfr]; exact tried_one _ _ _ _
  have hif : (Tryd.prog.info? 35).map (·.size) = some fr.size := by rw [hsz]; exact infoFs
  have hg : ∀ w, Calls Tryd.prog 18 #[.agg fr] w fun e w' => e = .returned (.agg fr) ∧ Below w.heap.size w w' := fun w => by rw [← hfr]; exact given_tried _ _ _ _ w
  have hn' : ¬ (2147483647 : Int) < n := by omega
  have e0 : (i == 0) = false := by simp [hi0]
  have es : (s == 0) = true := by simp [hq]
  clear hq
  go_enter Tryd.func5, Tryd.ntmps5
  go_wp2_with (first
    | (refine wpList_store_blk rfl _ _ _ rfl (w.heap.size + 1) rfl fr _ (by rw [← hfr]; rfl) 35 (blk_at _ _ (by simp)) hsz hif h1f ?_; intro w1 hb1 hk1; have l1 : Below w.heap.size w w1 := (((Kept.refl (· < w.heap.size) w).alloc _).alloc _).trans (hk1.mono (fun k h _ => by omega)) |>.below (Nat.le_refl _))
    | (refine wpList_load_blk rfl _ _ rfl (w.heap.size + 1) rfl _ 35 hb1 Tryd.underlying35 hif ?_)
    | (go_at_call 18; refine (hg _).mono ?_; rintro e w2 ⟨rfl, l2⟩)
    | (fail))
  go_ret
  exact ⟨rfl, l1⟩
set_option maxRecDepth 10000 in
set_option maxHeartbeats 8000000 in
theorem refused8_zerob (hE : EG w vS vP vB) (s i : Int) (a : Option Addr) (n c : Nat) (hn : n ≤ 2147483647) (hi0 : i = 0) (hq : s ≠ 0) :
    Calls Tryd.prog 5 #[.int .i64 8, .int .u32 s, .slice a n c, .int .u32 i] w (TrueKept w) := by
  obtain ⟨fr, hfr⟩ : ∃ fr, triedC 8 s i w.heap.size = fr := ⟨_, rfl⟩
  have hsz : fr.size = 14 := by rw [← hfr]; rfl
  have h1f : ∀ u ∈ fr.toList, u.oneCell' = true := by rw [← hfr]; exact tried_one _ _ _ _
  have hif : (Tryd.prog.info? 35).map (·.size) = some fr.size := by rw [hsz]; exact infoFs
  have hg : ∀ w, Calls Tryd.prog 18 #[.agg fr] w fun e w' => e = .returned (.agg fr) ∧ Below w.heap.size w w' := fun w => by rw [← hfr]; exact given_tried _ _ _ _ w
  have hn' : ¬ (2147483647 : Int) < n := by omega
  have hs : vs i = false := by subst hi0; rfl
  have e0 : (i == 0) = true := by simp [hi0]
  clear hi0
  have es : (s == 0) = false := by simp [hq]
  have hw : ∀ (w1 : World) (bF : Nat), RS w1 bF vS vP vB → Calls Tryd.prog 36 #[.pointer (some ⟨bF, 0, none⟩), .agg fr, .slice none 0 0] w1 (Refuses w1) := fun w1 bF hr => by rw [← hfr]; exact write_window_ref hr s i _ hs _
  go_enter Tryd.func5, Tryd.ntmps5
  go_wp2_with (first
    | (refine wpList_store_blk rfl _ _ _ rfl (w.heap.size + 1) rfl fr _ (by rw [← hfr]; rfl) 35 (blk_at _ _ (by simp)) hsz hif h1f ?_; intro w1 hb1 hk1; have l1 : Below w.heap.size w w1 := (((Kept.refl (· < w.heap.size) w).alloc _).alloc _).trans (hk1.mono (fun k h _ => by omega)) |>.below (Nat.le_refl _))
    | (refine wpList_load_blk rfl _ _ rfl (w.heap.size + 1) rfl _ 35 hb1 Tryd.underlying35 hif ?_)
    | (go_at_call 18; refine (hg _).mono ?_; rintro e w2 ⟨rfl, l2⟩)
    | (go_at_call 17; rw [fold14 hsz _ rfl]; (refine (implWrite_nopad (((hE.below l1).below l2).below (below_one _ _)) w2.heap.size fr (blk_at _ _ rfl) hsz h1f (fun w1 hr _ => hw w1 _ hr)).mono ?_; rintro e w3 ⟨fv, rfl, l3, hrow⟩; obtain ⟨g, cap, rfl, hc⟩ := own_cell hrow 0 (.bool true) rfl)))
  go_ret
  exact ⟨rfl, Below.then (Below.then l1 (Nat.le_refl _) (l2.alloc l2.size _)) (Nat.le_refl _) l3⟩
set_option maxRecDepth 10000 in
set_option maxHeartbeats 8000000 in
theorem refused8_bigb (hE : EG w vS vP vB) (s i : Int) (a : Option Addr) (n c : Nat) (hn : n ≤ 2147483647) (h0 : 0 ≤ i) (hi0 : 2147483647 < i) (hq : s ≠ 0) :
    Calls Tryd.prog 5 #[.int .i64 8, .int .u32 s, .slice a n c, .int .u32 i] w (TrueKept w) := by
  obtain ⟨fr, hfr⟩ : ∃ fr, triedC 8 s i w.heap.size = fr := ⟨_, rfl⟩
  have hsz : fr.size = 14 := by rw [← hfr]; rfl
  have h1f : ∀ u ∈ fr.toList, u.oneCell' = true := by rw [← hfr]; exact tried_one _ _ _ _
  have hif : (Tryd.prog.info? 35).map (·.size) = some fr.size := by rw [hsz]; exact infoFs
  have hg : ∀ w, Calls Tryd.prog 18 #[.agg fr] w fun e w' => e = .returned (.agg fr) ∧ Below w.heap.size w w' := fun w => by rw [← hfr]; exact given_tried _ _ _ _ w
  have hn' : ¬ (2147483647 : Int) < n := by omega
  have hs : vs i = false := by unfold vs; simp; omega
  have e0 : (i == 0) = false := by simp; omega
  have es : (s == 0) = false := by simp [hq]
  have hw : ∀ (w1 : World) (bF : Nat), RS w1 bF vS vP vB → Calls Tryd.prog 36 #[.pointer (some ⟨bF, 0, none⟩), .agg fr, .slice none 0 0] w1 (Refuses w1) := fun w1 bF hr => by rw [← hfr]; exact write_window_ref hr s i _ hs _
  go_enter Tryd.func5, Tryd.ntmps5
  go_wp2_with (first
    | (refine wpList_store_blk rfl _ _ _ rfl (w.heap.size + 1) rfl fr _ (by rw [← hfr]; rfl) 35 (blk_at _ _ (by simp)) hsz hif h1f ?_; intro w1 hb1 hk1; have l1 : Below w.heap.size w w1 := (((Kept.refl (· < w.heap.size) w).alloc _).alloc _).trans (hk1.mono (fun k h _ => by omega)) |>.below (Nat.le_refl _))
    | (refine wpList_load_blk rfl _ _ rfl (w.heap.size + 1) rfl _ 35 hb1 Tryd.underlying35 hif ?_)
    | (go_at_call 18; refine (hg _).mono ?_; rintro e w2 ⟨rfl, l2⟩)
    | (go_at_call 17; rw [fold14 hsz _ rfl]; (refine (implWrite_nopad (((hE.below l1).below l2).below (below_one _ _)) w2.heap.size fr (blk_at _ _ rfl) hsz h1f (fun w1 hr _ => hw w1 _ hr)).mono ?_; rintro e w3 ⟨fv, rfl, l3, hrow⟩; obtain ⟨g, cap, rfl, hc⟩ := own_cell hrow 0 (.bool true) rfl)))
  go_ret
  exact ⟨rfl, Below.then (Below.then l1 (Nat.le_refl _) (l2.alloc l2.size _)) (Nat.le_refl _) l3⟩
set_option maxRecDepth 10000 in
set_option maxHeartbeats 8000000 in
theorem refused8_goodb  (s i : Int) (a : Option Addr) (n c : Nat) (hn : n ≤ 2147483647) (hi0 : i ≠ 0) (hi1 : ¬ 2147483647 < i) (hq : s ≠ 0) :
    Calls Tryd.prog 5 #[.int .i64 8, .int .u32 s, .slice a n c, .int .u32 i] w (TrueKept w) := by
  obtain ⟨fr, hfr⟩ : ∃ fr, triedC 8 s i w.heap.size = fr := ⟨_, rfl⟩
  have hsz : fr.size = 14 := by rw [← hfr]; rfl
  have h1f : ∀ u ∈ fr.toList, u.oneCell' = true := by rw [← hfr]; exact tried_one _ _ _ _
  have hif : (Tryd.prog.info? 35).map (·.size) = some fr.size := by rw [hsz]; exact infoFs
  have hg : ∀ w, Calls Tryd.prog 18 #[.agg fr] w fun e w' => e = .returned (.agg fr) ∧ Below w.heap.size w w' := fun w => by rw [← hfr]; exact given_tried _ _ _ _ w
  have hn' : ¬ (2147483647 : Int) < n := by omega
  have e0 : (i == 0) = false := by simp [hi0]
  have es : (s == 0) = false := by simp [hq]
  go_enter Tryd.func5, Tryd.ntmps5
  go_wp2_with (first
    | (refine wpList_store_blk rfl _ _ _ rfl (w.heap.size + 1) rfl fr _ (by rw [← hfr]; rfl) 35 (blk_at _ _ (by simp)) hsz hif h1f ?_; intro w1 hb1 hk1; have l1 : Below w.heap.size w w1 := (((Kept.refl (· < w.heap.size) w).alloc _).alloc _).trans (hk1.mono (fun k h _ => by omega)) |>.below (Nat.le_refl _))
    | (refine wpList_load_blk rfl _ _ rfl (w.heap.size + 1) rfl _ 35 hb1 Tryd.underlying35 hif ?_)
    | (go_at_call 18; refine (hg _).mono ?_; rintro e w2 ⟨rfl, l2⟩)
    | (fail))
  go_ret
  exact ⟨rfl, l1⟩
end Go.Proofs.YtfdlbjibninakaaDoor
