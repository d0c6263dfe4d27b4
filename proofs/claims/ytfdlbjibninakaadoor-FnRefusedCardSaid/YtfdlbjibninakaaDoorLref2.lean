/- FnRefused at DATA frames without a padding, and the join. -/
import Derived.Test.YtfdlbjibninakaaDoorLref1
namespace Go.Proofs.YtfdlbjibninakaaDoor
open Go.RowKit
variable {w : World} {vS vP vB : Value}
set_option maxRecDepth 10000 in
set_option maxHeartbeats 8000000 in
theorem refused0_zero (hE : EG w vS vP vB) (s i : Int) (a : Option Addr) (c : Nat) (hs0 : s = 0) :
    Calls Tryd.prog 5 #[.int .i64 0, .int .u32 s, .slice a 0 c, .int .u32 i] w (TrueKept w) := by
  obtain ⟨fr, hfr⟩ : ∃ fr, triedC 0 s i w.heap.size = fr := ⟨_, rfl⟩
  have hsz : fr.size = 14 := by rw [← hfr]; rfl
  have h1f : ∀ u ∈ fr.toList, u.oneCell' = true := by rw [← hfr]; exact tried_one _ _ _ _
  have hif : (Tryd.prog.info? 35).map (·.size) = some fr.size := by rw [hsz]; exact infoFs
  have hg : ∀ w, Calls Tryd.prog 18 #[.agg fr] w fun e w' => e = .returned (.agg fr) ∧ Below w.heap.size w w' := fun w => by rw [← hfr]; exact given_tried _ _ _ _ w
  have h0 : 0 ≤ s := by omega
  have h1 : s < 4294967296 := by omega
  have hs : vs s = false := by subst hs0; rfl
  have e0 : (s == 0) = true := by simp [hs0]
  clear hs0
  have hw : ∀ (w1 : World) (bF : Nat), RS w1 bF vS vP vB → Calls Tryd.prog 36 #[.pointer (some ⟨bF, 0, none⟩), .agg fr, .slice none 0 0] w1 (Refuses w1) := fun w1 bF hr => by rw [← hfr]; exact write_data_ref hr s i _ h0 h1 hs
  go_enter Tryd.func5, Tryd.ntmps5
  go_wp2_with (refine wpList_store_blk rfl _ _ _ rfl (w.heap.size + 1) rfl fr _ (by rw [← hfr]; rfl) 35 (blk_at _ _ (by simp)) hsz hif h1f ?_; intro w1 hb1 hk1; have l1 : Below w.heap.size w w1 := (((Kept.refl (· < w.heap.size) w).alloc _).alloc _).trans (hk1.mono (fun k h _ => by omega)) |>.below (Nat.le_refl _))
  refine wp_loop_rounds 1 ?_
  rw [rounds_succ]
  go_wp2_with (first
    | (refine wpList_load_blk rfl _ _ rfl (w.heap.size + 1) rfl _ 35 hb1 Tryd.underlying35 hif ?_)
    | (go_at_call 18; refine (hg _).mono ?_; rintro e w2 ⟨rfl, l2⟩)
    | (go_at_call 17; rw [fold14 hsz _ rfl]; (refine (implWrite_nopad (((hE.below l1).below l2).below (below_one _ _)) w2.heap.size fr (blk_at _ _ rfl) hsz h1f (fun w1 hr _ => hw w1 _ hr)).mono ?_; rintro e w3 ⟨fv, rfl, l3, hrow⟩; obtain ⟨g, cap, rfl, hc⟩ := own_cell hrow 0 (.bool true) rfl)))
  go_ret
  exact ⟨rfl, Below.then (Below.then l1 (Nat.le_refl _) (l2.alloc l2.size _)) (Nat.le_refl _) l3⟩
set_option maxRecDepth 10000 in
set_option maxHeartbeats 8000000 in
theorem refused0_big (hE : EG w vS vP vB) (s i : Int) (a : Option Addr) (c : Nat) (h0 : 0 ≤ s) (h1 : s < 4294967296) (hs0 : 2147483647 < s) :
    Calls Tryd.prog 5 #[.int .i64 0, .int .u32 s, .slice a 0 c, .int .u32 i] w (TrueKept w) := by
  obtain ⟨fr, hfr⟩ : ∃ fr, triedC 0 s i w.heap.size = fr := ⟨_, rfl⟩
  have hsz : fr.size = 14 := by rw [← hfr]; rfl
  have h1f : ∀ u ∈ fr.toList, u.oneCell' = true := by rw [← hfr]; exact tried_one _ _ _ _
  have hif : (Tryd.prog.info? 35).map (·.size) = some fr.size := by rw [hsz]; exact infoFs
  have hg : ∀ w, Calls Tryd.prog 18 #[.agg fr] w fun e w' => e = .returned (.agg fr) ∧ Below w.heap.size w w' := fun w => by rw [← hfr]; exact given_tried _ _ _ _ w
  have hs : vs s = false := by unfold vs; simp; omega
  have e0 : (s == 0) = false := by simp; omega
  have hw : ∀ (w1 : World) (bF : Nat), RS w1 bF vS vP vB → Calls Tryd.prog 36 #[.pointer (some ⟨bF, 0, none⟩), .agg fr, .slice none 0 0] w1 (Refuses w1) := fun w1 bF hr => by rw [← hfr]; exact write_data_ref hr s i _ h0 h1 hs
  go_enter Tryd.func5, Tryd.ntmps5
  go_wp2_with (refine wpList_store_blk rfl _ _ _ rfl (w.heap.size + 1) rfl fr _ (by rw [← hfr]; rfl) 35 (blk_at _ _ (by simp)) hsz hif h1f ?_; intro w1 hb1 hk1; have l1 : Below w.heap.size w w1 := (((Kept.refl (· < w.heap.size) w).alloc _).alloc _).trans (hk1.mono (fun k h _ => by omega)) |>.below (Nat.le_refl _))
  refine wp_loop_rounds 1 ?_
  rw [rounds_succ]
  go_wp2_with (first
    | (refine wpList_load_blk rfl _ _ rfl (w.heap.size + 1) rfl _ 35 hb1 Tryd.underlying35 hif ?_)
    | (go_at_call 18; refine (hg _).mono ?_; rintro e w2 ⟨rfl, l2⟩)
    | (go_at_call 17; rw [fold14 hsz _ rfl]; (refine (implWrite_nopad (((hE.below l1).below l2).below (below_one _ _)) w2.heap.size fr (blk_at _ _ rfl) hsz h1f (fun w1 hr _ => hw w1 _ hr)).mono ?_; rintro e w3 ⟨fv, rfl, l3, hrow⟩; obtain ⟨g, cap, rfl, hc⟩ := own_cell hrow 0 (.bool true) rfl)))
  go_ret
  exact ⟨rfl, Below.then (Below.then l1 (Nat.le_refl _) (l2.alloc l2.size _)) (Nat.le_refl _) l3⟩
set_option maxRecDepth 10000 in
set_option maxHeartbeats 8000000 in
theorem refused0_good  (s i : Int) (a : Option Addr) (c : Nat) (hs0 : s ≠ 0) (hs1 : ¬ 2147483647 < s) :
    Calls Tryd.prog 5 #[.int .i64 0, .int .u32 s, .slice a 0 c, .int .u32 i] w (TrueKept w) := by
  obtain ⟨fr, hfr⟩ : ∃ fr, triedC 0 s i w.heap.size = fr := ⟨_, rfl⟩
  have hsz : fr.size = 14 := by rw [← hfr]; rfl
  have h1f : ∀ u ∈ fr.toList, u.oneCell' = true := by rw [← hfr]; exact tried_one _ _ _ _
  have hif : (Tryd.prog.info? 35).map (·.size) = some fr.size := by rw [hsz]; exact infoFs
  have hg : ∀ w, Calls Tryd.prog 18 #[.agg fr] w fun e w' => e = .returned (.agg fr) ∧ Below w.heap.size w w' := fun w => by rw [← hfr]; exact given_tried _ _ _ _ w
  have e0 : (s == 0) = false := by simp [hs0]
  go_enter Tryd.func5, Tryd.ntmps5
  go_wp2_with (refine wpList_store_blk rfl _ _ _ rfl (w.heap.size + 1) rfl fr _ (by rw [← hfr]; rfl) 35 (blk_at _ _ (by simp)) hsz hif h1f ?_; intro w1 hb1 hk1; have l1 : Below w.heap.size w w1 := (((Kept.refl (· < w.heap.size) w).alloc _).alloc _).trans (hk1.mono (fun k h _ => by omega)) |>.below (Nat.le_refl _))
  refine wp_loop_rounds 1 ?_
  rw [rounds_succ]
  go_wp2_with (first
    | (refine wpList_load_blk rfl _ _ rfl (w.heap.size + 1) rfl _ 35 hb1 Tryd.underlying35 hif ?_)
    | (go_at_call 18; refine (hg _).mono ?_; rintro e w2 ⟨rfl, l2⟩)
    | (fail))
  go_ret
  exact ⟨rfl, l1⟩

theorem fnRefused_any (hE : EG w vS vP vB) (k s i : Int) (p : Value) (l : List Int) (hp : RdB w p l) (h0 : 0 ≤ s) (h1 : s < 4294967296) (hi : 0 ≤ i) : Calls Tryd.prog 5 #[.int .i64 k, .int .u32 s, p, .int .u32 i] w (TrueKept w) := by
  obtain ⟨a, c, hpe, -⟩ := id hp
  by_cases hn : 2147483647 < l.length
  · rw [hpe]; exact refused_long k s i a l.length c (by omega)
  have hn' : l.length ≤ 2147483647 := by omega
  by_cases k0 : k = 0
  · subst k0
    by_cases hl : 0 < l.length
    · obtain ⟨b, o, c', hpe', -⟩ := rd_cell hp hl
      rw [hpe'] at hp ⊢
      by_cases hs : s = 0
      · exact refused0_pada hE s i b o c' l hp hl hn' h0 h1 hs
      · exact refused0_padb hE s i b o c' l hp hl hn' h0 h1 hs
    · have hl0 : l.length = 0 := by omega
      rw [hpe, hl0]
      by_cases hs : s = 0
      · exact refused0_zero hE s i a c hs
      by_cases hb : 2147483647 < s
      · exact refused0_big hE s i a c h0 h1 hb
      · exact refused0_good s i a c hs hb
  rw [hpe]
  by_cases k1 : k = 1
  · subst k1
    by_cases hs : s = 0
    · exact refused1_zero hE s i a _ c hn' hs
    by_cases hb : 2147483647 < s
    · exact refused1_big hE s i a _ c hn' h0 h1 hb
    · exact refused1_good s i a _ c hn' hs hb
  by_cases k3 : k = 3
  · subst k3
    by_cases hs : s = 0
    · exact refused3_zero hE s i a _ c hn' hs
    by_cases hb : 2147483647 < s
    · exact refused3_big hE s i a _ c hn' h0 h1 hb
    · exact refused3_good s i a _ c hn' hs hb
  by_cases k5 : k = 5
  · subst k5
    by_cases hs : s = 0
    · exact refused5_zero hE s i a _ c hn' hs
    by_cases hb : 2147483647 < s
    · exact refused5_big hE s i a _ c hn' h0 h1 hb
    · exact refused5_good s i a _ c hn' hs hb
  by_cases k9 : k = 9
  · subst k9
    by_cases hs : s = 0
    · exact refused9_zero hE s i a _ c hn' hs
    by_cases hb : 2147483647 < s
    · exact refused9_big hE s i a _ c hn' h0 h1 hb
    · exact refused9_good s i a _ c hn' hs hb
  by_cases k2 : k = 2
  · subst k2
    by_cases hs : s = 0
    · exact refused2_zero hE s i a _ c hn' hs
    by_cases hb : 2147483647 < s
    · exact refused2_big hE s i a _ c hn' h0 h1 hb
    · exact refused2_good s i a _ c hn' hs hb
  by_cases k8 : k = 8
  · subst k8
    by_cases hs : s = 0
    · by_cases hz : i = 0
      · exact refused8_zeroa hE s i a _ c hn' hz hs
      by_cases hb : 2147483647 < i
      · exact refused8_biga hE s i a _ c hn' hi hb hs
      · exact refused8_gooda s i a _ c hn' hz hb hs
    · by_cases hz : i = 0
      · exact refused8_zerob hE s i a _ c hn' hz hs
      by_cases hb : 2147483647 < i
      · exact refused8_bigb hE s i a _ c hn' hi hb hs
      · exact refused8_goodb s i a _ c hn' hz hb hs
  exact refused_other k s i a _ c hn' (s == 0) rfl (by simp [k0]) (by simp [k1]) (by simp [k2]) (by simp [k3]) (by simp [k5]) (by simp [k8]) (by simp [k9])
end Go.Proofs.YtfdlbjibninakaaDoor
