/- FnRefused at DATA frames: the padding's loop. -/
import Derived.Test.YtfdlbjibninakaaDoorLref
namespace Go.Proofs.YtfdlbjibninakaaDoor
open Go.RowKit
variable {w : World} {vS vP vB : Value}
theorem vs_b {s : Int} (hq : s ≠ 0) : vs s = !(decide (2147483647 < s)) := by
  have hq' : (s != 0) = true := by simp [hq]
  unfold vs
  rw [hq', Bool.true_and]
  by_cases h : 2147483647 < s
  · have h' : ¬ s < 2147483648 := by omega
    simp [h, h']
  · have h' : s < 2147483648 := by omega
    simp [h, h']
theorem bad_of {s : Int} {b0 : Bool} {l : List Int} (hv : vs s = !b0) (hy : (b0 || l.any (· != 0)) = true) : (vs s && !badPad l) = false := by
  rw [hv]
  unfold badPad
  cases b0
  · rw [Bool.false_or] at hy
    rw [hy]
    simp
  · simp
theorem bad_long {s : Int} {l : List Int} (h : (255 : Int) < l.length) : (vs s && !badPad l) = false := by
  have : badPad l = true := by
    unfold badPad
    have : 255 < l.length := by omega
    simp [this]
  rw [this]
  simp
theorem any_take (l : List Int) (k : Nat) (h : k < l.length) : (l.take (k + 1)).any (· != 0) = ((l.take k).any (· != 0) || l[k] != 0) := by
  rw [List.take_succ_eq_append_getElem h, List.any_append]
  simp
set_option maxRecDepth 10000 in
set_option maxHeartbeats 8000000 in
theorem refused0_pada (hE : EG w vS vP vB) (s i : Int) (b o c : Nat) (l : List Int) (hp : RdB w (.slice (some ⟨b, o, none⟩) l.length c) l) (hl : 0 < l.length) (hn : l.length ≤ 2147483647) (h0 : 0 ≤ s) (h1 : s < 4294967296) (hq : s = 0) :
    Calls Tryd.prog 5 #[.int .i64 0, .int .u32 s, .slice (some ⟨b, o, none⟩) l.length c, .int .u32 i] w (TrueKept w) := by
  obtain ⟨fr, hfr⟩ : ∃ fr, triedC 0 s i w.heap.size = fr := ⟨_, rfl⟩
  have hsz : fr.size = 14 := by rw [← hfr]; rfl
  have h1f : ∀ u ∈ fr.toList, u.oneCell' = true := by rw [← hfr]; exact tried_one _ _ _ _
  have hif : (Tryd.prog.info? 35).map (·.size) = some fr.size := by rw [hsz]; exact infoFs
  have hg : ∀ w, Calls Tryd.prog 18 #[.agg fr] w fun e w' => e = .returned (.agg fr) ∧ Below w.heap.size w w' := fun w => by rw [← hfr]; exact given_tried _ _ _ _ w
  have hw : (vs s && !badPad l) = false → ∀ (w1 : World) (bF : Nat), Below w.heap.size w w1 → RS w1 bF vS vP vB → Calls Tryd.prog 36 #[.pointer (some ⟨bF, 0, none⟩), .agg fr, .slice (some ⟨b, o, none⟩) l.length c] w1 (Refuses w1) :=
    fun hbad w1 bF hb hr => by rw [← hfr]; exact write_pad_ref hr s i _ h0 h1 b o l.length c l (hp.below hb) hl hbad
  have hn' : ¬ (2147483647 : Int) < l.length := by omega
  have hl' : (0 : Int) < l.length := by omega
  have hv : vs s = !(true) := by subst hq; rfl
  have es : (s == 0) = true := by simp [hq]
  clear hq
  go_enter Tryd.func5, Tryd.ntmps5
  go_wp2_with (refine wpList_store_blk rfl _ _ _ rfl (w.heap.size + 1) rfl fr _ (by rw [← hfr]; rfl) 35 (blk_at _ _ (by simp)) hsz hif h1f ?_; intro w1 hb1 hk1; have l1 : Below w.heap.size w w1 := (((Kept.refl (· < w.heap.size) w).alloc _).alloc _).trans (hk1.mono (fun k h _ => by omega)) |>.below (Nat.le_refl _))
  obtain ⟨b', o', c', hsl, hc1, hc2, hcell⟩ := rd_cell (hp.below l1) hl
  cases hsl
  go_loopw [9, 39] (fun x j wr => ∃ k : Nat, k ≤ l.length ∧ j = .int .i64 k ∧ x = .bool (true || (l.take k).any (· != 0)) ∧ w1 = wr) (fun _ j _ => l.length - (intOf j).toNat)
  case atStart => exact ⟨0, Nat.zero_le _, rfl, by simp, rfl⟩
  case round =>
    obtain ⟨k, hk, rfl, rfl, hwr⟩ := hrel
    subst hwr
    by_cases hlt : k < l.length
    · have hx := hcell k l[k] (by simp [hlt])
      have hst := any_take l k hlt
      generalize hy : (true || (l.take k).any (· != 0)) = y
      cases y
      · go_wp2_with fail
        go_roundw
        case rel =>
          refine ⟨k + 1, by omega, by go_num, ?_, trivial⟩
          rw [hst, ← Bool.or_assoc, hy]
          simp
        case measure => simp [intOf]; omega
      · go_wp2_with fail
        go_roundw
        case rel =>
          refine ⟨k + 1, by omega, by go_num, ?_, trivial⟩
          rw [hst, ← Bool.or_assoc, hy]
          simp
        case measure => simp [intOf]; omega
    · have hkl : k = l.length := by omega
      subst hkl
      rw [List.take_length]
      generalize hy : (true || l.any (· != 0)) = y
      cases y
      · by_cases h255 : (255 : Int) < l.length
        · have hbad : (vs s && !badPad l) = false := bad_long h255
          have hwb := hw hbad
          clear hw hbad hv hy
          go_wp2_with (first
    | (refine wpList_load_blk rfl _ _ rfl (w.heap.size + 1) rfl _ 35 (blk_alloc hb1) Tryd.underlying35 hif ?_)
    | (go_at_call 18; refine (hg _).mono ?_; rintro e w2 ⟨rfl, l2⟩)
    | (go_at_call 17; rw [fold14 hsz _ rfl]; (refine (implWrite_pad ((((hE.below l1).below (below_one _ _)).below l2).below (below_one _ _)) w2.heap.size w1.heap.size _ _ _ fr (blk_at _ _ rfl) hsz (blk_alloc (blk_below (blk_at w1 _ rfl) l2)) h1f (fun w4 hr hb => hwb w4 _ (Below.then (Below.then (Below.then (l1.alloc l1.size _) (by simp) l2) (Nat.le_refl _) (below_one _ _)) (Nat.le_refl _) hb) hr)).mono ?_; rintro e w3 ⟨fv, rfl, l3, hrow⟩; obtain ⟨g, cap, rfl, hc⟩ := own_cell hrow 0 (.bool true) rfl)))
          go_ret
          exact ⟨rfl, Below.then (Below.then (Below.then (l1.alloc l1.size _) (by simp) l2) (Nat.le_refl _) (below_one _ _)) (Nat.le_refl _) l3⟩
        · clear hw hv hy
          go_wp2_with fail
          go_ret
          exact ⟨rfl, l1⟩
      · have hbad : (vs s && !badPad l) = false := bad_of hv hy
        have hwb := hw hbad
        clear hw hbad hv hy
        go_wp2_with (first
    | (refine wpList_load_blk rfl _ _ rfl (w.heap.size + 1) rfl _ 35 (blk_alloc hb1) Tryd.underlying35 hif ?_)
    | (go_at_call 18; refine (hg _).mono ?_; rintro e w2 ⟨rfl, l2⟩)
    | (go_at_call 17; rw [fold14 hsz _ rfl]; (refine (implWrite_pad ((((hE.below l1).below (below_one _ _)).below l2).below (below_one _ _)) w2.heap.size w1.heap.size _ _ _ fr (blk_at _ _ rfl) hsz (blk_alloc (blk_below (blk_at w1 _ rfl) l2)) h1f (fun w4 hr hb => hwb w4 _ (Below.then (Below.then (Below.then (l1.alloc l1.size _) (by simp) l2) (Nat.le_refl _) (below_one _ _)) (Nat.le_refl _) hb) hr)).mono ?_; rintro e w3 ⟨fv, rfl, l3, hrow⟩; obtain ⟨g, cap, rfl, hc⟩ := own_cell hrow 0 (.bool true) rfl)))
        go_ret
        exact ⟨rfl, Below.then (Below.then (Below.then (l1.alloc l1.size _) (by simp) l2) (Nat.le_refl _) (below_one _ _)) (Nat.le_refl _) l3⟩
set_option maxRecDepth 10000 in
set_option maxHeartbeats 8000000 in
theorem refused0_padb (hE : EG w vS vP vB) (s i : Int) (b o c : Nat) (l : List Int) (hp : RdB w (.slice (some ⟨b, o, none⟩) l.length c) l) (hl : 0 < l.length) (hn : l.length ≤ 2147483647) (h0 : 0 ≤ s) (h1 : s < 4294967296) (hq : s ≠ 0) :
    Calls Tryd.prog 5 #[.int .i64 0, .int .u32 s, .slice (some ⟨b, o, none⟩) l.length c, .int .u32 i] w (TrueKept w) := by
  obtain ⟨fr, hfr⟩ : ∃ fr, triedC 0 s i w.heap.size = fr := ⟨_, rfl⟩
  have hsz : fr.size = 14 := by rw [← hfr]; rfl
  have h1f : ∀ u ∈ fr.toList, u.oneCell' = true := by rw [← hfr]; exact tried_one _ _ _ _
  have hif : (Tryd.prog.info? 35).map (·.size) = some fr.size := by rw [hsz]; exact infoFs
  have hg : ∀ w, Calls Tryd.prog 18 #[.agg fr] w fun e w' => e = .returned (.agg fr) ∧ Below w.heap.size w w' := fun w => by rw [← hfr]; exact given_tried _ _ _ _ w
  have hw : (vs s && !badPad l) = false → ∀ (w1 : World) (bF : Nat), Below w.heap.size w w1 → RS w1 bF vS vP vB → Calls Tryd.prog 36 #[.pointer (some ⟨bF, 0, none⟩), .agg fr, .slice (some ⟨b, o, none⟩) l.length c] w1 (Refuses w1) :=
    fun hbad w1 bF hb hr => by rw [← hfr]; exact write_pad_ref hr s i _ h0 h1 b o l.length c l (hp.below hb) hl hbad
  have hn' : ¬ (2147483647 : Int) < l.length := by omega
  have hl' : (0 : Int) < l.length := by omega
  have hv : vs s = !(decide (2147483647 < s)) := vs_b hq
  have es : (s == 0) = false := by simp [hq]
  go_enter Tryd.func5, Tryd.ntmps5
  go_wp2_with (refine wpList_store_blk rfl _ _ _ rfl (w.heap.size + 1) rfl fr _ (by rw [← hfr]; rfl) 35 (blk_at _ _ (by simp)) hsz hif h1f ?_; intro w1 hb1 hk1; have l1 : Below w.heap.size w w1 := (((Kept.refl (· < w.heap.size) w).alloc _).alloc _).trans (hk1.mono (fun k h _ => by omega)) |>.below (Nat.le_refl _))
  obtain ⟨b', o', c', hsl, hc1, hc2, hcell⟩ := rd_cell (hp.below l1) hl
  cases hsl
  go_loopw [9, 39] (fun x j wr => ∃ k : Nat, k ≤ l.length ∧ j = .int .i64 k ∧ x = .bool (decide (2147483647 < s) || (l.take k).any (· != 0)) ∧ w1 = wr) (fun _ j _ => l.length - (intOf j).toNat)
  case atStart => exact ⟨0, Nat.zero_le _, rfl, by simp, rfl⟩
  case round =>
    obtain ⟨k, hk, rfl, rfl, hwr⟩ := hrel
    subst hwr
    by_cases hlt : k < l.length
    · have hx := hcell k l[k] (by simp [hlt])
      have hst := any_take l k hlt
      generalize hy : (decide (2147483647 < s) || (l.take k).any (· != 0)) = y
      cases y
      · go_wp2_with fail
        go_roundw
        case rel =>
          refine ⟨k + 1, by omega, by go_num, ?_, trivial⟩
          rw [hst, ← Bool.or_assoc, hy]
          simp
        case measure => simp [intOf]; omega
      · go_wp2_with fail
        go_roundw
        case rel =>
          refine ⟨k + 1, by omega, by go_num, ?_, trivial⟩
          rw [hst, ← Bool.or_assoc, hy]
          simp
        case measure => simp [intOf]; omega
    · have hkl : k = l.length := by omega
      subst hkl
      rw [List.take_length]
      generalize hy : (decide (2147483647 < s) || l.any (· != 0)) = y
      cases y
      · by_cases h255 : (255 : Int) < l.length
        · have hbad : (vs s && !badPad l) = false := bad_long h255
          have hwb := hw hbad
          clear hw hbad hv hy
          go_wp2_with (first
    | (refine wpList_load_blk rfl _ _ rfl (w.heap.size + 1) rfl _ 35 (blk_alloc hb1) Tryd.underlying35 hif ?_)
    | (go_at_call 18; refine (hg _).mono ?_; rintro e w2 ⟨rfl, l2⟩)
    | (go_at_call 17; rw [fold14 hsz _ rfl]; (refine (implWrite_pad ((((hE.below l1).below (below_one _ _)).below l2).below (below_one _ _)) w2.heap.size w1.heap.size _ _ _ fr (blk_at _ _ rfl) hsz (blk_alloc (blk_below (blk_at w1 _ rfl) l2)) h1f (fun w4 hr hb => hwb w4 _ (Below.then (Below.then (Below.then (l1.alloc l1.size _) (by simp) l2) (Nat.le_refl _) (below_one _ _)) (Nat.le_refl _) hb) hr)).mono ?_; rintro e w3 ⟨fv, rfl, l3, hrow⟩; obtain ⟨g, cap, rfl, hc⟩ := own_cell hrow 0 (.bool true) rfl)))
          go_ret
          exact ⟨rfl, Below.then (Below.then (Below.then (l1.alloc l1.size _) (by simp) l2) (Nat.le_refl _) (below_one _ _)) (Nat.le_refl _) l3⟩
        · clear hw hv hy
          go_wp2_with fail
          go_ret
          exact ⟨rfl, l1⟩
      · have hbad : (vs s && !badPad l) = false := bad_of hv hy
        have hwb := hw hbad
        clear hw hbad hv hy
        go_wp2_with (first
    | (refine wpList_load_blk rfl _ _ rfl (w.heap.size + 1) rfl _ 35 (blk_alloc hb1) Tryd.underlying35 hif ?_)
    | (go_at_call 18; refine (hg _).mono ?_; rintro e w2 ⟨rfl, l2⟩)
    | (go_at_call 17; rw [fold14 hsz _ rfl]; (refine (implWrite_pad ((((hE.below l1).below (below_one _ _)).below l2).below (below_one _ _)) w2.heap.size w1.heap.size _ _ _ fr (blk_at _ _ rfl) hsz (blk_alloc (blk_below (blk_at w1 _ rfl) l2)) h1f (fun w4 hr hb => hwb w4 _ (Below.then (Below.then (Below.then (l1.alloc l1.size _) (by simp) l2) (Nat.le_refl _) (below_one _ _)) (Nat.le_refl _) hb) hr)).mono ?_; rintro e w3 ⟨fv, rfl, l3, hrow⟩; obtain ⟨g, cap, rfl, hc⟩ := own_cell hrow 0 (.bool true) rfl)))
        go_ret
        exact ⟨rfl, Below.then (Below.then (Below.then (l1.alloc l1.size _) (by simp) l2) (Nat.le_refl _) (below_one _ _)) (Nat.le_refl _) l3⟩
end Go.Proofs.YtfdlbjibninakaaDoor
