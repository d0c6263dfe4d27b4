/- Reading: the parsers of frames, each against the plain model (4: PRIORITY, PRIORITY_UPDATE, PING). -/
import Derived.Test.YtfdlbjibninakaaDoorPs2
set_option linter.unusedVariables false
set_option linter.unusedSimpArgs false
namespace Go.Proofs.YtfdlbjibninakaaDoor
open Go.RowKit

set_option maxRecDepth 10000 in
set_option maxHeartbeats 4000000 in
theorem parsePriority_any {B : Nat} {aE aU aT : Addr} {w : World} (_hV : GV B w aE aU aT) (ty fl ln st : Int) (_hf0 : 0 ≤ fl) (_hf1 : fl < 256) (a : Option Addr) (n c : Nat) (b : List Int) (h : RdB w (.slice a n c) b) (hb : Bs b) :
    Calls Tryd.prog 115 #[.pointer none, hdV ty fl ln st, cntV, .slice a n c] w (Parsed aU w (parsePriority ⟨ty, fl, ln, st⟩ b)) := by
  obtain ⟨hnb, hnc, hcm⟩ := h.len
  rw [← hnb] at hnc
  have HB := Lib.hid hnb
  clear hnb
  by_cases hst : st = 0
  · subst hst
    go_enter Tryd.func115, Tryd.ntmps115
    go_wp2_with (go_at_call 49; refine (count_any _ _).mono ?_; rintro e w' ⟨rfl, rfl⟩)
    go_ret2
    exact Parsed.connR rfl (((K0 w).alloc _).below (Nat.le_refl _))
  have hs : (st == 0) = false := beq_false_of_ne hst
  have hst := Lib.hid hst
  by_cases h5 : n = 5
  · subst h5
    have h4 : RdB w (.slice a 4 c) (b.take 4) := RdI.take h (by omega)
    have hs4 : ∀ w, (Instr.slice 23 (.slice a 5 c) none (some (.int .i64 4)) none).run Tryd.prog w = .ok (.slice a 4 c) w := fun w => run_to (m := 4) E5.sl E5s (by omega) w
    have hu := uint32_first (a := a) (c := c) hb (by have := HB.out; omega) (w.alloc (.cells #[.bool true, .int .u8 ty, .int .u8 fl, .int .u32 ln, .int .u32 st] 117)).drew (show RdB (w.alloc (.cells #[.bool true, .int .u8 ty, .int .u8 fl, .int .u32 ln, .int .u32 st] 117)) _ _ from h4.below (((K0 w).alloc _).below (Nat.le_refl _)))
    have hbd := n32_bounds hb 0
    obtain ⟨x, hx⟩ : ∃ x, n32 b 0 = x := ⟨_, rfl⟩
    rw [hx] at hu hbd
    have HX := Lib.hid hx
    clear hx
    have hand := u32_low x hbd.1 hbd.2
    obtain ⟨y, hy⟩ : ∃ y, x % 2147483648 = y := ⟨_, rfl⟩
    rw [hy] at hand
    have hne : (y != x) = decide (2147483648 ≤ x) := by
      rw [Bool.eq_iff_iff]
      simp only [bne_iff_ne, ne_eq, decide_eq_true_eq]
      omega
    have HY := Lib.hid hy
    clear hy
    have hinc : n31 b 0 = y := by unfold n31; rw [HX.out, HY.out]
    have HI := Lib.hid hinc
    clear hinc
    obtain ⟨ab, ao, rfl, c4⟩ := cell0 h (j := 4) (by omega)
    have k4 := cell_alloc (cell_alloc c4 (.cells #[.bool true, .int .u8 ty, .int .u8 fl, .int .u32 ln, .int .u32 st] 117)) (.cells #[] 224)
    clear c4
    obtain ⟨wt, hw⟩ : ∃ wt, gb b 4 = wt := ⟨_, rfl⟩
    rw [hw] at k4
    have HW := Lib.hid hw
    clear hw
    go_enter Tryd.func115, Tryd.ntmps115
    go_wp2_with (go_at_call 49; refine (count_any _ _).mono ?_; rintro e w' ⟨rfl, rfl⟩)
    go_region_with (go_at_call 107; refine hu.mono ?_; rintro e w' ⟨rfl, nq, rfl⟩)
    all_goals
      go_wp2
      go_region_with (fail)
      all_goals
        go_wp2
        go_ret2
        refine Parsed.ok (FrV.priority ⟨ty, fl, ln, st⟩ (w.heap.size + 1 + 1) y wt (decide (2147483648 ≤ x)) (by omega) (blk_at _ _ (by simp))) ?_ ?_
        · unfold parsePriority
          rw [if_neg hst.out, if_neg (by have := HB.out; omega), HI.out, HX.out, HW.out]
        · exact Kept.below (by repeat (first | exact K0 w | refine Kept.alloc ?_ _ | refine Kept.drawn ?_ _)) (Nat.le_refl _)
  have h5i : ((n : Int) != 5) = true := by simp; omega
  have h5 := Lib.hid h5
  go_enter Tryd.func115, Tryd.ntmps115
  go_wp2_with (go_at_call 49; refine (count_any _ _).mono ?_; rintro e w' ⟨rfl, rfl⟩)
  go_ret2
  exact Parsed.connR (by unfold parsePriority; rw [if_neg hst.out, if_pos (by have := HB.out; have := h5.out; omega)]) (((K0 w).alloc _).below (Nat.le_refl _))
set_option maxRecDepth 10000 in
set_option maxHeartbeats 4000000 in
theorem parseUpdate_any {B : Nat} {aE aU aT : Addr} {w : World} (_hV : GV B w aE aU aT) (ty fl ln st : Int) (_hf0 : 0 ≤ fl) (_hf1 : fl < 256) (a : Option Addr) (n c : Nat) (b : List Int) (h : RdB w (.slice a n c) b) (hb : Bs b) :
    Calls Tryd.prog 123 #[.pointer none, hdV ty fl ln st, cntV, .slice a n c] w (Parsed aU w (parseUpdate ⟨ty, fl, ln, st⟩ b)) := by
  obtain ⟨hnb, hnc, hcm⟩ := h.len
  rw [← hnb] at hnc
  have HB := Lib.hid hnb
  clear hnb
  by_cases hst : st = 0
  · subst hst
    by_cases h4 : n < 4
    · have h4i : (n : Int) < 4 := by omega
      have h4 := Lib.hid h4
      go_enter Tryd.func123, Tryd.ntmps123
      go_wp2_with (go_at_call 49; refine (count_any _ _).mono ?_; rintro e w' ⟨rfl, rfl⟩)
      go_ret2
      exact Parsed.connR (by unfold parseUpdate; rw [if_neg (by simp), if_pos (by have := HB.out; have := h4.out; omega)]) (((K0 w).alloc _).below (Nat.le_refl _))
    have h4i : ¬ (n : Int) < 4 := by omega
    have hge : 4 ≤ n := by omega
    have h4 : RdB w (.slice a 4 c) (b.take 4) := RdI.take h hge
    have hs4 : ∀ w, (Instr.slice 23 (.slice a n c) none (some (.int .i64 4)) none).run Tryd.prog w = .ok (.slice a 4 c) w := fun w => run_to (m := 4) E5.sl E5s (by omega) w
    have hs5 : ∀ w, (Instr.slice 23 (.slice a n c) (some (.int .i64 4)) none none).run Tryd.prog w = .ok (.slice (dropA 4 c a) (n - 4) (c - 4)) w := fun w => run_dropA (n := 4) E5.sl E5s hge w
    have hr5 := h.dropA (n := 4) (by have := HB.out; omega)
    have hu := uint32_first (a := a) (c := c) hb (by have := HB.out; omega) (w.alloc (.cells #[.bool true, .int .u8 ty, .int .u8 fl, .int .u32 ln, .int .u32 0] 117)).drew (show RdB (w.alloc (.cells #[.bool true, .int .u8 ty, .int .u8 fl, .int .u32 ln, .int .u32 0] 117)) _ _ from h4.below (((K0 w).alloc _).below (Nat.le_refl _)))
    have hbd := n32_bounds hb 0
    obtain ⟨x, hx⟩ : ∃ x, n32 b 0 = x := ⟨_, rfl⟩
    rw [hx] at hu hbd
    have HX := Lib.hid hx
    clear hx
    have hand := u32_low x hbd.1 hbd.2
    obtain ⟨y, hy⟩ : ∃ y, x % 2147483648 = y := ⟨_, rfl⟩
    rw [hy] at hand
    have hne : (y != x) = decide (2147483648 ≤ x) := by
      rw [Bool.eq_iff_iff]
      simp only [bne_iff_ne, ne_eq, decide_eq_true_eq]
      omega
    have HY := Lib.hid hy
    clear hy
    have hinc : n31 b 0 = y := by unfold n31; rw [HX.out, HY.out]
    have HI := Lib.hid hinc
    clear hinc
    have hcv : ∀ k, (convert 23 9 (.slice (dropA 4 c a) (n - 4) (c - 4))).run Tryd.prog (((w.alloc (.cells #[.bool true, .int .u8 ty, .int .u8 fl, .int .u32 ln, .int .u32 0] 117)).alloc (.cells #[] 224)).drewN k) = .ok (.string (strOfNums (b.drop 4))) (((w.alloc (.cells #[.bool true, .int .u8 ty, .int .u8 fl, .int .u32 ln, .int .u32 0] 117)).alloc (.cells #[] 224)).drewN k) := fun k => conv_rd (show RdB ((w.alloc (.cells #[.bool true, .int .u8 ty, .int .u8 fl, .int .u32 ln, .int .u32 0] 117)).alloc (.cells #[] 224)) _ _ from hr5.below ((((K0 w).alloc _).alloc _).below (Nat.le_refl _)))
    generalize dropA 4 c a = a1 at *
    obtain ⟨sb, hsb⟩ : ∃ sb, strOfNums (b.drop 4) = sb := ⟨_, rfl⟩
    simp only [hsb] at hcv
    have HS := Lib.hid hsb
    clear hsb
    by_cases hz : y = 0
    · subst hz
      go_enter Tryd.func123, Tryd.ntmps123
      go_wp2_with (go_at_call 49; refine (count_any _ _).mono ?_; rintro e w' ⟨rfl, rfl⟩)
      go_region_with (go_at_call 107; refine hu.mono ?_; rintro e w' ⟨rfl, nq, rfl⟩)
      all_goals
        go_wp2_with (go_at_call 49; refine (count_any _ _).mono ?_; rintro e w' ⟨rfl, rfl⟩)
        go_ret2
        refine Parsed.connR ?_ ?_
        · unfold parseUpdate
          rw [if_neg (by simp), if_neg (by have := HB.out; omega), HI.out]
          rfl
        · exact Kept.below (by repeat (first | exact K0 w | refine Kept.alloc ?_ _ | refine Kept.drawn ?_ _)) (Nat.le_refl _)
    have hzb : (y == 0) = false := beq_false_of_ne hz
    have hz := Lib.hid hz
    go_enter Tryd.func123, Tryd.ntmps123
    go_wp2_with (go_at_call 49; refine (count_any _ _).mono ?_; rintro e w' ⟨rfl, rfl⟩)
    go_region_with (go_at_call 107; refine hu.mono ?_; rintro e w' ⟨rfl, nq, rfl⟩)
    all_goals
      go_wp2
      go_region_with (fail)
      all_goals
        go_wp2
        go_ret2
        refine Parsed.ok (FrV.update ⟨ty, fl, ln, 0⟩ (b.drop 4) (w.heap.size + 1 + 1) y (by omega) (by rw [HS.out]; exact blk_at _ _ (by simp)) (by have := HB.out; unfold maxLen; rw [List.length_drop]; omega) (hb.drop 4)) ?_ ?_
        · unfold parseUpdate
          rw [if_neg (by simp), if_neg (by have := HB.out; omega), HI.out, if_neg hz.out]
        · exact Kept.below (by repeat (first | exact K0 w | refine Kept.alloc ?_ _ | refine Kept.drawn ?_ _)) (Nat.le_refl _)
  have hs : (st != 0) = true := by simp; exact hst
  have hst := Lib.hid hst
  go_enter Tryd.func123, Tryd.ntmps123
  go_wp2_with (go_at_call 49; refine (count_any _ _).mono ?_; rintro e w' ⟨rfl, rfl⟩)
  go_ret2
  exact Parsed.connR (by unfold parseUpdate; rw [if_pos hst.out]) (((K0 w).alloc _).below (Nat.le_refl _))
end Go.Proofs.YtfdlbjibninakaaDoor
