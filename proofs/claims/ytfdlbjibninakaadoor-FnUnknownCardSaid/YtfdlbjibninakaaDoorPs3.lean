/- Reading: the parsers of frames, each against the plain model (3: GOAWAY, PRIORITY). -/
import Derived.Test.YtfdlbjibninakaaDoorPs2
set_option linter.unusedVariables false
set_option linter.unusedSimpArgs false
namespace Go.Proofs.YtfdlbjibninakaaDoor
open Go.RowKit

theorem n32_mid (b : List Int) : n32 ((b.take 8).drop 4) 0 = n32 b 4 := by
  rw [n32_drop]
  unfold n32 gb
  simp only [List.getD_eq_getElem?_getD]
  rw [List.getElem?_take_of_lt (by omega), List.getElem?_take_of_lt (by omega), List.getElem?_take_of_lt (by omega), List.getElem?_take_of_lt (by omega)]
set_option maxRecDepth 10000 in
set_option maxHeartbeats 4000000 in
theorem parseGoAway_any {B : Nat} {aE aU aT : Addr} {w : World} (_hV : GV B w aE aU aT) (ty fl ln st : Int) (_hf0 : 0 ≤ fl) (_hf1 : fl < 256) (a : Option Addr) (n c : Nat) (b : List Int) (h : RdB w (.slice a n c) b) (hb : Bs b) :
    Calls Tryd.prog 120 #[.pointer none, hdV ty fl ln st, cntV, .slice a n c] w (Parsed aU w (parseGoAway ⟨ty, fl, ln, st⟩ b)) := by
  obtain ⟨hnb, hnc, hcm⟩ := h.len
  rw [← hnb] at hnc
  have HB := Lib.hid hnb
  clear hnb
  by_cases hst : st = 0
  · subst hst
    by_cases h8 : n < 8
    · have h8i : (n : Int) < 8 := by omega
      have h8 := Lib.hid h8
      go_enter Tryd.func120, Tryd.ntmps120
      go_wp2_with (go_at_call 49; refine (count_any _ _).mono ?_; rintro e w' ⟨rfl, rfl⟩)
      go_ret2
      exact Parsed.conn (by unfold parseGoAway; rw [if_neg (by simp), if_pos (by have := HB.out; have := h8.out; omega)]) (((K0 w).alloc _).below (Nat.le_refl _))
    have h8i : ¬ (n : Int) < 8 := by omega
    have hlen := HB.out
    have hm := slice_mid (n := 4) (m := 8) h E5.sl E5s (by omega) (by omega)
    obtain ⟨a2, c2, hs2, hr2, -⟩ := hm
    have hsB : ∀ w, (Instr.slice 23 (.slice a n c) (some (.int .i64 4)) (some (.int .i64 8)) none).run Tryd.prog w = .ok (.slice a2 4 c2) w := hs2
    clear hs2
    have hsA : ∀ w, (Instr.slice 23 (.slice a n c) none (some (.int .i64 4)) none).run Tryd.prog w = .ok (.slice a 4 c) w := fun w => run_to (m := 4) E5.sl E5s (by omega) w
    have hsC : ∀ w, (Instr.slice 23 (.slice a n c) (some (.int .i64 8)) none none).run Tryd.prog w = .ok (.slice (dropA 8 c a) (n - 8) (c - 8)) w := fun w => run_dropA (n := 8) E5.sl E5s (by omega) w
    have hrC := h.dropA (n := 8) (by omega)
    have h4 : RdB w (.slice a 4 c) (b.take 4) := RdI.take h (by omega)
    have uA := fun w h => uint32_first (a := a) (c := c) hb (by omega) w h
    have uB : ∀ w, RdB w (.slice a2 4 c2) ((b.take 8).drop 4) → Calls Tryd.prog 107 #[.agg #[], .slice a2 4 c2] w fun e w' => e = .returned (.int .u32 (n32 b 4)) ∧ ∃ n, (w.alloc (.cells #[] 224)).drewN n = w' := fun w h => by
      have := uint32_any h ((hb.take 8).drop 4) (by rw [List.length_drop, List.length_take]; omega)
      rwa [n32_mid] at this
    have hbd := n32_bounds hb 0
    have hand := u32_low (n32 b 0) hbd.1 hbd.2
    have e31 : n32 b 0 % 2147483648 = n31 b 0 := rfl
    rw [e31] at hand
    clear e31 hbd hlen
    have bH : Below w.heap.size w (w.alloc (.cells #[.bool true, .int .u8 ty, .int .u8 fl, .int .u32 ln, .int .u32 0] 117)) := (((K0 w).alloc _).below (Nat.le_refl _))
    have bE : Below w.heap.size w ((w.alloc (.cells #[.bool true, .int .u8 ty, .int .u8 fl, .int .u32 ln, .int .u32 0] 117)).alloc (.cells #[] 224)) := ((((K0 w).alloc _).alloc _).below (Nat.le_refl _))
    have uA1 := uA (w.alloc (.cells #[.bool true, .int .u8 ty, .int .u8 fl, .int .u32 ln, .int .u32 0] 117)).drew (show RdB (w.alloc (.cells #[.bool true, .int .u8 ty, .int .u8 fl, .int .u32 ln, .int .u32 0] 117)) _ _ from h4.below bH)
    have uB1 := uB (w.alloc (.cells #[.bool true, .int .u8 ty, .int .u8 fl, .int .u32 ln, .int .u32 0] 117)).drew (show RdB (w.alloc (.cells #[.bool true, .int .u8 ty, .int .u8 fl, .int .u32 ln, .int .u32 0] 117)) _ _ from hr2.below bH)
    have uA2 := fun k => uA (((w.alloc (.cells #[.bool true, .int .u8 ty, .int .u8 fl, .int .u32 ln, .int .u32 0] 117)).alloc (.cells #[] 224)).drewN k) (show RdB ((w.alloc (.cells #[.bool true, .int .u8 ty, .int .u8 fl, .int .u32 ln, .int .u32 0] 117)).alloc (.cells #[] 224)) _ _ from h4.below bE)
    have uB2 := fun k => uB (((w.alloc (.cells #[.bool true, .int .u8 ty, .int .u8 fl, .int .u32 ln, .int .u32 0] 117)).alloc (.cells #[] 224)).drewN k) (show RdB ((w.alloc (.cells #[.bool true, .int .u8 ty, .int .u8 fl, .int .u32 ln, .int .u32 0] 117)).alloc (.cells #[] 224)) _ _ from hr2.below bE)
    clear uA uB
    generalize dropA 8 c a = a3 at *
    obtain ⟨y0, hy0⟩ : ∃ y0, n31 b 0 = y0 := ⟨_, rfl⟩
    rw [hy0] at hand
    have HY := Lib.hid hy0
    clear hy0
    go_enter Tryd.func120, Tryd.ntmps120
    go_wp2_with (go_at_call 49; refine (count_any _ _).mono ?_; rintro e w' ⟨rfl, rfl⟩)
    go_region_held3 (fun w' => w'.cell? ⟨w.heap.size, 0, none⟩ = some (.bool true) ∧ w'.cell? ⟨w.heap.size, 1, none⟩ = some (.int .u8 ty) ∧ w'.cell? ⟨w.heap.size, 2, none⟩ = some (.int .u8 fl) ∧ w'.cell? ⟨w.heap.size, 3, none⟩ = some (.int .u32 ln) ∧ w'.cell? ⟨w.heap.size, 4, none⟩ = some (.int .u32 0)) (go_keep) ((first | (go_at_call 107; (with_reducible refine uA1.mono ?_); rintro e w' ⟨rfl, nq, rfl⟩) | (go_at_call 107; (with_reducible refine uB1.mono ?_); rintro e w' ⟨rfl, nq, rfl⟩) | (go_at_call 107; (with_reducible refine (uA2 _).mono ?_); rintro e w' ⟨rfl, nr, rfl⟩) | (go_at_call 107; (with_reducible refine (uB2 _).mono ?_); rintro e w' ⟨rfl, nr, rfl⟩)))
    all_goals
      go_wp2
      go_ret2
      refine Parsed.ok (FrV.goaway ⟨ty, fl, ln, 0⟩ (b.drop 8) (w.heap.size + 1 + 1 + 1) _ y0 (n32 b 4) (by omega) (blk_at _ _ (by simp)) (hrC.below ?_)) ?_ ?_
      · exact Kept.below (by repeat (first | exact K0 w | refine Kept.alloc ?_ _ | refine Kept.drawn ?_ _)) (Nat.le_refl _)
      · unfold parseGoAway
        rw [if_neg (by simp), if_neg (by have := HB.out; omega), HY.out]
      · exact Kept.below (by repeat (first | exact K0 w | refine Kept.alloc ?_ _ | refine Kept.drawn ?_ _)) (Nat.le_refl _)
  have hs : (st != 0) = true := by simp; exact hst
  have hst := Lib.hid hst
  go_enter Tryd.func120, Tryd.ntmps120
  go_wp2_with (go_at_call 49; refine (count_any _ _).mono ?_; rintro e w' ⟨rfl, rfl⟩)
  go_ret2
  exact Parsed.conn (by unfold parseGoAway; rw [if_pos hst.out]) (((K0 w).alloc _).below (Nat.le_refl _))
end Go.Proofs.YtfdlbjibninakaaDoor
