/- Reading: the parsers of frames, each against the plain model (2: unknown types, CONTINUATION, RST_STREAM, WINDOW_UPDATE, GOAWAY). -/
import Derived.Test.YtfdlbjibninakaaDoorPs
set_option linter.unusedVariables false
set_option linter.unusedSimpArgs false
namespace Go.Proofs.YtfdlbjibninakaaDoor
open Go.RowKit

theorem run_to {T e : Nat} {a : Option Addr} {n c m : Nat} (hT : Tryd.prog.underlying T = some (.slice e)) (he : (Tryd.prog.info? e).map (·.size) = some 1) (hm : m ≤ c) (w : World) :
    (Instr.slice T (.slice a n c) none (some (.int .i64 (m : Int))) none).run Tryd.prog w = .ok (.slice a m c) w := by
  obtain ⟨i, hi, hs⟩ := Option.map_eq_some_iff.1 he
  have hz : ∀ x : Addr, x.add 0 = x := fun x => by cases x; unfold Addr.add; split <;> simp_all
  simp [Instr.slice, run_underlying hT, Instr.sliceBounds, Instr.sliceBound, asIntOf, sizeOf, typeInfo, hi, hm]
  intro hc
  cases a <;> simp [hz]
theorem n32_take (b : List Int) (m : Nat) (hm : 4 ≤ m) : n32 (b.take m) 0 = n32 b 0 := by
  unfold n32 gb
  simp only [List.getD_eq_getElem?_getD]
  rw [List.getElem?_take_of_lt (by omega), List.getElem?_take_of_lt (by omega), List.getElem?_take_of_lt (by omega), List.getElem?_take_of_lt (by omega)]
theorem n32_drop (b : List Int) (m : Nat) : n32 (b.drop m) 0 = n32 b m := by
  unfold n32 gb
  simp only [List.getD_eq_getElem?_getD, List.getElem?_drop, Nat.add_zero, Nat.zero_add]
/-- Uint32 of the first four bytes. -/
theorem uint32_first {b : List Int} {a : Option Addr} {c : Nat} (hb : Bs b) (hl : 4 ≤ b.length) (w : World) (h : RdB w (.slice a 4 c) (b.take 4)) :
    Calls Tryd.prog 107 #[.agg #[], .slice a 4 c] w fun e w' => e = .returned (.int .u32 (n32 b 0)) ∧ ∃ n, (w.alloc (.cells #[] 224)).drewN n = w' := by
  have := uint32_any h (hb.take 4) (by rw [List.length_take]; omega)
  rwa [n32_take b 4 (Nat.le_refl _)] at this
theorem n32_bounds {b : List Int} (hb : Bs b) (j : Nat) : 0 ≤ n32 b j ∧ n32 b j < 4294967296 := by
  have h0 := hb.at j
  have h1 := hb.at (j + 1)
  have h2 := hb.at (j + 2)
  have h3 := hb.at (j + 3)
  unfold n32
  omega
set_option maxRecDepth 10000 in
set_option maxHeartbeats 4000000 in
theorem parseUnknown_any {B : Nat} {aE aU aT : Addr} {w : World} (_hV : GV B w aE aU aT) (ty fl ln st : Int) (_hf0 : 0 ≤ fl) (_hf1 : fl < 256) (a : Option Addr) (n c : Nat) (b : List Int) (h : RdB w (.slice a n c) b) (_hb : Bs b) :
    Calls Tryd.prog 124 #[.pointer none, hdV ty fl ln st, cntV, .slice a n c] w (Parsed aU w (parseUnknown ⟨ty, fl, ln, st⟩ b)) := by
  go_enter Tryd.func124, Tryd.ntmps124
  go_wp2
  go_ret2
  exact Parsed.ok (FrV.unknown ⟨ty, fl, ln, st⟩ b (w.heap.size + 1) _ (by omega) (blk_at _ _ (by simp)) (h.below ((((K0 w).alloc _).alloc _).below (Nat.le_refl _)))) rfl ((((K0 w).alloc _).alloc _).below (Nat.le_refl _))
set_option maxRecDepth 10000 in
set_option maxHeartbeats 4000000 in
theorem parseCont_any {B : Nat} {aE aU aT : Addr} {w : World} (_hV : GV B w aE aU aT) (ty fl ln st : Int) (_hf0 : 0 ≤ fl) (_hf1 : fl < 256) (a : Option Addr) (n c : Nat) (b : List Int) (h : RdB w (.slice a n c) b) (_hb : Bs b) :
    Calls Tryd.prog 122 #[.pointer none, hdV ty fl ln st, cntV, .slice a n c] w (Parsed aU w (parseCont ⟨ty, fl, ln, st⟩ b)) := by
  by_cases hst : st = 0
  · subst hst
    go_enter Tryd.func122, Tryd.ntmps122
    go_wp2_with (go_at_call 49; refine (count_any _ _).mono ?_; rintro e w' ⟨rfl, rfl⟩)
    go_ret2
    exact Parsed.connR rfl (((K0 w).alloc _).below (Nat.le_refl _))
  have hs : (st == 0) = false := beq_false_of_ne hst
  have hst := Lib.hid hst
  go_enter Tryd.func122, Tryd.ntmps122
  go_wp2_with (go_at_call 49; refine (count_any _ _).mono ?_; rintro e w' ⟨rfl, rfl⟩)
  go_ret2
  exact Parsed.ok (FrV.cont ⟨ty, fl, ln, st⟩ b (w.heap.size + 1) _ (by omega) (blk_at _ _ (by simp)) (h.below ((((K0 w).alloc _).alloc _).below (Nat.le_refl _)))) (by unfold parseCont; rw [if_neg hst.out]) ((((K0 w).alloc _).alloc _).below (Nat.le_refl _))
set_option maxRecDepth 10000 in
set_option maxHeartbeats 4000000 in
theorem parseRst_any {B : Nat} {aE aU aT : Addr} {w : World} (_hV : GV B w aE aU aT) (ty fl ln st : Int) (_hf0 : 0 ≤ fl) (_hf1 : fl < 256) (a : Option Addr) (n c : Nat) (b : List Int) (h : RdB w (.slice a n c) b) (hb : Bs b) :
    Calls Tryd.prog 116 #[.pointer none, hdV ty fl ln st, cntV, .slice a n c] w (Parsed aU w (parseRst ⟨ty, fl, ln, st⟩ b)) := by
  obtain ⟨hnb, hnc, hcm⟩ := h.len
  rw [← hnb] at hnc
  have HB := Lib.hid hnb
  clear hnb
  by_cases h4 : n = 4
  · subst h4
    by_cases hst : st = 0
    · subst hst
      go_enter Tryd.func116, Tryd.ntmps116
      go_wp2_with (go_at_call 49; refine (count_any _ _).mono ?_; rintro e w' ⟨rfl, rfl⟩)
      go_ret2
      exact Parsed.conn (by unfold parseRst; rw [if_neg (by have := HB.out; omega)]; rfl) (((K0 w).alloc _).below (Nat.le_refl _))
    have hs : (st == 0) = false := beq_false_of_ne hst
    have hst := Lib.hid hst
    have h4 : RdB w (.slice a 4 c) (b.take 4) := RdI.take h (Nat.le_refl _)
    have hs4 : ∀ w, (Instr.slice 23 (.slice a 4 c) none (some (.int .i64 4)) none).run Tryd.prog w = .ok (.slice a 4 c) w := fun w => run_to (m := 4) E5.sl E5s hnc w
    have hu := uint32_first (a := a) (c := c) hb (by have := HB.out; omega) (w.alloc (.cells #[.bool true, .int .u8 ty, .int .u8 fl, .int .u32 ln, .int .u32 st] 117)).drew (show RdB (w.alloc (.cells #[.bool true, .int .u8 ty, .int .u8 fl, .int .u32 ln, .int .u32 st] 117)) _ _ from h4.below (((K0 w).alloc _).below (Nat.le_refl _)))
    go_enter Tryd.func116, Tryd.ntmps116
    go_wp2_with (go_at_call 49; refine (count_any _ _).mono ?_; rintro e w' ⟨rfl, rfl⟩)
    go_region_held3 (fun w' => w'.cell? ⟨w.heap.size, 0, none⟩ = some (.bool true) ∧ w'.cell? ⟨w.heap.size, 1, none⟩ = some (.int .u8 ty) ∧ w'.cell? ⟨w.heap.size, 2, none⟩ = some (.int .u8 fl) ∧ w'.cell? ⟨w.heap.size, 3, none⟩ = some (.int .u32 ln) ∧ w'.cell? ⟨w.heap.size, 4, none⟩ = some (.int .u32 st)) (go_keep) ((go_at_call 107; refine hu.mono ?_; rintro e w' ⟨rfl, nq, rfl⟩))
    all_goals
      go_wp2
      go_ret2
      refine Parsed.ok (FrV.rst ⟨ty, fl, ln, st⟩ (w.heap.size + 1 + 1) _ (by omega) (blk_at _ _ (by simp))) ?_ ?_
      · unfold parseRst
        rw [if_neg (by have := HB.out; omega), if_neg hst.out]
      · exact (((((K0 w).alloc _).alloc _).alloc _).drawn _).below (Nat.le_refl _)
  have h4i : ((n : Int) != 4) = true := by simp; omega
  have h4 := Lib.hid h4
  go_enter Tryd.func116, Tryd.ntmps116
  go_wp2_with (go_at_call 49; refine (count_any _ _).mono ?_; rintro e w' ⟨rfl, rfl⟩)
  go_ret2
  exact Parsed.conn (by unfold parseRst; rw [if_pos (by have := HB.out; have := h4.out; omega)]) (((K0 w).alloc _).below (Nat.le_refl _))
set_option maxRecDepth 10000 in
set_option maxHeartbeats 4000000 in
theorem parseWindow_any {B : Nat} {aE aU aT : Addr} {w : World} (_hV : GV B w aE aU aT) (ty fl ln st : Int) (_hf0 : 0 ≤ fl) (_hf1 : fl < 256) (a : Option Addr) (n c : Nat) (b : List Int) (h : RdB w (.slice a n c) b) (hb : Bs b) :
    Calls Tryd.prog 121 #[.pointer none, hdV ty fl ln st, cntV, .slice a n c] w (Parsed aU w (parseWindow ⟨ty, fl, ln, st⟩ b)) := by
  obtain ⟨hnb, hnc, hcm⟩ := h.len
  rw [← hnb] at hnc
  have HB := Lib.hid hnb
  clear hnb
  by_cases h4 : n = 4
  · subst h4
    have h4 : RdB w (.slice a 4 c) (b.take 4) := RdI.take h (Nat.le_refl _)
    have hs4 : ∀ w, (Instr.slice 23 (.slice a 4 c) none (some (.int .i64 4)) none).run Tryd.prog w = .ok (.slice a 4 c) w := fun w => run_to (m := 4) E5.sl E5s hnc w
    have hu := uint32_first (a := a) (c := c) hb (by have := HB.out; omega) (w.alloc (.cells #[.bool true, .int .u8 ty, .int .u8 fl, .int .u32 ln, .int .u32 st] 117)).drew (show RdB (w.alloc (.cells #[.bool true, .int .u8 ty, .int .u8 fl, .int .u32 ln, .int .u32 st] 117)) _ _ from h4.below (((K0 w).alloc _).below (Nat.le_refl _)))
    have hbd := n32_bounds hb 0
    have hmod : ∃ x, n32 b 0 = x := ⟨_, rfl⟩
    obtain ⟨x, hx⟩ := hmod
    rw [hx] at hu hbd
    have HX := Lib.hid hx
    clear hx
    have hand := u32_low x hbd.1 hbd.2
    obtain ⟨y, hy⟩ : ∃ y, x % 2147483648 = y := ⟨_, rfl⟩
    rw [hy] at hand
    have HY := Lib.hid hy
    clear hy
    have hinc : n31 b 0 = y := by unfold n31; rw [HX.out, HY.out]
    have HI := Lib.hid hinc
    clear hinc
    by_cases hz : y = 0
    · subst hz
      by_cases hst : st = 0
      · subst hst
        go_enter Tryd.func121, Tryd.ntmps121
        go_wp2_with (go_at_call 49; refine (count_any _ _).mono ?_; rintro e w' ⟨rfl, rfl⟩)
        go_region_with (go_at_call 107; refine hu.mono ?_; rintro e w' ⟨rfl, nq, rfl⟩)
        all_goals
          go_wp2_with (go_at_call 49; refine (count_any _ _).mono ?_; rintro e w' ⟨rfl, rfl⟩)
          go_ret2
          refine Parsed.conn ?_ (((((K0 w).alloc _).alloc _).drawn _).below (Nat.le_refl _))
          unfold parseWindow
          rw [if_neg (by have := HB.out; omega), HI.out]
          rfl
      have hs : (st == 0) = false := beq_false_of_ne hst
      have hst := Lib.hid hst
      go_enter Tryd.func121, Tryd.ntmps121
      go_wp2_with (go_at_call 49; refine (count_any _ _).mono ?_; rintro e w' ⟨rfl, rfl⟩)
      go_region_with (go_at_call 107; refine hu.mono ?_; rintro e w' ⟨rfl, nq, rfl⟩)
      all_goals
        go_wp2_with (first | (go_at_call 49; refine (count_any _ _).mono ?_; rintro e w' ⟨rfl, rfl⟩) | (go_at_call 128; refine (streamError_any _ _ _).mono ?_; rintro e w' ⟨rfl, rfl⟩))
        go_ret2
        refine Parsed.stream ?_ ((((((K0 w).alloc _).alloc _).alloc _).drawn _).below (Nat.le_refl _))
        unfold parseWindow
        rw [if_neg (by have := HB.out; omega), HI.out, if_pos rfl, if_neg hst.out]
    have hzb : (y == 0) = false := beq_false_of_ne hz
    have hz := Lib.hid hz
    go_enter Tryd.func121, Tryd.ntmps121
    go_wp2_with (go_at_call 49; refine (count_any _ _).mono ?_; rintro e w' ⟨rfl, rfl⟩)
    go_region_with (go_at_call 107; refine hu.mono ?_; rintro e w' ⟨rfl, nq, rfl⟩)
    all_goals
      go_wp2
      go_ret2
      refine Parsed.ok (FrV.window ⟨ty, fl, ln, st⟩ (w.heap.size + 1 + 1) _ (by omega) (blk_at _ _ (by simp))) ?_ ?_
      · unfold parseWindow
        rw [if_neg (by have := HB.out; omega), HI.out, if_neg hz.out]
      · exact (((((K0 w).alloc _).alloc _).alloc _).drawn _).below (Nat.le_refl _)
  have h4i : ((n : Int) != 4) = true := by simp; omega
  have h4 := Lib.hid h4
  go_enter Tryd.func121, Tryd.ntmps121
  go_wp2_with (go_at_call 49; refine (count_any _ _).mono ?_; rintro e w' ⟨rfl, rfl⟩)
  go_ret2
  exact Parsed.conn (by unfold parseWindow; rw [if_pos (by have := HB.out; have := h4.out; omega)]) (((K0 w).alloc _).below (Nat.le_refl _))
end Go.Proofs.YtfdlbjibninakaaDoor
