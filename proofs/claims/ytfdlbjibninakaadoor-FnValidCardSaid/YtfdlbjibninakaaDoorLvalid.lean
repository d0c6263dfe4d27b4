/- FnValid, the law's own walk. -/
import Derived.Test.YtfdlbjibninakaaDoorValid2
namespace Go.Proofs.YtfdlbjibninakaaDoor
open Go.RowKit

set_option maxRecDepth 10000 in
set_option maxHeartbeats 4000000 in
theorem wrong_any {B : Nat} {w : World} {aE aU aT : Addr} (h : GV B w aE aU aT) : Calls Tryd.prog 16 #[] w fun e w' => e = .returned (.bool false) ∧ Below w.heap.size w w' := by
  go_enter Tryd.func16, Tryd.ntmps16
  go_wp2_with (go_at_call 14; refine (valid_impl h 2 2 (by decide) (by decide) (by decide)).mono ?_; rintro e w1 ⟨rfl, b1⟩)
  go_ret
  exact ⟨rfl, b1⟩

set_option maxRecDepth 10000 in
set_option maxHeartbeats 4000000 in
theorem fnValid_any {B : Nat} {w : World} {aE aU aT : Addr} (h : GV B w aE aU aT) (i v : Int) (hv : 0 ≤ v) :
    Calls Tryd.prog 4 #[.int .i64 i, .int .u32 v] w fun e w' => e = .returned (.bool true) ∧ Below w.heap.size w w' := by
  by_cases h0 : i < 0
  · go_enter Tryd.func4, Tryd.ntmps4
    go_wp2_with fail
    go_ret
    exact ⟨rfl, Below.refl _ _⟩
  by_cases h1 : 65535 < i
  · go_enter Tryd.func4, Tryd.ntmps4
    go_wp2_with fail
    go_ret
    exact ⟨rfl, Below.refl _ _⟩
  by_cases h2 : i = 8
  · subst h2
    go_enter Tryd.func4, Tryd.ntmps4
    go_wp2_with fail
    go_ret
    exact ⟨rfl, Below.refl _ _⟩
  by_cases h3 : i = 9
  · subst h3
    go_enter Tryd.func4, Tryd.ntmps4
    go_wp2_with fail
    go_ret
    exact ⟨rfl, Below.refl _ _⟩
  have e8 : (i == 8) = false := by simp [h2]
  have e9 : (i == 9) = false := by simp [h3]
  generalize hc : vcode i v = c
  by_cases hc0 : c = 0
  · subst hc0
    go_enter Tryd.func4, Tryd.ntmps4
    go_wp2_with (first
      | (go_at_call 14; refine (valid_impl h i v hv (by omega) (by omega)).mono ?_; rw [hc]; rintro e w1 ⟨rfl, b1⟩)
      | (go_at_call 15; refine (valid_spec i v _ h2).mono ?_; rw [hc]; rintro e w2 ⟨rfl, b2⟩)
      | (go_at_call 16; refine (wrong_any ((h.below b1).below b2)).mono ?_; rintro e w3 ⟨rfl, b3⟩))
    go_ret
    exact ⟨rfl, Below.then (Below.then b1 (Nat.le_refl _) b2) (Nat.le_refl _) b3⟩
  · go_enter Tryd.func4, Tryd.ntmps4
    go_wp2_with (first
      | (go_at_call 14; refine (valid_impl h i v hv (by omega) (by omega)).mono ?_; rw [hc, decide_eq_false hc0]; rintro e w1 ⟨rfl, b1⟩)
      | (go_at_call 15; refine (valid_spec i v _ h2).mono ?_; rw [hc, decide_eq_false hc0]; rintro e w2 ⟨rfl, b2⟩)
      | (go_at_call 16; refine (wrong_any ((h.below b1).below b2)).mono ?_; rintro e w3 ⟨rfl, b3⟩))
    go_ret
    exact ⟨rfl, Below.then (Below.then b1 (Nat.le_refl _) b2) (Nat.le_refl _) b3⟩
end Go.Proofs.YtfdlbjibninakaaDoor
