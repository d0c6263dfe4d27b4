/- FnHeaderBytes, the law's own walk. -/
import Derived.Test.YtfdlbjibninakaaDoorHb
namespace Go.Proofs.YtfdlbjibninakaaDoor
open Go.RowKit

set_option maxRecDepth 10000 in
set_option maxHeartbeats 1600000 in
theorem fnHeaderBytes_in (n : Nat) (k f s : Int) (w : World) (hn : n ≤ 65536) (hk0 : 0 ≤ k) (hk1 : k ≤ 255) (hf0 : 0 ≤ f) (hf1 : f ≤ 255) (hs0 : 0 ≤ s) (hs1 : s ≤ 2147483647) :
    Calls Tryd.prog 3 #[.int .i64 (n : Int), .int .i64 k, .int .i64 f, .int .u32 s] w fun e w' => e = .returned (.bool true) ∧ Below w.heap.size w w' := by
  have hn1 : ¬ (65536 : Int) < (n : Int) := by omega
  go_enter Tryd.func3, Tryd.ntmps3
  go_wp2_with fail
  go_region_with
    (first
      | (go_at_call 12; refine (headerBytesI_any n k f s _ hn hk0 (by omega) hf0 (by omega) hs0 (by omega)).mono ?_; rintro e w1 ⟨r1, rfl, b1, h1⟩; have c1 := conv_rd h1)
      | (go_at_call 13; refine (headerBytesS_any n k f s _ (by omega) (by omega) hk0 (by omega) hf0 (by omega) hs0 (by omega)).mono ?_; rintro e w2 ⟨r2, rfl, b2, o2, f2⟩; have c2 := conv_rd (rd_of_row o2); have c3 := conv_rd (h1.below b2)))
  all_goals go_wp2
  all_goals go_ret
  all_goals exact ⟨rfl, Below.then (Below.undrew b1) (Nat.le_refl _) b2⟩

set_option maxRecDepth 10000 in
set_option maxHeartbeats 1600000 in
theorem fnHeaderBytes_any (l k f s : Int) (w : World) (hs0 : 0 ≤ s) : Calls Tryd.prog 3 #[.int .i64 l, .int .i64 k, .int .i64 f, .int .u32 s] w fun e w' => e = .returned (.bool true) ∧ Below w.heap.size w w' := by
  by_cases h1 : l < 0
  · go_enter Tryd.func3, Tryd.ntmps3
    go_wp2_with fail
    go_ret
    exact ⟨rfl, Below.refl _ _⟩
  by_cases h2 : 65536 < l
  · go_enter Tryd.func3, Tryd.ntmps3
    go_wp2_with fail
    go_ret
    exact ⟨rfl, Below.refl _ _⟩
  by_cases h3 : k < 0
  · go_enter Tryd.func3, Tryd.ntmps3
    go_wp2_with fail
    go_ret
    exact ⟨rfl, Below.refl _ _⟩
  by_cases h4 : 255 < k
  · go_enter Tryd.func3, Tryd.ntmps3
    go_wp2_with fail
    go_ret
    exact ⟨rfl, Below.refl _ _⟩
  by_cases h5 : f < 0
  · go_enter Tryd.func3, Tryd.ntmps3
    go_wp2_with fail
    go_ret
    exact ⟨rfl, Below.refl _ _⟩
  by_cases h6 : 255 < f
  · go_enter Tryd.func3, Tryd.ntmps3
    go_wp2_with fail
    go_ret
    exact ⟨rfl, Below.refl _ _⟩
  by_cases h7 : 2147483647 < s
  · go_enter Tryd.func3, Tryd.ntmps3
    go_wp2_with fail
    go_ret
    exact ⟨rfl, Below.refl _ _⟩
  obtain ⟨n, rfl⟩ := Int.eq_ofNat_of_zero_le (Int.not_lt.1 h1)
  exact fnHeaderBytes_in n k f s w (by omega) (by omega) (by omega) (by omega) (by omega) hs0 (by omega)
end Go.Proofs.YtfdlbjibninakaaDoor
