/- validStreamID, validStreamIDOrZero. -/
import Derived.Test.YtfdlbjibninakaaDoorBits
import Derived.Stop.IfaceNil
namespace Go.Proofs.YtfdlbjibninakaaDoor
open Go.RowKit

def vs (s : Int) : Bool := s != 0 && decide (s < 2147483648)
set_option maxRecDepth 10000 in
set_option maxHeartbeats 1000000 in
theorem validStreamID_any (s : Int) (w : World) (h0 : 0 ≤ s) (h1 : s < 4294967296) : Calls Tryd.prog 93 #[.int .u32 s] w fun e w' => e = .returned (.bool (vs s)) ∧ w = w' := by
  have hb := u32_top s h0 h1
  have hd : (bits .and .u32 s 2147483648 == 0) = decide (s < 2147483648) := by
    rw [hb]
    by_cases h : s < 2147483648
    · have : s / 2147483648 * 2147483648 = 0 := by omega
      simp [h, this]
    · have : s / 2147483648 * 2147483648 ≠ 0 := by omega
      simp [h, this]
  have hv : vs s = (s != 0 && (bits .and .u32 s 2147483648 == 0)) := by rw [hd]; rfl
  rw [hv]
  by_cases h : s = 0
  · subst h
    go_enter Tryd.func93, Tryd.ntmps93
    go_wp2_with fail
    go_ret
    exact ⟨rfl, rfl⟩
  have hn : (s != 0) = true := by simp [h]
  clear hb hd hv
  go_enter Tryd.func93, Tryd.ntmps93
  go_wp2_with fail
  go_ret
  exact ⟨by simp [h], rfl⟩
end Go.Proofs.YtfdlbjibninakaaDoor
