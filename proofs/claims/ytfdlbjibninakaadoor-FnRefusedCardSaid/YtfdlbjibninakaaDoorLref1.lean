/- FnRefused: the rest of the cases, and the join. -/
import Derived.Test.YtfdlbjibninakaaDoorLref0
namespace Go.Proofs.YtfdlbjibninakaaDoor
open Go.RowKit
variable {w : World} {vS vP vB : Value}
set_option maxRecDepth 10000 in
set_option maxHeartbeats 8000000 in
theorem refused_long (k s i : Int) (a : Option Addr) (n c : Nat) (hn : (2147483647 : Int) < n) : Calls Tryd.prog 5 #[.int .i64 k, .int .u32 s, .slice a n c, .int .u32 i] w (TrueKept w) := by
  go_enter Tryd.func5, Tryd.ntmps5
  go_wp2_with fail
  go_ret
  exact ⟨rfl, Below.refl _ _⟩
set_option maxRecDepth 10000 in
set_option maxHeartbeats 8000000 in
theorem refused_other (k s i : Int) (a : Option Addr) (n c : Nat) (hn : n ≤ 2147483647) (b : Bool) (hs : (s == 0) = b) (h0 : (k == 0) = false) (h1 : (k == 1) = false) (h2 : (k == 2) = false) (h3 : (k == 3) = false) (h5 : (k == 5) = false) (h8 : (k == 8) = false) (h9 : (k == 9) = false) :
    Calls Tryd.prog 5 #[.int .i64 k, .int .u32 s, .slice a n c, .int .u32 i] w (TrueKept w) := by
  have hn' : ¬ (2147483647 : Int) < n := by omega
  cases b
  · go_enter Tryd.func5, Tryd.ntmps5
    go_wp2_with (refine wpList_store_blk rfl _ _ _ rfl (w.heap.size + 1) rfl (triedC k s i w.heap.size) _ rfl 35 (blk_at _ _ (by simp)) rfl infoFs (tried_one _ _ _ _) ?_; intro w1 hb1 hk1; have l1 : Below w.heap.size w w1 := (((Kept.refl (· < w.heap.size) w).alloc _).alloc _).trans (hk1.mono (fun k h _ => by omega)) |>.below (Nat.le_refl _); clear hb1 hk1)
    go_ret
    exact ⟨rfl, l1⟩
  · go_enter Tryd.func5, Tryd.ntmps5
    go_wp2_with (refine wpList_store_blk rfl _ _ _ rfl (w.heap.size + 1) rfl (triedC k s i w.heap.size) _ rfl 35 (blk_at _ _ (by simp)) rfl infoFs (tried_one _ _ _ _) ?_; intro w1 hb1 hk1; have l1 : Below w.heap.size w w1 := (((Kept.refl (· < w.heap.size) w).alloc _).alloc _).trans (hk1.mono (fun k h _ => by omega)) |>.below (Nat.le_refl _); clear hb1 hk1)
    go_ret
    exact ⟨rfl, l1⟩
end Go.Proofs.YtfdlbjibninakaaDoor
