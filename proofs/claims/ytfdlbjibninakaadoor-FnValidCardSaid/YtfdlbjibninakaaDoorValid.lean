/- Setting.Valid of the package and of the reference, and the law FnValid's own walk. -/
import Derived.Test.YtfdlbjibninakaaDoorFault
namespace Go.Proofs.YtfdlbjibninakaaDoor
open Go.RowKit

/-- The code of the fault of a setting, 0 if there is none. -/
def vcode (i v : Int) : Int :=
  if i = 2 then (if 1 < v then 1 else 0) else if i = 4 then (if 2147483647 < v then 3 else 0) else if i = 5 then (if v < 16384 ∨ 16777215 < v then 1 else 0) else if i = 8 then (if 1 < v then 1 else 0) else 0
def vErr (c : Int) : Value := if c = 0 then .nilIface else .iface 123 (.int .u32 c)
theorem Below.one (w : World) (o : Obj) : Below w.heap.size w (w.alloc o) := ((Kept.refl (· < w.heap.size) w).alloc o).below (Nat.le_refl _)

set_option maxRecDepth 10000 in
set_option maxHeartbeats 4000000 in
theorem valid_h2 (i v : Int) (w : World) (hv : 0 ≤ v) : Calls Tryd.prog 34 #[.agg #[.int .u16 i, .int .u32 v]] w fun e w' => e = .returned (vErr (vcode i v)) ∧ Below w.heap.size w w' := by
  by_cases h2 : i = 2
  · subst h2
    by_cases h : v = 1
    · subst h
      go_enter Tryd.func34, Tryd.ntmps34
      go_wp2_with fail
      go_ret
      exact ⟨rfl, Below.one _ _⟩
    by_cases h : v = 0
    · subst h
      go_enter Tryd.func34, Tryd.ntmps34
      go_wp2_with fail
      go_ret
      exact ⟨rfl, Below.one _ _⟩
    have hc : vcode 2 v = 1 := by unfold vcode; rw [if_pos rfl, if_pos (by omega)]
    rw [hc]
    have e1 : (v != 1) = true := by simp [*]
    have e0 : (v != 0) = true := by simp [*]
    go_enter Tryd.func34, Tryd.ntmps34
    go_wp2_with fail
    go_ret
    exact ⟨rfl, Below.one _ _⟩
  by_cases h4 : i = 4
  · subst h4
    by_cases h : 2147483647 < v
    · have hc : vcode 4 v = 3 := by unfold vcode; simp [h]
      rw [hc]
      go_enter Tryd.func34, Tryd.ntmps34
      go_wp2_with fail
      go_ret
      exact ⟨rfl, Below.one _ _⟩
    have hc : vcode 4 v = 0 := by unfold vcode; simp [h]
    rw [hc]
    go_enter Tryd.func34, Tryd.ntmps34
    go_wp2_with fail
    go_ret
    exact ⟨rfl, Below.one _ _⟩
  by_cases h5 : i = 5
  · subst h5
    by_cases h : v < 16384
    · have hc : vcode 5 v = 1 := by unfold vcode; simp [h]
      rw [hc]
      go_enter Tryd.func34, Tryd.ntmps34
      go_wp2_with fail
      go_ret
      exact ⟨rfl, Below.one _ _⟩
    by_cases g : 16777215 < v
    · have hc : vcode 5 v = 1 := by unfold vcode; simp [h, g]
      rw [hc]
      go_enter Tryd.func34, Tryd.ntmps34
      go_wp2_with fail
      go_ret
      exact ⟨rfl, Below.one _ _⟩
    have hc : vcode 5 v = 0 := by unfold vcode; simp [h, g]
    rw [hc]
    go_enter Tryd.func34, Tryd.ntmps34
    go_wp2_with fail
    go_ret
    exact ⟨rfl, Below.one _ _⟩
  by_cases h8 : i = 8
  · subst h8
    by_cases h : v = 1
    · subst h
      go_enter Tryd.func34, Tryd.ntmps34
      go_wp2_with fail
      go_ret
      exact ⟨rfl, Below.one _ _⟩
    by_cases h : v = 0
    · subst h
      go_enter Tryd.func34, Tryd.ntmps34
      go_wp2_with fail
      go_ret
      exact ⟨rfl, Below.one _ _⟩
    have hc : vcode 8 v = 1 := by unfold vcode; rw [if_neg (by decide), if_neg (by decide), if_neg (by decide), if_pos rfl, if_pos (by omega)]
    rw [hc]
    have e1 : (v != 1) = true := by simp [*]
    have e0 : (v != 0) = true := by simp [*]
    go_enter Tryd.func34, Tryd.ntmps34
    go_wp2_with fail
    go_ret
    exact ⟨rfl, Below.one _ _⟩
  have hc : vcode i v = 0 := by unfold vcode; simp [*]
  rw [hc]
  have e2 : (i == 2) = false := by simp [*]
  have e4 : (i == 4) = false := by simp [*]
  have e5 : (i == 5) = false := by simp [*]
  have e8 : (i == 8) = false := by simp [*]
  go_enter Tryd.func34, Tryd.ntmps34
  go_wp2_with fail
  go_ret
  exact ⟨rfl, Below.one _ _⟩
set_option maxRecDepth 10000 in
set_option maxHeartbeats 4000000 in
theorem valid_spec (i v : Int) (w : World) (h8 : i ≠ 8) : Calls Tryd.prog 15 #[.int .i64 i, .int .u32 v] w fun e w' => e = .returned (.tuple #[.bool (decide (vcode i v = 0)), .int .u32 (vcode i v)]) ∧ Below w.heap.size w w' := by
  by_cases h2 : i = 2
  · subst h2
    by_cases h : 1 < v
    · have hc : vcode 2 v = 1 := by unfold vcode; simp [h]
      rw [hc]
      go_enter Tryd.func15, Tryd.ntmps15
      go_wp2_with fail
      go_ret2
      exact ⟨rfl, Below.refl _ _⟩
    have hc : vcode 2 v = 0 := by unfold vcode; simp [h]
    rw [hc]
    go_enter Tryd.func15, Tryd.ntmps15
    go_wp2_with fail
    go_ret2
    exact ⟨rfl, Below.refl _ _⟩
  by_cases h4 : i = 4
  · subst h4
    by_cases h : 2147483647 < v
    · have hc : vcode 4 v = 3 := by unfold vcode; simp [h]
      rw [hc]
      go_enter Tryd.func15, Tryd.ntmps15
      go_wp2_with fail
      go_ret2
      exact ⟨rfl, Below.refl _ _⟩
    have hc : vcode 4 v = 0 := by unfold vcode; simp [h]
    rw [hc]
    go_enter Tryd.func15, Tryd.ntmps15
    go_wp2_with fail
    go_ret2
    exact ⟨rfl, Below.refl _ _⟩
  by_cases h5 : i = 5
  · subst h5
    by_cases h : v < 16384
    · have hc : vcode 5 v = 1 := by unfold vcode; simp [h]
      rw [hc]
      go_enter Tryd.func15, Tryd.ntmps15
      go_wp2_with fail
      go_ret2
      exact ⟨rfl, Below.refl _ _⟩
    by_cases g : 16777215 < v
    · have hc : vcode 5 v = 1 := by unfold vcode; simp [h, g]
      rw [hc]
      go_enter Tryd.func15, Tryd.ntmps15
      go_wp2_with fail
      go_ret2
      exact ⟨rfl, Below.refl _ _⟩
    have hc : vcode 5 v = 0 := by unfold vcode; simp [h, g]
    rw [hc]
    go_enter Tryd.func15, Tryd.ntmps15
    go_wp2_with fail
    go_ret2
    exact ⟨rfl, Below.refl _ _⟩
  have hc : vcode i v = 0 := by unfold vcode; simp [*]
  rw [hc]
  have e2 : (i == 2) = false := by simp [*]
  have e4 : (i == 4) = false := by simp [*]
  have e5 : (i == 5) = false := by simp [*]
  go_enter Tryd.func15, Tryd.ntmps15
  go_wp2_with fail
  go_ret2
  exact ⟨rfl, Below.refl _ _⟩
end Go.Proofs.YtfdlbjibninakaaDoor
