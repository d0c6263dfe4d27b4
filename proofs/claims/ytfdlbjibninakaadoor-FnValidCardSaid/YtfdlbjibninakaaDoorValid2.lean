/- impl.Valid, and the law FnValid's own walk. -/
import Derived.Test.YtfdlbjibninakaaDoorValid
import Derived.Stop.IfaceNil
import Derived.BigQuiet
import Derived.Deep.QuietTactic
import Derived.Deep.RegionHeld3
namespace Go.Proofs.YtfdlbjibninakaaDoor
open Go.RowKit

theorem GV.drew {B : Nat} {w : World} {aE aU aT : Addr} (h : GV B w aE aU aT) : GV B w.drew aE aU aT := h.kept (K := fun _ => True) ((Kept.refl _ w).drew) (fun _ _ => trivial)
theorem faultV_code (f c s : Int) (w : World) : (Instr.field 54 (faultV f c s) 1).run Tryd.prog w = .ok (.int .u32 c) w := by
  unfold faultV
  kernel_rfl
theorem fault_vErr {B : Nat} {w : World} {aE aU aT : Addr} (h : GV B w aE aU aT) (c : Int) :
    Calls Tryd.prog 35 #[vErr c] w fun e w' => e = .returned (faultV (if c = 0 then 0 else 4) c 0) ∧ Below w.heap.size w w' := by
  unfold vErr
  by_cases hc : c = 0
  · subst hc; exact fault_nil w
  · rw [if_neg hc, if_neg hc]; exact fault_conn h c
set_option maxRecDepth 10000 in
set_option maxHeartbeats 4000000 in
theorem valid_impl {B : Nat} {w : World} {aE aU aT : Addr} (h : GV B w aE aU aT) (i v : Int) (hv : 0 ≤ v) (hi0 : 0 ≤ i) (hi1 : i ≤ 65535) :
    Calls Tryd.prog 14 #[.agg #[.int .i64 i, .int .u32 v]] w fun e w' => e = .returned (.tuple #[.bool (decide (vcode i v = 0)), .int .u32 (vcode i v)]) ∧ Below w.heap.size w w' := by
  have hw : IntKind.u16.wrap i = i := by
    have : (2 : Int) ^ 16 = 65536 := by decide
    simp [IntKind.wrap, IntKind.bits, IntKind.signed, this]
    omega
  have ff := faultV_code
  by_cases hc : vcode i v = 0
  · have hv0 : vErr (vcode i v) = .nilIface := by rw [hc]; rfl
    go_enter Tryd.func14, Tryd.ntmps14
    go_wp2_with (go_at_call 34; refine (valid_h2 i v _ hv).mono ?_; rw [hv0]; rintro e w1 ⟨rfl, b1⟩)
    go_region_with (go_at_call 35; refine (fault_nil _).mono ?_; rintro e w2 ⟨rfl, b2⟩)
    all_goals go_wp2
    all_goals go_ret2
    all_goals rw [hc]
    all_goals exact ⟨rfl, Below.then (Below.then (Below.one _ _) (Nat.le_refl _) b1) (by simp) (Below.undrew b2)⟩
  · have hv0 : vErr (vcode i v) = .iface 123 (.int .u32 (vcode i v)) := if_neg hc
    go_enter Tryd.func14, Tryd.ntmps14
    go_wp2_with (go_at_call 34; refine (valid_h2 i v _ hv).mono ?_; rw [hv0]; rintro e w1 ⟨rfl, b1⟩)
    go_region_with (go_at_call 35; refine (fault_conn (((h.alloc _).below b1).drew) _).mono ?_; rintro e w2 ⟨rfl, b2⟩)
    all_goals go_wp2
    all_goals go_ret2
    all_goals rw [decide_eq_false hc]
    all_goals exact ⟨rfl, Below.then (Below.then (Below.one _ _) (Nat.le_refl _) b1) (by simp) (Below.undrew b2)⟩
end Go.Proofs.YtfdlbjibninakaaDoor
