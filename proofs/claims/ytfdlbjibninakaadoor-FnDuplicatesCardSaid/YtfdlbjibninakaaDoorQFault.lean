/- The package-level variables that reading looks into, where errors.errorType is not among those laid; the errors that reading hands on. -/
import Derived.Test.YtfdlbjibninakaaDoorQBase2
import Derived.LaidEql
set_option linter.unusedVariables false
set_option linter.unusedSimpArgs false
namespace Go.Proofs.YtfdlbjibninakaaDoor
open Go.RowKit

/-- The package-level variables that reading looks into, as the program's text lays them: blocks below B. -/
structure GV (B : Nat) (w : World) (aE aU aT : Addr) : Prop where
  e : w.cell? ⟨0, 0, none⟩ = some (.iface 247 (.pointer (some aE)))
  u : w.cell? ⟨1, 0, none⟩ = some (.iface 247 (.pointer (some aU)))
  t : w.cell? ⟨2, 0, none⟩ = some (.iface 247 (.pointer (some aT)))
  et : True
  be : ∃ cs ty, w.heap[aE.block]? = some (.cells cs ty (0, 0))
  bu : ∃ cs ty, w.heap[aU.block]? = some (.cells cs ty (0, 0))
  bt : ∃ cs ty, w.heap[aT.block]? = some (.cells cs ty (0, 0))
  eu : aE ≠ aU
  et' : aE ≠ aT
  ut : aU ≠ aT
  ge : 11 ≤ B
  le : aE.block < B
  lu : aU.block < B
  lt : aT.block < B
theorem GV.kept {B : Nat} {w w' : World} {aE aU aT : Addr} {K : Nat → Prop} (h : GV B w aE aU aT) (hk : Kept K w w') (hK : ∀ k, k < B → K k) : GV B w' aE aU aT := by
  have hB := h.ge
  refine ⟨hk.cell (hK _ (by omega)) h.e, hk.cell (hK _ (by omega)) h.u, hk.cell (hK _ (by omega)) h.t, trivial, ?_, ?_, ?_, h.eu, h.et', h.ut, h.ge, h.le, h.lu, h.lt⟩
  · obtain ⟨cs, ty, hb⟩ := h.be; exact ⟨cs, ty, hk.at (hK _ h.le) hb⟩
  · obtain ⟨cs, ty, hb⟩ := h.bu; exact ⟨cs, ty, hk.at (hK _ h.lu) hb⟩
  · obtain ⟨cs, ty, hb⟩ := h.bt; exact ⟨cs, ty, hk.at (hK _ h.lt) hb⟩
theorem GV.below {B : Nat} {w w' : World} {aE aU aT : Addr} (h : GV B w aE aU aT) (hb : Below w.heap.size w w') : GV B w' aE aU aT := h.kept (K := fun _ => True) (Kept.all hb) (fun _ _ => trivial)
theorem GV.alloc {B : Nat} {w : World} {aE aU aT : Addr} (h : GV B w aE aU aT) (o : Obj) : GV B (w.alloc o) aE aU aT := h.kept (K := fun _ => True) ((Kept.refl _ w).alloc o) (fun _ _ => trivial)
/-- The error that is told as the fault f, with its code and its stream. -/
def errV (aE aU aT : Addr) (f c s : Int) : Value :=
  if f = 0 then .nilIface else if f = 1 then .iface 247 (.pointer (some aE)) else if f = 2 then .iface 247 (.pointer (some aU))
  else if f = 3 then .iface 247 (.pointer (some aT)) else if f = 4 then .iface 123 (.int .u32 c) else .iface 126 (.agg #[.int .u32 s, .int .u32 c, .nilIface])
theorem eql_same (t : Addr) (w : World) : (binOp .eql 75 (.iface 247 (.pointer (some t))) (.iface 247 (.pointer (some t)))).run Tryd.prog w = .ok (.bool true) w := by
  have hc : (Tryd.prog.info? 247).map (·.comparable) = some true := by kernel_rfl
  have hs : (Tryd.prog.info? 249).map (·.size) = some 1 := by kernel_rfl
  obtain ⟨i, hi, hc⟩ := Option.map_eq_some_iff.1 hc
  obtain ⟨j, hj, hs⟩ := Option.map_eq_some_iff.1 hs
  exact run_eql_iface_ptr_same w t Tryd.underlying75 Tryd.underlying247 hi hc hj
end Go.Proofs.YtfdlbjibninakaaDoor
