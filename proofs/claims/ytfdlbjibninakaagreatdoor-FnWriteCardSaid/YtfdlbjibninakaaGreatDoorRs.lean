/- Rows of results, as calls leave them. -/
import Derived.Test.YtfdlbjibninakaaGreatDoorCf
set_option linter.unusedVariables false
set_option linter.unusedSimpArgs false
namespace Go.Proofs.YtfdlbjibninakaaGreatDoor
open Go.RowKit
theorem ERs : Elem Tryz.prog 23 31 17 128 (.agg (rsC 0 0 0 (frX Fr.zero (.slice none 0 0) (.slice none 0 0)))) := ⟨Tryz.underlying23, by kernel_rfl, rfl, by decide⟩
theorem rsC_at {w : World} {q : Nat} {f c s : Int} {fr : Array Value} {t : TypeId} (h : w.heap[q]? = some (.cells (rsC f c s fr) t (0, 0))) : ∀ j v, fr[j]? = some v → w.cell? ⟨q, 3 + j, none⟩ = some v := by
  intro j v hj
  rw [blk_cell h]
  unfold rsC
  rw [Array.getElem?_append_right (by simp)]
  simpa using hj
theorem rsC_012 {w : World} {q : Nat} {f c s : Int} {fr : Array Value} {t : TypeId} (h : w.heap[q]? = some (.cells (rsC f c s fr) t (0, 0))) : w.cell? ⟨q, 0, none⟩ = some (.int .i64 f) ∧ w.cell? ⟨q, 1, none⟩ = some (.int .u32 c) ∧ w.cell? ⟨q, 2, none⟩ = some (.int .u32 s) :=
  by
  refine ⟨(blk_cell h 0).trans ?_, (blk_cell h 1).trans ?_, (blk_cell h 2).trans ?_⟩ <;> (unfold rsC; rw [Array.getElem?_append_left (by simp)]; rfl)
theorem frX_one (x : Fr) (a b : Option Addr) (n c m d : Nat) : ∀ u ∈ (frX x (.slice a n c) (.slice b m d)).toList, u.oneCell' = true := by simp [frX, frameC, Value.oneCell']
theorem rsX_one (r : Rs) (a b : Option Addr) (n c m d : Nat) : ∀ u ∈ (rsX r (.slice a n c) (.slice b m d)).toList, u.oneCell' = true := by simp [rsX, rsC, frX, frameC, Value.oneCell']
theorem infoRX (r : Rs) (dv sv : Value) : (Tryz.prog.info? 65).map (·.size) = some (rsX r dv sv).size := infoRi
theorem infoRXs (r : Rs) (dv sv : Value) : (Tryz.prog.info? 31).map (·.size) = some (rsX r dv sv).size := infoRs
abbrev All : Nat → Prop := fun _ => True
theorem inK_all (v : Value) : inK All v := by
  cases v with
  | slice a n c => cases a with
    | none => trivial
    | some a => exact .inr trivial
  | _ => trivial
/-- A slice of results: its row of elements of type T. -/
def ResR (T : Nat) (w : World) (v : Value) (rs : List Rs) : Prop := ∃ xs, Row w T 17 v rs.length xs ∧ RsAll All w xs rs
/-- What a call leaves that makes a slice of results. -/
def ResEnd (T : Nat) (w : World) (rs : List Rs) (e : Ending) (w' : World) : Prop := ∃ v, e = .returned v ∧ Below w.heap.size w w' ∧ ResR T w' v rs ∧ Fresh w.heap.size v
theorem ResR.stay {T : Nat} {w w' : World} {v : Value} {rs : List Rs} (h : ResR T w v rs) (hb : Below w.heap.size w w') : ResR T w' v rs := by
  obtain ⟨xs, h1, h2⟩ := h
  exact ⟨xs, own_below h1 hb, h2.stay hb⟩
end Go.Proofs.YtfdlbjibninakaaGreatDoor
