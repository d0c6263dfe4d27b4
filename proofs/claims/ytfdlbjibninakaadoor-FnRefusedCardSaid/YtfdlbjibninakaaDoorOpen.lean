/- A law's argument that is a slice of integers, opened: it reads as a list. -/
import Derived.Test.YtfdlbjibninakaaDoorLaid
namespace Go.Proofs.YtfdlbjibninakaaDoor
open Go.ChangeShapes Go.WideShapes Go.RowKit

theorem open_rd {P : Program} {H : Type} {enc : TypeId × Value → H} {W : World} {base : Nat} {t e : TypeId} {k : IntKind} {v : Value} {d : DataW H} {p : List MemPlace} (ht : P.underlying t = some (.slice e)) (he : P.underlying e = some (.int k)) (hc : P.cellsOf e = 1)
    (hval : Value.okWide P W .any base t v) (h : DataW.Trod enc P W 0 (fun _ => true) true t v d p) : ∃ l, RdI k W v l ∧ ∀ x ∈ l, (Lit.int k x).wf = true := by
  obtain ⟨a0, len, cap, rfl⟩ := okWide_slice ht hval
  obtain ⟨fuel, hf⟩ := h
  rcases open_ints ht he hc hf with ⟨hcs, -⟩ | ⟨a, len', cap', zs, hcs, -, hle, hmax, hall, -, hcell, hwf⟩
  · simp [Value.cells] at hcs
    obtain ⟨rfl, rfl, rfl⟩ := hcs
    exact ⟨[], ⟨none, 0, rfl, Nat.le_refl _, Nat.zero_le _, fun j x hj => by simp at hj⟩, fun x hx => by cases hx⟩
  · simp [Value.cells] at hcs
    obtain ⟨rfl, rfl, rfl⟩ := hcs
    simp only [if_true] at hall
    refine ⟨zs.take len, ⟨some a, cap, ?_, ?_, hmax, ?_⟩, fun x hx => hwf x (List.mem_of_mem_take hx)⟩
    · rw [List.length_take, hall, Nat.min_eq_left hle]
    · rw [List.length_take, hall, Nat.min_eq_left hle]; exact hle
    · intro j x hj
      have hjl : j < len := by
        have := (List.getElem?_eq_some_iff.1 hj).1
        simp at this
        omega
      rw [List.getElem?_take_of_lt hjl] at hj
      obtain ⟨hjz, hjx⟩ := List.getElem?_eq_some_iff.1 hj
      obtain ⟨b, off, rfl, hc'⟩ := ints_at hcell (by omega)
      refine ⟨b, off, rfl, ?_⟩
      rw [hc' j hjz, ← hjx]
      simp [List.getD, hj, hjx]
end Go.Proofs.YtfdlbjibninakaaDoor
