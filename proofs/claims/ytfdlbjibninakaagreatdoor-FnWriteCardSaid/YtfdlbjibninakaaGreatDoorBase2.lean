/- More that all walks share: a struct stored whole, loaded whole, handed back out of its block. -/
import Derived.Test.YtfdlbjibninakaaGreatDoorBase
set_option linter.unusedVariables false
set_option linter.unusedSimpArgs false
namespace Go.Proofs.YtfdlbjibninakaaGreatDoor
open Go.RowKit

section
variable {P : Program} {ops : Array Oper} {rest : List Oper} {o : Oper} {a : Act} {Q : Exit → Act → World → Prop} {w : World}
/-- A struct stored whole into its block. -/
theorem wp_store_blk {K : Act → World → Prop} (T : TypeId) (x v : Operand) (ho : o.op = .store T x v) (g : Nat) (hx : a.eval x = .pointer (some ⟨g, 0, none⟩)) (cs old : Array Value) (hv : a.eval v = .agg cs) (t : TypeId)
    (hg : w.heap[g]? = some (.cells old t (0, 0))) (hsz : cs.size = old.size) (hi : (P.info? T).map (·.size) = some cs.size) (h1 : ∀ u ∈ cs.toList, u.oneCell' = true)
    (h : ∀ w', w'.heap[g]? = some (.cells cs t (0, 0)) → Kept (· ≠ g) w w' → K (a.put o.dst undef) w') : o.wp P a w K Q := by
  obtain ⟨i, hi, hs⟩ := Option.map_eq_some_iff.1 hi
  have hst := run_storeCells_at P g 0 t cs.toList 0 old w hg (by simp [hsz]) h1
  simp only [Nat.add_zero, List.take_zero, List.nil_append, Nat.zero_add] at hst
  have hd : old.toList.drop cs.toList.length = [] := List.drop_eq_nil_of_le (by simp [hsz])
  rw [hd, List.append_nil] at hst
  unfold Oper.wp execOp
  simp [ho, hx, hv, Instr.storeAt, Instr.sureAddr, storeVar, Value.cells, sizeOf, typeInfo, hi, hs, hst]
  exact h _ (by simpa using setRow_heap w g old cs t (0, 0) hg) ⟨rfl, rfl, rfl, by simp, fun k hk _ => setRow_other w g k _ hk⟩
theorem wpList_store_blk (hgd : o.guard = none) (T : TypeId) (x v : Operand) (ho : o.op = .store T x v) (g : Nat) (hx : a.eval x = .pointer (some ⟨g, 0, none⟩)) (cs old : Array Value) (hv : a.eval v = .agg cs) (t : TypeId)
    (hg : w.heap[g]? = some (.cells old t (0, 0))) (hsz : cs.size = old.size) (hi : (P.info? T).map (·.size) = some cs.size) (h1 : ∀ u ∈ cs.toList, u.oneCell' = true)
    (h : ∀ w', w'.heap[g]? = some (.cells cs t (0, 0)) → Kept (· ≠ g) w w' → wpList P ops Q rest (a.put o.dst undef) w') : wpList P ops Q (o :: rest) a w :=
  wpList_plain hgd fun _ hK => wp_store_blk T x v ho g hx cs old hv t hg hsz hi h1 fun w' h2 h3 => hK _ _ (h w' h2 h3)
/-- A struct loaded whole out of its block. -/
theorem wpList_load_blk (hgd : o.guard = none) (T : TypeId) (x : Operand) (ho : o.op = .load T x) (g : Nat) (hx : a.eval x = .pointer (some ⟨g, 0, none⟩)) (cs : Array Value) (t : TypeId) {fs : Array Field}
    (hg : w.heap[g]? = some (.cells cs t (0, 0))) (hu : P.underlying T = some (.struct fs)) (hi : (P.info? T).map (·.size) = some cs.size)
    (h : wpList P ops Q rest (a.put o.dst (.agg cs)) w) : wpList P ops Q (o :: rest) a w :=
  wpList_load_row hgd T x ho g hx t cs (0, 0) _ hg hu rfl hi h
end
/-- The function's one result lies in memory. -/
theorem ret_blk {P : Program} {fn : Func} {R : Ending → World → Prop} {a : Act} {w : World} {p : Tmp} {T : TypeId} (h : fn.results = #[.cell p T]) (g : Nat) (t : TypeId) (cs : Array Value) {fs : Array Field}
    (hp : a.tmps.getD p undef = .pointer (some ⟨g, 0, none⟩)) (hg : w.heap[g]? = some (.cells cs t (0, 0))) (hu : P.underlying T = some (.struct fs)) (hi : (P.info? T).map (·.size) = some cs.size) (hd : a.defers = [])
    (hR : R (.returned (.agg cs)) w) : bodyPost P fn R .ret a w :=
  bodyPost_ret (results_cell_row h _ w g t cs (0, 0) _ hp hg hu rfl hi) hd hR
end Go.Proofs.YtfdlbjibninakaaGreatDoor
