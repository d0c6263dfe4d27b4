/- Maps: a look-up of a bool in a map of the call's own; what a set of keys holds. No Go function stands here. -/
import Derived.Test.YtfdlbjibninakaaDoorQBase
import Derived.Maps.OwnOps
import Derived.Maps.OwnSet
set_option linter.unusedVariables false
set_option linter.unusedSimpArgs false
namespace Go.Proofs.YtfdlbjibninakaaDoor
open Go.RowKit Go.Maps

theorem plainElem_bool_inv {H : Type} {P : Program} {e : TypeId} (he : P.underlying e = some .bool) {v : Value} {z : DataW H × List MemPlace} (h : plainElem P e v = some z) : ∃ x, v = .bool x ∧ z = (.lit (.bool x), []) := by
  unfold plainElem at h
  rw [he] at h
  cases v <;> simp at h
  exact ⟨_, rfl, h.symm⟩
theorem wpList_lookup_own_bool {H : Type} {P : Program} (w : World) {ops : Array Oper} {rest : List Oper} {o : Oper} {a : Act} {Q : Exit → Act → World → Prop}
    (hg : o.guard = none) (m x : Operand) (t : TypeId) (hop : o.op = Op.lookup t m x false)
    (k e : TypeId) (K : Keyed P k) (ht : P.underlying t = some (.map k e)) (he : P.underlying e = some .bool) (hz : (zeroValue e).run P w = .ok (.bool false) w) (b n : Nat) (D : DataW H)
    (hm : a.eval m = .map (some b)) (hown : w.ownsMap P k (plainElem P e) b n D) (key : Value) (kl : Lit) (hx : a.eval x = key) (hkey : keyOf P k key = some kl)
    (hK : ∀ c : Bool, D.atKey kl (.lit (.bool false)) = .lit (.bool c) → wpList P ops Q rest (a.put o.dst (.bool c)) w) :
    wpList P ops Q (o :: rest) a w := by
  refine wpList_plain hg fun K' hK' => ?_
  obtain ⟨v, ps, hrun, hv⟩ := hown.lookup K ht hz (plainElem_bool he false) hkey
  obtain ⟨c, rfl, hc⟩ := plainElem_bool_inv he hv
  simp only [Prod.mk.injEq] at hc
  unfold Oper.wp
  simp [execOp, hop, hm, hx, hrun, Result.andThen]
  exact hK' _ _ (hK c hc.1)
/-- A map literal's entry. -/
theorem wpList_insert_own {H : Type} {P : Program} (w : World) {ops : Array Oper} {rest : List Oper} {o : Oper} {a : Act} {Q : Exit → Act → World → Prop}
    (hg : o.guard = none) (m x v : Operand) (t : TypeId) (hop : o.op = Op.insert t m x v)
    (k e : TypeId) (K : Keyed P k) (ht : P.underlying t = some (.map k e)) (R : Value → Option (DataW H × List MemPlace)) (b n : Nat) (D : DataW H)
    (hm : a.eval m = .map (some b)) (hown : w.ownsMap P k R b n D) (hn : n < maxLen) (key val : Value) (kl : Lit) (hx : a.eval x = key) (hv : a.eval v = val) (hkey : keyOf P k key = some kl)
    (d : DataW H) (ps : List MemPlace) (hval : R val = some (d, ps))
    (hK : ∀ w', w'.ownsMap P k R b (n + 1) (D.put kl d) → w.grownBy w' (some b) → wpList P ops Q rest (a.put o.dst undef) w') :
    wpList P ops Q (o :: rest) a w := by
  refine wpList_plain hg fun K' hK' => ?_
  obtain ⟨w', hrun, r1, r2⟩ := hown.update K ht hn hkey hval
  unfold Oper.wp
  simp [execOp, hop, hm, hx, hv, hrun, Result.andThen]
  exact hK' _ _ (hK w' r1 r2)
theorem fold_at {H : Type} (u z : DataW H) (k : Lit) : ∀ (acc : List Lit) (m : DataW H), IsMap m → (∀ x ∈ acc, WideAt.IsKeyLit x) →
    (k ∈ acc → (acc.foldl (fun m x => m.put x u) m).atKey k z = u) ∧ (k ∉ acc → (acc.foldl (fun m x => m.put x u) m).atKey k z = m.atKey k z)
  | [], m, _, _ => ⟨fun h => (by cases h), fun _ => rfl⟩
  | x :: acc, m, hm, h => by
    obtain ⟨h1, h2⟩ := fold_at u z k acc (m.put x u) (hm.put x u) (fun y hy => h y (List.mem_cons_of_mem _ hy))
    rw [List.foldl_cons]
    refine ⟨fun hk => ?_, fun hk => ?_⟩
    · rcases Classical.em (k ∈ acc) with h3 | h3
      · exact h1 h3
      · have hx : k = x := by rcases List.mem_cons.1 hk with e | e; exact e; exact absurd e h3
        subst hx
        rw [h2 h3, atKey_put_same hm (h k (List.mem_cons_self ..))]
    · have h3 : k ∉ acc := fun e => hk (List.mem_cons_of_mem _ e)
      rw [h2 h3, atKey_put_other fun e => hk (by rw [e]; exact List.mem_cons_self ..)]
theorem setOf_at {H : Type} (u z : DataW H) (k : Lit) (acc : List Lit) (h : ∀ x ∈ acc, WideAt.IsKeyLit x) : (k ∈ acc → (setOf u acc).atKey k z = u) ∧ (k ∉ acc → (setOf u acc).atKey k z = z) := by
  have := fold_at u z k acc _ isMap_empty h
  exact ⟨this.1, fun hk => this.2 hk⟩
end Go.Proofs.YtfdlbjibninakaaDoor
