/- laws.reads: an empty SETTINGS frame is read. -/
import Derived.Test.YtfdlbjibninakaaDoorIr
set_option linter.unusedVariables false
set_option linter.unusedSimpArgs false
namespace Go.Proofs.YtfdlbjibninakaaDoor
open Go.RowKit
/-- One result of a row of results: where her cells lie. -/
theorem resR_at {T : Nat} {w : World} {va : Option Addr} {vc n : Nat} {rs : List Rs} (h : ResR T w (.slice va n vc) rs) {k : Nat} (hk : k < rs.length) : ∃ g dv sv, va = some ⟨g, 0, none⟩ ∧ RdB w dv rs[k].x.data ∧ RdP w sv rs[k].x.set ∧ ∀ j u, (rsX rs[k] dv sv)[j]? = some u → w.cell? ⟨g, k * 17 + j, none⟩ = some u := by
  obtain ⟨ys, hrow, hall⟩ := h
  obtain ⟨dv, sv, hd, -, hs, -, hx⟩ := hall.at (List.getElem?_eq_getElem hk)
  obtain ⟨g, c, e, -⟩ := own_cell hrow (k * 17) _ (hx 0 _ rfl)
  cases e
  refine ⟨g, dv, sv, rfl, hd, hs, fun j u hu => ?_⟩
  obtain ⟨g', c', e', hc⟩ := own_cell hrow _ _ (hx j u hu)
  cases e'
  exact hc
def rsRead : List Rs := [.ok { Fr.zero with ty := 4 }, .bad 1 0 0]
theorem readAll_reads : readAll 16777215 0 [0, 0, 0, 4, 0, 0, 0, 0, 0] = rsRead := by
  have e : one 16777215 0 [0, 0, 0, 4, 0, 0, 0, 0, 0] = (.ok { Fr.zero with ty := 4 }, 0, []) := rfl
  have e2 : one 16777215 0 [] = (.bad 1 0 0, 0, []) := rfl
  rw [readAll_go (by rw [e]; rfl), e, readAll_stop (by rw [e2]; rfl), e2]
  rfl
/-- What a law's helper leaves that answers true. -/
def YesEnd (w : World) (e : Ending) (w' : World) : Prop := e = .returned (.bool true) ∧ Below w.heap.size w w'
theorem rd9 (w : World) : RdB (w.alloc (.cells #[.int .u8 0, .int .u8 0, .int .u8 0, .int .u8 4, .int .u8 0, .int .u8 0, .int .u8 0, .int .u8 0, .int .u8 0] 5)) (.slice (some ⟨w.heap.size, 0, none⟩) 9 9) [0, 0, 0, 4, 0, 0, 0, 0, 0] := by
  refine ⟨_, 9, rfl, Nat.le_refl _, by unfold maxLen; omega, fun j x hj => ⟨w.heap.size, 0, rfl, ?_⟩⟩
  rw [Nat.zero_add, blk_cell (blk_new w _)]
  match j with
  | 0 => simp at hj; subst hj; rfl
  | 1 => simp at hj; subst hj; rfl
  | 2 => simp at hj; subst hj; rfl
  | 3 => simp at hj; subst hj; rfl
  | 4 => simp at hj; subst hj; rfl
  | 5 => simp at hj; subst hj; rfl
  | 6 => simp at hj; subst hj; rfl
  | 7 => simp at hj; subst hj; rfl
  | 8 => simp at hj; subst hj; rfl
  | j + 9 => simp at hj
set_option maxRecDepth 10000 in
set_option maxHeartbeats 4000000 in
theorem reads_any {B : Nat} {aE aU aT : Addr} {w : World} (hV : GV B w aE aU aT) (hB : B ≤ w.heap.size) : Calls Tryd.prog 28 #[] w (YesEnd w) := by
  have b1 : Below w.heap.size w (w.alloc (.cells #[.int .u8 0, .int .u8 0, .int .u8 0, .int .u8 4, .int .u8 0, .int .u8 0, .int .u8 0, .int .u8 0, .int .u8 0] 5)) := ((Kept.refl (· < w.heap.size) w).alloc _).below (Nat.le_refl _)
  have hr := implRead_any (pcs := .slice none 0 0) (ps := []) (hV.below b1) (by simp; omega) (rd9 w) ⟨none, 0, rfl, Nat.le_refl _, Nat.zero_le _, fun j x h => by simp at h⟩ (by intro x hx; simp at hx; omega) (by simp) 0 (by omega) (by omega)
  rw [mxOf_neg (by omega), readAll_reads] at hr
  go_enter Tryd.func28, Tryd.ntmps28
  go_wp2_with (go_at_call 24; refine hr.mono ?_; rintro e w1 ⟨v, rfl, hb1, hR, hf⟩; obtain ⟨va, vc, rfl, hvc, hvm⟩ := own_shape hR.choose_spec.1; obtain ⟨g, dv, sv, rfl, -, -, hx⟩ := resR_at hR (k := 0) (by decide); obtain ⟨g', dv', sv', eg, -, -, hx'⟩ := resR_at hR (k := 1) (by decide); cases eg; have c0 : w1.cell? ⟨g, 0, none⟩ = some (.int .i64 0) := hx 0 _ rfl; have c3 : w1.cell? ⟨g, 3, none⟩ = some (.int .i64 4) := hx 3 _ rfl; have c17 : w1.cell? ⟨g, 17, none⟩ = some (.int .i64 1) := hx' 0 _ rfl; clear hx hx' hR hf)
  go_ret
  exact ⟨rfl, Below.step b1 hb1⟩
end Go.Proofs.YtfdlbjibninakaaDoor
