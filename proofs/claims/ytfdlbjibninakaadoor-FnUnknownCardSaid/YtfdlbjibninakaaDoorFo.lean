/- Reading: the order of frames; a framer's connection error. -/
import Derived.Test.YtfdlbjibninakaaDoorRfh
set_option linter.unusedVariables false
set_option linter.unusedSimpArgs false
namespace Go.Proofs.YtfdlbjibninakaaDoor
open Go.RowKit

theorem errorsNew_any (s : ByteArray) (w : World) : Calls Tryd.prog 100 #[.string s] w fun e w' => e = .returned (.iface 247 (.pointer (some ⟨w.heap.size, 0, none⟩))) ∧ w.alloc (.cells #[.string s] 249) = w' := by
  go_enter Tryd.func100, Tryd.ntmps100
  go_wp2
  go_ret
  exact ⟨rfl, rfl⟩
section
variable {w : World} {bF cl bR : Nat} {lf rb : Value} {o m : Int} {cs : Array Value}
/-- What a small change of the framer leaves. -/
def FEnd (w : World) (bF cl bR : Nat) (lf : Value) (o m : Int) (rb : Value) (w' : World) : Prop :=
  ∃ cs', w'.heap[bF]? = some (.cells cs' 99 (0, 0)) ∧ FS cs' cl bR lf o m rb ∧ Kept (· ≠ bF) w w'
theorem FEnd.from {w1 w' : World} (h : FEnd w1 bF cl bR lf o m rb w') (hk : Kept (· ≠ bF) w w1) : FEnd w bF cl bR lf o m rb w' := by
  obtain ⟨c, h1, h2, h3⟩ := h
  exact ⟨c, h1, h2, hk.trans h3⟩
theorem connError_any (hF : w.heap[bF]? = some (.cells cs 99 (0, 0))) (h : FS cs cl bR lf o m rb) (c : Int) (s : ByteArray) :
    Calls Tryd.prog 105 #[.pointer (some ⟨bF, 0, none⟩), .int .u32 c, .string s] w fun e w' => e = .returned (.iface 123 (.int .u32 c)) ∧ FEnd w bF cl bR lf o m rb w' := by
  obtain ⟨v2, hv2⟩ := h.some (i := 2) (by omega)
  have bF1 := blk_alloc (p := .cells #[.string s] 249) hF
  have k2 := (blk_cell bF1 2).trans hv2
  have f2 := blk_free bF1 2
  have hne : ¬ bF = w.heap.size := by have := lt_of_block hF; omega
  go_enter Tryd.func105, Tryd.ntmps105
  go_wp2_with (go_at_call 100; refine (errorsNew_any _ _).mono ?_; rintro e w' ⟨rfl, rfl⟩)
  go_ret
  exact ⟨rfl, _, blk_set bF1 2 _, h.set (.inl rfl) _, ((Kept.refl _ w).alloc _).setCell (fun h => absurd rfl h) _⟩

/-- What checkFrameOrder leaves. -/
def OrdEnd (w : World) (bF cl bR : Nat) (lf : Value) (o m : Int) (rb : Value) (h : Hd) (e : Ending) (w' : World) : Prop :=
  (ordBad o h = true ∧ e = .returned (.iface 123 (.int .u32 1)) ∧ FEnd w bF cl bR lf o m rb w') ∨ (ordBad o h = false ∧ e = .returned .nilIface ∧ FEnd w bF cl bR lf (nextO o h) m rb w')
set_option maxRecDepth 10000 in
set_option maxHeartbeats 8000000 in
theorem order_any (hF : w.heap[bF]? = some (.cells cs 99 (0, 0))) (h : FS cs cl bR lf o m rb) (ty fl ln st : Int) (hf0 : 0 ≤ fl) (hf1 : fl < 256) :
    Calls Tryd.prog 102 #[.pointer (some ⟨bF, 0, none⟩), hdV ty fl ln st] w (OrdEnd w bF cl bR lf o m rb ⟨ty, fl, ln, st⟩) := by
  obtain ⟨v5, hv5⟩ := h.some (i := 5) (by omega)
  have bF1 := blk_alloc (p := .cells #[.bool true, .int .u8 ty, .int .u8 fl, .int .u32 ln, .int .u32 st] 117) hF
  have bH1 := blk_new w (.cells #[.bool true, .int .u8 ty, .int .u8 fl, .int .u32 ln, .int .u32 st] 117)
  have hne : ¬ bF = w.heap.size := by have := lt_of_block hF; omega
  have hne2 : ¬ w.heap.size = bF := fun e => hne e.symm
  have k4 := (blk_cell bF1 4).trans h.c4
  have f4 := blk_free bF1 4
  have k5 := (blk_cell bF1 5).trans hv5
  have f5 := blk_free bF1 5
  have k22 := (blk_cell bF1 22).trans h.c22
  have kS : Kept (· ≠ bF) w ((w.alloc (.cells #[.bool true, .int .u8 ty, .int .u8 fl, .int .u32 ln, .int .u32 st] 117)).setCell ⟨bF, 5, none⟩ (.int .u8 ty)) := ((Kept.refl _ w).alloc _).setCell (fun h => absurd rfl h) _
  by_cases ho : o = 0
  · subst ho
    by_cases h9 : ty = 9
    · subst h9
      go_enter Tryd.func102, Tryd.ntmps102
      go_wp2_with (first | (go_at_call 105; refine (connError_any (cs := cs.setIfInBounds 5 (.int .u8 _)) (by first | exact blk_set bF1 5 _ | exact blk_drh (blk_set bF1 5 _) _) (h.set (.inr rfl) _) _ _).mono ?_; rintro e w' ⟨rfl, hend⟩) | (go_at_call 109; refine (has_any fl 4 (by simp) hf0 hf1 _).mono ?_; rintro e w' ⟨rfl, rfl⟩))
      go_ret
      exact .inl ⟨by unfold ordBad; rfl, rfl, hend.from (by first | exact kS | exact kS.drawn _)⟩
    have h9b : (ty == 9) = false := beq_false_of_ne h9
    have H9 := Lib.hid h9
    by_cases h1 : ty = 1
    · subst h1
      cases hbit : bitOf fl 4 with
      | true =>
        go_enter Tryd.func102, Tryd.ntmps102
        go_wp2_with (first | (go_at_call 105; refine (connError_any (cs := cs.setIfInBounds 5 (.int .u8 _)) (by first | exact blk_set bF1 5 _ | exact blk_drh (blk_set bF1 5 _) _) (h.set (.inr rfl) _) _ _).mono ?_; rintro e w' ⟨rfl, hend⟩) | (go_at_call 109; refine (has_any fl 4 (by simp) hf0 hf1 _).mono ?_; rintro e w' ⟨rfl, rfl⟩))
        go_ret
        refine .inr ⟨by unfold ordBad; rfl, rfl, ?_⟩
        unfold nextO
        simp only [true_or, if_true, hbit]
        exact ⟨_, by first | exact blk_set (blk_set bF1 5 _) 4 _ | exact blk_set (blk_drh (blk_set bF1 5 _) _) 4 _, (h.set (.inr rfl) _).setO _, by first | exact (((Kept.refl _ w).alloc _).setCell (fun h => absurd rfl h) _).setCell (fun h => absurd rfl h) _ | exact ((((Kept.refl _ w).alloc _).setCell (fun h => absurd rfl h) _).drawn _).setCell (fun h => absurd rfl h) _⟩
      | false =>
        go_enter Tryd.func102, Tryd.ntmps102
        go_wp2_with (first | (go_at_call 105; refine (connError_any (cs := cs.setIfInBounds 5 (.int .u8 _)) (by first | exact blk_set bF1 5 _ | exact blk_drh (blk_set bF1 5 _) _) (h.set (.inr rfl) _) _ _).mono ?_; rintro e w' ⟨rfl, hend⟩) | (go_at_call 109; refine (has_any fl 4 (by simp) hf0 hf1 _).mono ?_; rintro e w' ⟨rfl, rfl⟩))
        go_ret
        refine .inr ⟨by unfold ordBad; rfl, rfl, ?_⟩
        unfold nextO
        simp only [true_or, if_true, hbit, Bool.false_eq_true, if_false]
        exact ⟨_, by first | exact blk_set (blk_set bF1 5 _) 4 _ | exact blk_set (blk_drh (blk_set bF1 5 _) _) 4 _, (h.set (.inr rfl) _).setO _, by first | exact (((Kept.refl _ w).alloc _).setCell (fun h => absurd rfl h) _).setCell (fun h => absurd rfl h) _ | exact ((((Kept.refl _ w).alloc _).setCell (fun h => absurd rfl h) _).drawn _).setCell (fun h => absurd rfl h) _⟩
    have h1b : (ty == 1) = false := beq_false_of_ne h1
    have H1 := Lib.hid h1
    clear h1 h9
    go_enter Tryd.func102, Tryd.ntmps102
    go_wp2_with (first | (go_at_call 105; refine (connError_any (cs := cs.setIfInBounds 5 (.int .u8 _)) (by first | exact blk_set bF1 5 _ | exact blk_drh (blk_set bF1 5 _) _) (h.set (.inr rfl) _) _ _).mono ?_; rintro e w' ⟨rfl, hend⟩) | (go_at_call 109; refine (has_any fl 4 (by simp) hf0 hf1 _).mono ?_; rintro e w' ⟨rfl, rfl⟩))
    go_ret
    refine .inr ⟨by unfold ordBad; simpa using H9.out, rfl, ?_⟩
    unfold nextO
    rw [if_neg (by have := H9.out; have := H1.out; simp only; omega)]
    exact ⟨_, by first | exact blk_set bF1 5 _ | exact blk_set (blk_drh bF1 _) 5 _, h.set (.inr rfl) _, by first | exact (((Kept.refl _ w).alloc _).setCell (fun h => absurd rfl h) _) | exact (((Kept.refl _ w).alloc _).setCell (fun h => absurd rfl h) _).drawn _⟩
  have hob : (o != 0) = true := by simp; exact ho
  have HO := Lib.hid ho
  clear ho
  by_cases h9 : ty = 9
  · subst h9
    by_cases hso : st = o
    · subst hso
      have hsb : (st != st) = false := by simp
      cases hbit : bitOf fl 4 with
      | true =>
        go_enter Tryd.func102, Tryd.ntmps102
        go_wp2_with (first | (go_at_call 105; refine (connError_any (cs := cs.setIfInBounds 5 (.int .u8 _)) (by first | exact blk_set bF1 5 _ | exact blk_drh (blk_set bF1 5 _) _) (h.set (.inr rfl) _) _ _).mono ?_; rintro e w' ⟨rfl, hend⟩) | (go_at_call 109; refine (has_any fl 4 (by simp) hf0 hf1 _).mono ?_; rintro e w' ⟨rfl, rfl⟩))
        go_quiet (fail)
        go_wp2_with (first | (go_at_call 105; refine (connError_any (cs := cs.setIfInBounds 5 (.int .u8 _)) (by first | exact blk_set bF1 5 _ | exact blk_drh (blk_set bF1 5 _) _) (h.set (.inr rfl) _) _ _).mono ?_; rintro e w' ⟨rfl, hend⟩) | (go_at_call 109; refine (has_any fl 4 (by simp) hf0 hf1 _).mono ?_; rintro e w' ⟨rfl, rfl⟩))
        go_ret
        refine .inr ⟨by unfold ordBad; rw [if_neg HO.out]; simp, rfl, ?_⟩
        unfold nextO
        simp only [or_true, if_true, hbit]
        exact ⟨_, by first | exact blk_set (blk_set bF1 5 _) 4 _ | exact blk_set (blk_drh (blk_set bF1 5 _) _) 4 _, (h.set (.inr rfl) _).setO _, by first | exact (((Kept.refl _ w).alloc _).setCell (fun h => absurd rfl h) _).setCell (fun h => absurd rfl h) _ | exact ((((Kept.refl _ w).alloc _).setCell (fun h => absurd rfl h) _).drawn _).setCell (fun h => absurd rfl h) _⟩
      | false =>
        go_enter Tryd.func102, Tryd.ntmps102
        go_wp2_with (first | (go_at_call 105; refine (connError_any (cs := cs.setIfInBounds 5 (.int .u8 _)) (by first | exact blk_set bF1 5 _ | exact blk_drh (blk_set bF1 5 _) _) (h.set (.inr rfl) _) _ _).mono ?_; rintro e w' ⟨rfl, hend⟩) | (go_at_call 109; refine (has_any fl 4 (by simp) hf0 hf1 _).mono ?_; rintro e w' ⟨rfl, rfl⟩))
        go_quiet (fail)
        go_wp2_with (first | (go_at_call 105; refine (connError_any (cs := cs.setIfInBounds 5 (.int .u8 _)) (by first | exact blk_set bF1 5 _ | exact blk_drh (blk_set bF1 5 _) _) (h.set (.inr rfl) _) _ _).mono ?_; rintro e w' ⟨rfl, hend⟩) | (go_at_call 109; refine (has_any fl 4 (by simp) hf0 hf1 _).mono ?_; rintro e w' ⟨rfl, rfl⟩))
        go_ret
        refine .inr ⟨by unfold ordBad; rw [if_neg HO.out]; simp, rfl, ?_⟩
        unfold nextO
        simp only [or_true, if_true, hbit, Bool.false_eq_true, if_false]
        exact ⟨_, by first | exact blk_set (blk_set bF1 5 _) 4 _ | exact blk_set (blk_drh (blk_set bF1 5 _) _) 4 _, (h.set (.inr rfl) _).setO _, by first | exact (((Kept.refl _ w).alloc _).setCell (fun h => absurd rfl h) _).setCell (fun h => absurd rfl h) _ | exact ((((Kept.refl _ w).alloc _).setCell (fun h => absurd rfl h) _).drawn _).setCell (fun h => absurd rfl h) _⟩
    have hsb : (st != o) = true := by simp; exact hso
    have HS := Lib.hid hso
    clear hso
    go_enter Tryd.func102, Tryd.ntmps102
    go_wp2_with (first | (go_at_call 105; refine (connError_any (cs := cs.setIfInBounds 5 (.int .u8 _)) (by first | exact blk_set bF1 5 _ | exact blk_drh (blk_set bF1 5 _) _) (h.set (.inr rfl) _) _ _).mono ?_; rintro e w' ⟨rfl, hend⟩) | (go_at_call 109; refine (has_any fl 4 (by simp) hf0 hf1 _).mono ?_; rintro e w' ⟨rfl, rfl⟩))
    go_quiet (fail)
    go_wp2_with (first | (go_at_call 105; refine (connError_any (cs := cs.setIfInBounds 5 (.int .u8 _)) (by first | exact blk_set bF1 5 _ | exact blk_drh (blk_set bF1 5 _) _) (h.set (.inr rfl) _) _ _).mono ?_; rintro e w' ⟨rfl, hend⟩) | (go_at_call 109; refine (has_any fl 4 (by simp) hf0 hf1 _).mono ?_; rintro e w' ⟨rfl, rfl⟩))
    go_ret
    exact .inl ⟨by unfold ordBad; rw [if_neg HO.out]; simpa using HS.out, rfl, hend.from (by first | exact kS | exact kS.drawn _)⟩
  have h9b : (ty != 9) = true := by simp; exact h9
  have H9 := Lib.hid h9
  clear h9
  go_enter Tryd.func102, Tryd.ntmps102
  go_wp2_with (first | (go_at_call 105; refine (connError_any (cs := cs.setIfInBounds 5 (.int .u8 _)) (by first | exact blk_set bF1 5 _ | exact blk_drh (blk_set bF1 5 _) _) (h.set (.inr rfl) _) _ _).mono ?_; rintro e w' ⟨rfl, hend⟩) | (go_at_call 109; refine (has_any fl 4 (by simp) hf0 hf1 _).mono ?_; rintro e w' ⟨rfl, rfl⟩))
  go_ret
  exact .inl ⟨by unfold ordBad; rw [if_neg HO.out]; simp; exact .inl H9.out, rfl, hend.from (by first | exact kS | exact kS.drawn _)⟩
end
end Go.Proofs.YtfdlbjibninakaaDoor
