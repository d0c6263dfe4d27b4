/- Reading: the whole state of a framer that reads, and what each change leaves of it. -/
import Derived.Test.YtfdlbjibninakaaGreatDoorRfh
set_option linter.unusedVariables false
set_option linter.unusedSimpArgs false
namespace Go.Proofs.YtfdlbjibninakaaGreatDoor
open Go.RowKit

theorem errorsNew_any (s : ByteArray) (w : World) : Calls Tryz.prog 106 #[.string s] w fun e w' => e = .returned (.iface 251 (.pointer (some ⟨w.heap.size, 0, none⟩))) ∧ w.alloc (.cells #[.string s] 253) = w' := by
  go_enter Tryz.func106, Tryz.ntmps106
  go_wp2
  go_ret
  exact ⟨rfl, rfl⟩
section
variable {w : World} {bF cl bR : Nat} {lf rb : Value} {o m : Int} {cs : Array Value}
/-- What a small change of the framer leaves. -/
def FEnd (w : World) (bF cl bR : Nat) (lf : Value) (o m : Int) (rb : Value) (w' : World) : Prop :=
  ∃ cs', w'.heap[bF]? = some (.cells cs' 86 (0, 0)) ∧ FS cs' cl bR lf o m rb ∧ Kept (· ≠ bF) w w'
theorem FEnd.from {w1 w' : World} (h : FEnd w1 bF cl bR lf o m rb w') (hk : Kept (· ≠ bF) w w1) : FEnd w bF cl bR lf o m rb w' := by
  obtain ⟨c, h1, h2, h3⟩ := h
  exact ⟨c, h1, h2, hk.trans h3⟩
theorem connError_any (hF : w.heap[bF]? = some (.cells cs 86 (0, 0))) (h : FS cs cl bR lf o m rb) (c : Int) (s : ByteArray) :
    Calls Tryz.prog 84 #[.pointer (some ⟨bF, 0, none⟩), .int .u32 c, .string s] w fun e w' => e = .returned (.iface 117 (.int .u32 c)) ∧ FEnd w bF cl bR lf o m rb w' := by
  obtain ⟨v2, hv2⟩ := h.some (i := 2) (by omega)
  have bF1 := blk_alloc (p := .cells #[.string s] 253) hF
  have k2 := (blk_cell bF1 2).trans hv2
  have f2 := blk_free bF1 2
  have hne : ¬ bF = w.heap.size := by have := lt_of_block hF; omega
  go_enter Tryz.func84, Tryz.ntmps84
  go_wp2_with (go_at_call 106; refine (errorsNew_any _ _).mono ?_; rintro e w' ⟨rfl, rfl⟩)
  go_ret
  exact ⟨rfl, _, blk_set bF1 2 _, h.set (.inl rfl) _, ((Kept.refl _ w).alloc _).setCell (fun h => absurd rfl h) _⟩

/-- What checkFrameOrder leaves. -/
def OrdEnd (w : World) (bF cl bR : Nat) (lf : Value) (o m : Int) (rb : Value) (h : Hd) (e : Ending) (w' : World) : Prop :=
  (ordBad o h = true ∧ e = .returned (.iface 117 (.int .u32 1)) ∧ FEnd w bF cl bR lf o m rb w') ∨ (ordBad o h = false ∧ e = .returned .nilIface ∧ FEnd w bF cl bR lf (nextO o h) m rb w')
set_option maxRecDepth 10000 in
set_option maxHeartbeats 8000000 in
theorem order_any (hF : w.heap[bF]? = some (.cells cs 86 (0, 0))) (h : FS cs cl bR lf o m rb) (ty fl ln st : Int) (hf0 : 0 ≤ fl) (hf1 : fl < 256) :
    Calls Tryz.prog 81 #[.pointer (some ⟨bF, 0, none⟩), hdV ty fl ln st] w (OrdEnd w bF cl bR lf o m rb ⟨ty, fl, ln, st⟩) := by
  obtain ⟨v5, hv5⟩ := h.some (i := 5) (by omega)
  have bF1 := blk_alloc (p := .cells #[.bool true, .int .u8 ty, .int .u8 fl, .int .u32 ln, .int .u32 st] 113) hF
  have bH1 := blk_new w (.cells #[.bool true, .int .u8 ty, .int .u8 fl, .int .u32 ln, .int .u32 st] 113)
  have hne : ¬ bF = w.heap.size := by have := lt_of_block hF; omega
  have hne2 : ¬ w.heap.size = bF := fun e => hne e.symm
  have k4 := (blk_cell bF1 4).trans h.c4
  have f4 := blk_free bF1 4
  have k5 := (blk_cell bF1 5).trans hv5
  have f5 := blk_free bF1 5
  have k22 := (blk_cell bF1 22).trans h.c22
  have kS : Kept (· ≠ bF) w ((w.alloc (.cells #[.bool true, .int .u8 ty, .int .u8 fl, .int .u32 ln, .int .u32 st] 113)).setCell ⟨bF, 5, none⟩ (.int .u8 ty)) := ((Kept.refl _ w).alloc _).setCell (fun h => absurd rfl h) _
  by_cases ho : o = 0
  · subst ho
    by_cases h9 : ty = 9
    · subst h9
      go_enter Tryz.func81, Tryz.ntmps81
      go_wp2_with (first | (go_at_call 84; refine (connError_any (cs := cs.setIfInBounds 5 (.int .u8 _)) (by first | exact blk_set bF1 5 _ | exact blk_drh (blk_set bF1 5 _) _) (h.set (.inr rfl) _) _ _).mono ?_; rintro e w' ⟨rfl, hend⟩) | (go_at_call 92; refine (has_any fl 4 (by simp) hf0 hf1 _).mono ?_; rintro e w' ⟨rfl, rfl⟩))
      go_ret
      exact .inl ⟨by unfold ordBad; rfl, rfl, hend.from (by first | exact kS | exact kS.drawn _)⟩
    have h9b : (ty == 9) = false := beq_false_of_ne h9
    have H9 := Lib.hid h9
    by_cases h1 : ty = 1
    · subst h1
      cases hbit : bitOf fl 4 with
      | true =>
        go_enter Tryz.func81, Tryz.ntmps81
        go_wp2_with (first | (go_at_call 84; refine (connError_any (cs := cs.setIfInBounds 5 (.int .u8 _)) (by first | exact blk_set bF1 5 _ | exact blk_drh (blk_set bF1 5 _) _) (h.set (.inr rfl) _) _ _).mono ?_; rintro e w' ⟨rfl, hend⟩) | (go_at_call 92; refine (has_any fl 4 (by simp) hf0 hf1 _).mono ?_; rintro e w' ⟨rfl, rfl⟩))
        go_ret
        refine .inr ⟨by unfold ordBad; rfl, rfl, ?_⟩
        unfold nextO
        simp only [true_or, if_true, hbit]
        exact ⟨_, by first | exact blk_set (blk_set bF1 5 _) 4 _ | exact blk_set (blk_drh (blk_set bF1 5 _) _) 4 _, (h.set (.inr rfl) _).setO _, by first | exact (((Kept.refl _ w).alloc _).setCell (fun h => absurd rfl h) _).setCell (fun h => absurd rfl h) _ | exact ((((Kept.refl _ w).alloc _).setCell (fun h => absurd rfl h) _).drawn _).setCell (fun h => absurd rfl h) _⟩
      | false =>
        go_enter Tryz.func81, Tryz.ntmps81
        go_wp2_with (first | (go_at_call 84; refine (connError_any (cs := cs.setIfInBounds 5 (.int .u8 _)) (by first | exact blk_set bF1 5 _ | exact blk_drh (blk_set bF1 5 _) _) (h.set (.inr rfl) _) _ _).mono ?_; rintro e w' ⟨rfl, hend⟩) | (go_at_call 92; refine (has_any fl 4 (by simp) hf0 hf1 _).mono ?_; rintro e w' ⟨rfl, rfl⟩))
        go_ret
        refine .inr ⟨by unfold ordBad; rfl, rfl, ?_⟩
        unfold nextO
        simp only [true_or, if_true, hbit, Bool.false_eq_true, if_false]
        exact ⟨_, by first | exact blk_set (blk_set bF1 5 _) 4 _ | exact blk_set (blk_drh (blk_set bF1 5 _) _) 4 _, (h.set (.inr rfl) _).setO _, by first | exact (((Kept.refl _ w).alloc _).setCell (fun h => absurd rfl h) _).setCell (fun h => absurd rfl h) _ | exact ((((Kept.refl _ w).alloc _).setCell (fun h => absurd rfl h) _).drawn _).setCell (fun h => absurd rfl h) _⟩
    have h1b : (ty == 1) = false := beq_false_of_ne h1
    have H1 := Lib.hid h1
    clear h1 h9
    go_enter Tryz.func81, Tryz.ntmps81
    go_wp2_with (first | (go_at_call 84; refine (connError_any (cs := cs.setIfInBounds 5 (.int .u8 _)) (by first | exact blk_set bF1 5 _ | exact blk_drh (blk_set bF1 5 _) _) (h.set (.inr rfl) _) _ _).mono ?_; rintro e w' ⟨rfl, hend⟩) | (go_at_call 92; refine (has_any fl 4 (by simp) hf0 hf1 _).mono ?_; rintro e w' ⟨rfl, rfl⟩))
    go_ret
    refine .inr ⟨by unfold ordBad; simpa using H9.out, rfl, ?_⟩
    unfold nextO
    rw [if_neg (by have := H9.out; have := H1.out; simp only; omega)]
    exact ⟨_, by first | exact blk_set bF1 5 _ | exact blk_set (blk_drh bF1 _) 5 _, h.set (.inr rfl) _, by first | exact (((Kept.refl _ w).alloc _).setCell (fun h => absurd rfl h) _) | exact (((Kept.refl _ w).alloc _).setCell (fun h => absurd rfl h) _).drawn _⟩
  have hob : (o != 0) = true := by simp; exact ho
  have HO := Lib.hid ho
  clear ho
  by_cases h9 : ty = 9
  · subst h9
    by_cases hso : st = o
    · subst hso
      have hsb : (st != st) = false := by simp
      cases hbit : bitOf fl 4 with
      | true =>
        go_enter Tryz.func81, Tryz.ntmps81
        go_wp2_with (first | (go_at_call 84; refine (connError_any (cs := cs.setIfInBounds 5 (.int .u8 _)) (by first | exact blk_set bF1 5 _ | exact blk_drh (blk_set bF1 5 _) _) (h.set (.inr rfl) _) _ _).mono ?_; rintro e w' ⟨rfl, hend⟩) | (go_at_call 92; refine (has_any fl 4 (by simp) hf0 hf1 _).mono ?_; rintro e w' ⟨rfl, rfl⟩))
        go_quiet (fail)
        go_wp2_with (first | (go_at_call 84; refine (connError_any (cs := cs.setIfInBounds 5 (.int .u8 _)) (by first | exact blk_set bF1 5 _ | exact blk_drh (blk_set bF1 5 _) _) (h.set (.inr rfl) _) _ _).mono ?_; rintro e w' ⟨rfl, hend⟩) | (go_at_call 92; refine (has_any fl 4 (by simp) hf0 hf1 _).mono ?_; rintro e w' ⟨rfl, rfl⟩))
        go_ret
        refine .inr ⟨by unfold ordBad; rw [if_neg HO.out]; simp, rfl, ?_⟩
        unfold nextO
        simp only [or_true, if_true, hbit]
        exact ⟨_, by first | exact blk_set (blk_set bF1 5 _) 4 _ | exact blk_set (blk_drh (blk_set bF1 5 _) _) 4 _, (h.set (.inr rfl) _).setO _, by first | exact (((Kept.refl _ w).alloc _).setCell (fun h => absurd rfl h) _).setCell (fun h => absurd rfl h) _ | exact ((((Kept.refl _ w).alloc _).setCell (fun h => absurd rfl h) _).drawn _).setCell (fun h => absurd rfl h) _⟩
      | false =>
        go_enter Tryz.func81, Tryz.ntmps81
        go_wp2_with (first | (go_at_call 84; refine (connError_any (cs := cs.setIfInBounds 5 (.int .u8 _)) (by first | exact blk_set bF1 5 _ | exact blk_drh (blk_set bF1 5 _) _) (h.set (.inr rfl) _) _ _).mono ?_; rintro e w' ⟨rfl, hend⟩) | (go_at_call 92; refine (has_any fl 4 (by simp) hf0 hf1 _).mono ?_; rintro e w' ⟨rfl, rfl⟩))
        go_quiet (fail)
        go_wp2_with (first | (go_at_call 84; refine (connError_any (cs := cs.setIfInBounds 5 (.int .u8 _)) (by first | exact blk_set bF1 5 _ | exact blk_drh (blk_set bF1 5 _) _) (h.set (.inr rfl) _) _ _).mono ?_; rintro e w' ⟨rfl, hend⟩) | (go_at_call 92; refine (has_any fl 4 (by simp) hf0 hf1 _).mono ?_; rintro e w' ⟨rfl, rfl⟩))
        go_ret
        refine .inr ⟨by unfold ordBad; rw [if_neg HO.out]; simp, rfl, ?_⟩
        unfold nextO
        simp only [or_true, if_true, hbit, Bool.false_eq_true, if_false]
        exact ⟨_, by first | exact blk_set (blk_set bF1 5 _) 4 _ | exact blk_set (blk_drh (blk_set bF1 5 _) _) 4 _, (h.set (.inr rfl) _).setO _, by first | exact (((Kept.refl _ w).alloc _).setCell (fun h => absurd rfl h) _).setCell (fun h => absurd rfl h) _ | exact ((((Kept.refl _ w).alloc _).setCell (fun h => absurd rfl h) _).drawn _).setCell (fun h => absurd rfl h) _⟩
    have hsb : (st != o) = true := by simp; exact hso
    have HS := Lib.hid hso
    clear hso
    go_enter Tryz.func81, Tryz.ntmps81
    go_wp2_with (first | (go_at_call 84; refine (connError_any (cs := cs.setIfInBounds 5 (.int .u8 _)) (by first | exact blk_set bF1 5 _ | exact blk_drh (blk_set bF1 5 _) _) (h.set (.inr rfl) _) _ _).mono ?_; rintro e w' ⟨rfl, hend⟩) | (go_at_call 92; refine (has_any fl 4 (by simp) hf0 hf1 _).mono ?_; rintro e w' ⟨rfl, rfl⟩))
    go_quiet (fail)
    go_wp2_with (first | (go_at_call 84; refine (connError_any (cs := cs.setIfInBounds 5 (.int .u8 _)) (by first | exact blk_set bF1 5 _ | exact blk_drh (blk_set bF1 5 _) _) (h.set (.inr rfl) _) _ _).mono ?_; rintro e w' ⟨rfl, hend⟩) | (go_at_call 92; refine (has_any fl 4 (by simp) hf0 hf1 _).mono ?_; rintro e w' ⟨rfl, rfl⟩))
    go_ret
    exact .inl ⟨by unfold ordBad; rw [if_neg HO.out]; simpa using HS.out, rfl, hend.from (by first | exact kS | exact kS.drawn _)⟩
  have h9b : (ty != 9) = true := by simp; exact h9
  have H9 := Lib.hid h9
  clear h9
  go_enter Tryz.func81, Tryz.ntmps81
  go_wp2_with (first | (go_at_call 84; refine (connError_any (cs := cs.setIfInBounds 5 (.int .u8 _)) (by first | exact blk_set bF1 5 _ | exact blk_drh (blk_set bF1 5 _) _) (h.set (.inr rfl) _) _ _).mono ?_; rintro e w' ⟨rfl, hend⟩) | (go_at_call 92; refine (has_any fl 4 (by simp) hf0 hf1 _).mono ?_; rintro e w' ⟨rfl, rfl⟩))
  go_ret
  exact .inl ⟨by unfold ordBad; rw [if_neg HO.out]; simp; exact .inl H9.out, rfl, hend.from (by first | exact kS | exact kS.drawn _)⟩
end
end Go.Proofs.YtfdlbjibninakaaGreatDoor

namespace Go.Proofs.YtfdlbjibninakaaGreatDoor
open Go.RowKit

/-- The row that payloads are read into. -/
def RbOk (K : Nat → Prop) (w : World) (rb : Value) : Prop :=
  rb = .slice none 0 0 ∨ ∃ g n cap bc, rb = .slice (some ⟨g, 0, none⟩) n cap ∧ w.heap[g]? = some (.cells bc 5 (0, 0)) ∧ bc.size = cap ∧ n ≤ cap ∧ cap ≤ 16777216 ∧ ¬ K g
/-- The last frame. -/
def LfOk (K : Nat → Prop) (w : World) (lf : Value) : Prop :=
  lf = .nilIface ∨ ∃ T p c t v, lf = .iface T (.pointer (some ⟨p, 0, none⟩)) ∧ FrT T ∧ w.heap[p]? = some (.cells c t (0, 0)) ∧ (t ≠ 86 ∧ t ≠ 67 ∧ t ≠ 71 ∧ t ≠ 5 ∧ t ≠ 65) ∧ c[0]? = some (.bool v) ∧ ¬ K p
structure RSt (B : Nat) (K : Nat → Prop) (aE aU aT : Addr) (w : World) (bF cl bR : Nat) (m o : Int) (L ps : List Int) (cs : Array Value) (lf rb rest pcs : Value) (at' : Nat) : Prop where
  V : GV B w aE aU aT
  F : w.heap[bF]? = some (.cells cs 86 (0, 0))
  fs : FS cs cl bR lf o m rb
  C : w.heap[cl]? = some (.cells #[.pointer (some ⟨bF, 0, none⟩)] 67 (0, 0))
  R : RdS w bR rest pcs at' L ps
  lim : at' + L.length ≤ 1000000000000
  bs : Bs L
  rk0 : inK (· < B) rest
  pk0 : inK (· < B) pcs
  rb : RbOk K w rb
  lf : LfOk K w lf
  kF : ¬ K bF
  kC : ¬ K cl
  kR : ¬ K bR
  lt : ∀ k, K k → k < w.heap.size
  gl : ∀ k, k < B → K k
  o0 : 0 ≤ o
  m0 : 0 ≤ m
  m1 : m ≤ 16777215
theorem ne_type {w : World} {a b : Nat} {c d : Array Value} {s t : TypeId} {f g : Nat × Nat} (h : w.heap[a]? = some (.cells c s f)) (k : w.heap[b]? = some (.cells d t g)) (hne : s ≠ t) : a ≠ b := fun e => by
  subst e
  rw [h] at k
  cases k
  exact hne rfl
theorem inK.mono {K K' : Nat → Prop} {v : Value} (h : inK K v) (hk : ∀ k, K k → K' k) : inK K' v := by
  cases v with
  | slice a n c => cases a with
    | none => trivial
    | some a => exact h.imp id (hk _)
  | _ => trivial
section
variable {B : Nat} {K : Nat → Prop} {aE aU aT : Addr} {w w' : World} {bF cl bR : Nat} {m o o' : Int} {L L' ps : List Int} {cs cs' : Array Value} {lf rb rest rest' pcs : Value} {at' at'' : Nat}
theorem RSt.FR (h : RSt B K aE aU aT w bF cl bR m o L ps cs lf rb rest pcs at') : bF ≠ bR := ne_type h.F h.R.R (by decide)
theorem RSt.FC (h : RSt B K aE aU aT w bF cl bR m o L ps cs lf rb rest pcs at') : bF ≠ cl := ne_type h.F h.C (by decide)
theorem RSt.CR (h : RSt B K aE aU aT w bF cl bR m o L ps cs lf rb rest pcs at') : cl ≠ bR := ne_type h.C h.R.R (by decide)
theorem RSt.BF (h : RSt B K aE aU aT w bF cl bR m o L ps cs lf rb rest pcs at') : B ≤ bF := Nat.le_of_not_lt fun e => h.kF (h.gl _ e)
theorem RSt.BR (h : RSt B K aE aU aT w bF cl bR m o L ps cs lf rb rest pcs at') : B ≤ bR := Nat.le_of_not_lt fun e => h.kR (h.gl _ e)
theorem RSt.rk (h : RSt B K aE aU aT w bF cl bR m o L ps cs lf rb rest pcs at') : inK K rest := h.rk0.mono h.gl
theorem RSt.pk (h : RSt B K aE aU aT w bF cl bR m o L ps cs lf rb rest pcs at') : inK K pcs := h.pk0.mono h.gl
theorem RSt.rkR (h : RSt B K aE aU aT w bF cl bR m o L ps cs lf rb rest pcs at') {g : Nat} (hg : ¬ K g) : inK (fun b => b ≠ bR ∧ b ≠ g) rest := inK.mono h.rk fun _ hk => ⟨fun e => h.kR (e ▸ hk), fun e => hg (e ▸ hk)⟩
theorem RSt.pkR (h : RSt B K aE aU aT w bF cl bR m o L ps cs lf rb rest pcs at') {g : Nat} (hg : ¬ K g) : inK (fun b => b ≠ bR ∧ b ≠ g) pcs := inK.mono h.pk fun _ hk => ⟨fun e => h.kR (e ▸ hk), fun e => hg (e ▸ hk)⟩
theorem RbOk.kept {rb : Value} (h : RbOk K w rb) {J : Nat → Prop} (hk : Kept J w w') (hj : ∀ g n c, rb = .slice (some ⟨g, 0, none⟩) n c → J g) : RbOk K w' rb := by
  rcases h with h | ⟨g, n, cap, bc, rfl, h1, h2, h3, h4, h5⟩
  · exact .inl h
  · exact .inr ⟨g, n, cap, bc, rfl, hk.at (hj _ _ _ rfl) h1, h2, h3, h4, h5⟩
theorem LfOk.kept {lf : Value} (h : LfOk K w lf) {J : Nat → Prop} (hk : Kept J w w') (hj : ∀ T p, lf = .iface T (.pointer (some ⟨p, 0, none⟩)) → J p) : LfOk K w' lf := by
  rcases h with h | ⟨T, p, c, t, v, rfl, h1, h2, h3, h4, h5⟩
  · exact .inl h
  · exact .inr ⟨T, p, c, t, v, rfl, h1, hk.at (hj _ _ rfl) h2, h3, h4, h5⟩
theorem RSt.rbNe (h : RSt B K aE aU aT w bF cl bR m o L ps cs lf rb rest pcs at') {g n c : Nat} (e : rb = .slice (some ⟨g, 0, none⟩) n c) : g ≠ bF ∧ g ≠ cl ∧ g ≠ bR := by
  rcases h.rb with h1 | ⟨g', n', cap, bc, e', h1, -⟩
  · rw [h1] at e; cases e
  · rw [e'] at e; cases e
    exact ⟨ne_type h1 h.F (by decide), ne_type h1 h.C (by decide), ne_type h1 h.R.R (by decide)⟩
theorem RSt.lfNe (h : RSt B K aE aU aT w bF cl bR m o L ps cs lf rb rest pcs at') {T p : Nat} (e : lf = .iface T (.pointer (some ⟨p, 0, none⟩))) : p ≠ bF ∧ p ≠ cl ∧ p ≠ bR ∧ ∀ g n c, rb = .slice (some ⟨g, 0, none⟩) n c → p ≠ g := by
  rcases h.lf with h1 | ⟨T', p', c, t, v, e', h0, h1, ⟨t1, t2, t3, t4, _⟩, -⟩
  · rw [h1] at e; cases e
  · rw [e'] at e; cases e
    refine ⟨ne_type h1 h.F t1, ne_type h1 h.C t2, ne_type h1 h.R.R t3, fun g n c e => ?_⟩
    rcases h.rb with h2 | ⟨g', n', cap, bc, e2, h2, -⟩
    · rw [h2] at e; cases e
    · rw [e2] at e; cases e
      exact ne_type h1 h2 t4
theorem Kept.onK {J : Nat → Prop} (hk : Kept J w w') (hj : ∀ k, K k → J k) : Kept K w w' := hk.mono fun k h _ => hj k h
/-- Changes of the framer's and the reader's own blocks. -/
theorem RSt.step (h : RSt B K aE aU aT w bF cl bR m o L ps cs lf rb rest pcs at') (hk : Kept (fun b => b ≠ bR ∧ b ≠ bF) w w') (F : w'.heap[bF]? = some (.cells cs' 86 (0, 0))) (fs : FS cs' cl bR lf o' m rb)
    (R : RdS w' bR rest' pcs at'' L' ps) (lim : at'' + L'.length ≤ 1000000000000) (bs : Bs L') (rk : inK (· < B) rest') (o0 : 0 ≤ o') : RSt B K aE aU aT w' bF cl bR m o' L' ps cs' lf rb rest' pcs at'' := by
  have hF := h.BF
  have hR := h.BR
  exact ⟨h.V.kept hk (fun k hk => ⟨by omega, by omega⟩), F, fs, hk.at ⟨h.CR, Ne.symm h.FC⟩ h.C, R, lim, bs, rk, h.pk0, h.rb.kept hk (fun g n c e => ⟨(h.rbNe e).2.2, (h.rbNe e).1⟩), h.lf.kept hk (fun T p e => ⟨(h.lfNe e).2.2.1, (h.lfNe e).1⟩), h.kF, h.kC, h.kR, fun k hkk => Nat.lt_of_lt_of_le (h.lt k hkk) hk.size, h.gl, o0, h.m0, h.m1⟩
/-- Nothing of hers has changed. -/
theorem RSt.below (h : RSt B K aE aU aT w bF cl bR m o L ps cs lf rb rest pcs at') (hb : Below w.heap.size w w') : RSt B K aE aU aT w' bF cl bR m o L ps cs lf rb rest pcs at' :=
  ⟨h.V.below hb, blk_below h.F hb, h.fs, blk_below h.C hb, h.R.below hb, h.lim, h.bs, h.rk0, h.pk0, h.rb.kept (Kept.all (K := fun _ => True) hb) (fun _ _ _ _ => trivial), h.lf.kept (Kept.all (K := fun _ => True) hb) (fun _ _ _ => trivial), h.kF, h.kC, h.kR, fun k hkk => Nat.lt_of_lt_of_le (h.lt k hkk) hb.size, h.gl, h.o0, h.m0, h.m1⟩
theorem RSt.fend (h : RSt B K aE aU aT w bF cl bR m o L ps cs lf rb rest pcs at') (hf : FEnd w bF cl bR lf o' m rb w') (o0 : 0 ≤ o') : ∃ cs', RSt B K aE aU aT w' bF cl bR m o' L ps cs' lf rb rest pcs at' := by
  obtain ⟨cs', F, fs, hk⟩ := hf
  have hkk : Kept K w w' := hk.onK fun k hk e => h.kF (e ▸ hk)
  exact ⟨cs', h.step (hk.mono fun k h _ => h.2) F fs ⟨hk.at (Ne.symm h.FR) h.R.R, h.R.rest.kept hkk h.rk, h.R.pcs.kept hkk h.pk, h.R.lim⟩ h.lim h.bs h.rk0 o0⟩
/-- The header's bytes read. -/
theorem RSt.rdHead (h : RSt B K aE aU aT w bF cl bR m o L ps cs lf rb rest pcs at') (hr : RdEnd w bR rest pcs at' L ps bF 7 9 cs 86 w') : ∃ cs' rest' at'', RSt B K aE aU aT w' bF cl bR m o (L.drop 9) ps cs' lf rb rest' pcs at'' := by
  obtain ⟨at2, rest2, cs2, h1, h2, h3, h4, h5, h6⟩ := hr
  exact ⟨cs2, rest2, at2, h.step h5 h3 (h.fs.filled h4 (by rw [List.length_take]; omega)) h1 (by have := h.lim; omega) (h.bs.drop 9) (h6 (· < B) h.rk0) h.o0⟩
theorem RSt.keptHead (h : RSt B K aE aU aT w bF cl bR m o L ps cs lf rb rest pcs at') (hr : RdEnd w bR rest pcs at' L ps bF 7 9 cs 86 w') : Kept K w w' := by
  obtain ⟨at2, rest2, cs2, h1, h2, h3, h4, h5, h6⟩ := hr
  exact h5.onK fun k hk => ⟨fun e => h.kR (e ▸ hk), fun e => h.kF (e ▸ hk)⟩
theorem FEnd.onK (hf : FEnd w bF cl bR lf o' m rb w') (hk : ¬ K bF) : Kept K w w' := by
  obtain ⟨cs', F, fs, h⟩ := hf
  exact h.onK fun k hk' e => hk (e ▸ hk')
end
end Go.Proofs.YtfdlbjibninakaaGreatDoor
