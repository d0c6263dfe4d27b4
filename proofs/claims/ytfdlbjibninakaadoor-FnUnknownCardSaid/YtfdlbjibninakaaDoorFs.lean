/- Reading: the whole state of a framer that reads, and what each change leaves of it. -/
import Derived.Test.YtfdlbjibninakaaDoorFo
set_option linter.unusedVariables false
set_option linter.unusedSimpArgs false
namespace Go.Proofs.YtfdlbjibninakaaDoor
open Go.RowKit

/-- The row that payloads are read into. -/
def RbOk (K : Nat → Prop) (w : World) (rb : Value) : Prop :=
  rb = .slice none 0 0 ∨ ∃ g n cap bc, rb = .slice (some ⟨g, 0, none⟩) n cap ∧ w.heap[g]? = some (.cells bc 5 (0, 0)) ∧ bc.size = cap ∧ n ≤ cap ∧ cap ≤ 16777216 ∧ ¬ K g
/-- The last frame. -/
def LfOk (K : Nat → Prop) (w : World) (lf : Value) : Prop :=
  lf = .nilIface ∨ ∃ T p c t v, lf = .iface T (.pointer (some ⟨p, 0, none⟩)) ∧ FrT T ∧ w.heap[p]? = some (.cells c t (0, 0)) ∧ (t ≠ 99 ∧ t ≠ 76 ∧ t ≠ 107 ∧ t ≠ 5 ∧ t ≠ 54) ∧ c[0]? = some (.bool v) ∧ ¬ K p
structure RSt (B : Nat) (K : Nat → Prop) (aE aU aT : Addr) (w : World) (bF cl bR : Nat) (m o : Int) (L ps : List Int) (cs : Array Value) (lf rb rest pcs : Value) (at' : Nat) : Prop where
  V : GV B w aE aU aT
  F : w.heap[bF]? = some (.cells cs 99 (0, 0))
  fs : FS cs cl bR lf o m rb
  C : w.heap[cl]? = some (.cells #[.pointer (some ⟨bF, 0, none⟩)] 76 (0, 0))
  R : RdS w bR rest pcs at' L ps
  lim : at' + L.length ≤ 1000000000000
  bs : Bs L
  rk0 : inK (· < B) rest
  pk0 : inK (· < B) pcs
  rb : RbOk K w rb
  lf : LfOk K w lf
  kF : ¬ K bF
  kC : ¬ K cl
  kR : ¬ K bR
  lt : ∀ k, K k → k < w.heap.size
  gl : ∀ k, k < B → K k
  o0 : 0 ≤ o
  m0 : 0 ≤ m
  m1 : m ≤ 16777215
theorem ne_type {w : World} {a b : Nat} {c d : Array Value} {s t : TypeId} {f g : Nat × Nat} (h : w.heap[a]? = some (.cells c s f)) (k : w.heap[b]? = some (.cells d t g)) (hne : s ≠ t) : a ≠ b := fun e => by
  subst e
  rw [h] at k
  cases k
  exact hne rfl
theorem inK.mono {K K' : Nat → Prop} {v : Value} (h : inK K v) (hk : ∀ k, K k → K' k) : inK K' v := by
  cases v with
  | slice a n c => cases a with
    | none => trivial
    | some a => exact h.imp id (hk _)
  | _ => trivial
section
variable {B : Nat} {K : Nat → Prop} {aE aU aT : Addr} {w w' : World} {bF cl bR : Nat} {m o o' : Int} {L L' ps : List Int} {cs cs' : Array Value} {lf rb rest rest' pcs : Value} {at' at'' : Nat}
theorem RSt.FR (h : RSt B K aE aU aT w bF cl bR m o L ps cs lf rb rest pcs at') : bF ≠ bR := ne_type h.F h.R.R (by decide)
theorem RSt.FC (h : RSt B K aE aU aT w bF cl bR m o L ps cs lf rb rest pcs at') : bF ≠ cl := ne_type h.F h.C (by decide)
theorem RSt.CR (h : RSt B K aE aU aT w bF cl bR m o L ps cs lf rb rest pcs at') : cl ≠ bR := ne_type h.C h.R.R (by decide)
theorem RSt.BF (h : RSt B K aE aU aT w bF cl bR m o L ps cs lf rb rest pcs at') : B ≤ bF := Nat.le_of_not_lt fun e => h.kF (h.gl _ e)
theorem RSt.BR (h : RSt B K aE aU aT w bF cl bR m o L ps cs lf rb rest pcs at') : B ≤ bR := Nat.le_of_not_lt fun e => h.kR (h.gl _ e)
theorem RSt.rk (h : RSt B K aE aU aT w bF cl bR m o L ps cs lf rb rest pcs at') : inK K rest := h.rk0.mono h.gl
theorem RSt.pk (h : RSt B K aE aU aT w bF cl bR m o L ps cs lf rb rest pcs at') : inK K pcs := h.pk0.mono h.gl
theorem RSt.rkR (h : RSt B K aE aU aT w bF cl bR m o L ps cs lf rb rest pcs at') {g : Nat} (hg : ¬ K g) : inK (fun b => b ≠ bR ∧ b ≠ g) rest := inK.mono h.rk fun _ hk => ⟨fun e => h.kR (e ▸ hk), fun e => hg (e ▸ hk)⟩
theorem RSt.pkR (h : RSt B K aE aU aT w bF cl bR m o L ps cs lf rb rest pcs at') {g : Nat} (hg : ¬ K g) : inK (fun b => b ≠ bR ∧ b ≠ g) pcs := inK.mono h.pk fun _ hk => ⟨fun e => h.kR (e ▸ hk), fun e => hg (e ▸ hk)⟩
theorem RbOk.kept {rb : Value} (h : RbOk K w rb) {J : Nat → Prop} (hk : Kept J w w') (hj : ∀ g n c, rb = .slice (some ⟨g, 0, none⟩) n c → J g) : RbOk K w' rb := by
  rcases h with h | ⟨g, n, cap, bc, rfl, h1, h2, h3, h4, h5⟩
  · exact .inl h
  · exact .inr ⟨g, n, cap, bc, rfl, hk.at (hj _ _ _ rfl) h1, h2, h3, h4, h5⟩
theorem LfOk.kept {lf : Value} (h : LfOk K w lf) {J : Nat → Prop} (hk : Kept J w w') (hj : ∀ T p, lf = .iface T (.pointer (some ⟨p, 0, none⟩)) → J p) : LfOk K w' lf := by
  rcases h with h | ⟨T, p, c, t, v, rfl, h1, h2, h3, h4, h5⟩
  · exact .inl h
  · exact .inr ⟨T, p, c, t, v, rfl, h1, hk.at (hj _ _ rfl) h2, h3, h4, h5⟩
theorem RSt.rbNe (h : RSt B K aE aU aT w bF cl bR m o L ps cs lf rb rest pcs at') {g n c : Nat} (e : rb = .slice (some ⟨g, 0, none⟩) n c) : g ≠ bF ∧ g ≠ cl ∧ g ≠ bR := by
  rcases h.rb with h1 | ⟨g', n', cap, bc, e', h1, -⟩
  · rw [h1] at e; cases e
  · rw [e'] at e; cases e
    exact ⟨ne_type h1 h.F (by decide), ne_type h1 h.C (by decide), ne_type h1 h.R.R (by decide)⟩
theorem RSt.lfNe (h : RSt B K aE aU aT w bF cl bR m o L ps cs lf rb rest pcs at') {T p : Nat} (e : lf = .iface T (.pointer (some ⟨p, 0, none⟩))) : p ≠ bF ∧ p ≠ cl ∧ p ≠ bR ∧ ∀ g n c, rb = .slice (some ⟨g, 0, none⟩) n c → p ≠ g := by
  rcases h.lf with h1 | ⟨T', p', c, t, v, e', h0, h1, ⟨t1, t2, t3, t4, _⟩, -⟩
  · rw [h1] at e; cases e
  · rw [e'] at e; cases e
    refine ⟨ne_type h1 h.F t1, ne_type h1 h.C t2, ne_type h1 h.R.R t3, fun g n c e => ?_⟩
    rcases h.rb with h2 | ⟨g', n', cap, bc, e2, h2, -⟩
    · rw [h2] at e; cases e
    · rw [e2] at e; cases e
      exact ne_type h1 h2 t4
theorem Kept.onK {J : Nat → Prop} (hk : Kept J w w') (hj : ∀ k, K k → J k) : Kept K w w' := hk.mono fun k h _ => hj k h
/-- Changes of the framer's and the reader's own blocks. -/
theorem RSt.step (h : RSt B K aE aU aT w bF cl bR m o L ps cs lf rb rest pcs at') (hk : Kept (fun b => b ≠ bR ∧ b ≠ bF) w w') (F : w'.heap[bF]? = some (.cells cs' 99 (0, 0))) (fs : FS cs' cl bR lf o' m rb)
    (R : RdS w' bR rest' pcs at'' L' ps) (lim : at'' + L'.length ≤ 1000000000000) (bs : Bs L') (rk : inK (· < B) rest') (o0 : 0 ≤ o') : RSt B K aE aU aT w' bF cl bR m o' L' ps cs' lf rb rest' pcs at'' := by
  have hF := h.BF
  have hR := h.BR
  exact ⟨h.V.kept hk (fun k hk => ⟨by omega, by omega⟩), F, fs, hk.at ⟨h.CR, Ne.symm h.FC⟩ h.C, R, lim, bs, rk, h.pk0, h.rb.kept hk (fun g n c e => ⟨(h.rbNe e).2.2, (h.rbNe e).1⟩), h.lf.kept hk (fun T p e => ⟨(h.lfNe e).2.2.1, (h.lfNe e).1⟩), h.kF, h.kC, h.kR, fun k hkk => Nat.lt_of_lt_of_le (h.lt k hkk) hk.size, h.gl, o0, h.m0, h.m1⟩
/-- Nothing of hers has changed. -/
theorem RSt.below (h : RSt B K aE aU aT w bF cl bR m o L ps cs lf rb rest pcs at') (hb : Below w.heap.size w w') : RSt B K aE aU aT w' bF cl bR m o L ps cs lf rb rest pcs at' :=
  ⟨h.V.below hb, blk_below h.F hb, h.fs, blk_below h.C hb, h.R.below hb, h.lim, h.bs, h.rk0, h.pk0, h.rb.kept (Kept.all (K := fun _ => True) hb) (fun _ _ _ _ => trivial), h.lf.kept (Kept.all (K := fun _ => True) hb) (fun _ _ _ => trivial), h.kF, h.kC, h.kR, fun k hkk => Nat.lt_of_lt_of_le (h.lt k hkk) hb.size, h.gl, h.o0, h.m0, h.m1⟩
theorem RSt.fend (h : RSt B K aE aU aT w bF cl bR m o L ps cs lf rb rest pcs at') (hf : FEnd w bF cl bR lf o' m rb w') (o0 : 0 ≤ o') : ∃ cs', RSt B K aE aU aT w' bF cl bR m o' L ps cs' lf rb rest pcs at' := by
  obtain ⟨cs', F, fs, hk⟩ := hf
  have hkk : Kept K w w' := hk.onK fun k hk e => h.kF (e ▸ hk)
  exact ⟨cs', h.step (hk.mono fun k h _ => h.2) F fs ⟨hk.at (Ne.symm h.FR) h.R.R, h.R.rest.kept hkk h.rk, h.R.pcs.kept hkk h.pk, h.R.lim⟩ h.lim h.bs h.rk0 o0⟩
/-- The header's bytes read. -/
theorem RSt.rdHead (h : RSt B K aE aU aT w bF cl bR m o L ps cs lf rb rest pcs at') (hr : RdEnd w bR rest pcs at' L ps bF 7 9 cs 99 w') : ∃ cs' rest' at'', RSt B K aE aU aT w' bF cl bR m o (L.drop 9) ps cs' lf rb rest' pcs at'' := by
  obtain ⟨at2, rest2, cs2, h1, h2, h3, h4, h5, h6⟩ := hr
  exact ⟨cs2, rest2, at2, h.step h5 h3 (h.fs.filled h4 (by rw [List.length_take]; omega)) h1 (by have := h.lim; omega) (h.bs.drop 9) (h6 (· < B) h.rk0) h.o0⟩
theorem RSt.keptHead (h : RSt B K aE aU aT w bF cl bR m o L ps cs lf rb rest pcs at') (hr : RdEnd w bR rest pcs at' L ps bF 7 9 cs 99 w') : Kept K w w' := by
  obtain ⟨at2, rest2, cs2, h1, h2, h3, h4, h5, h6⟩ := hr
  exact h5.onK fun k hk => ⟨fun e => h.kR (e ▸ hk), fun e => h.kF (e ▸ hk)⟩
theorem FEnd.onK (hf : FEnd w bF cl bR lf o' m rb w') (hk : ¬ K bF) : Kept K w w' := by
  obtain ⟨cs', F, fs, h⟩ := hf
  exact h.onK fun k hk' e => hk (e ▸ hk')
end
end Go.Proofs.YtfdlbjibninakaaDoor
