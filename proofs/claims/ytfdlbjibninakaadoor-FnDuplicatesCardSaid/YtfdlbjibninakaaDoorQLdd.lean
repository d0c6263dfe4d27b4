/- What the laid package-level variables give FnDuplicates' walk; her argument, opened. -/
import Derived.Test.YtfdlbjibninakaaDoorQFrame
import Derived.Test.YtfdlbjibninakaaDoorQFault
import Derived.Test.YtfdlbjibninakaaDoorQPk
import Derived.Test.YtfdlbjibninakaaDoorQCf
import Derived.LaidLaws
import Derived.LaidHandle
import Derived.Deep.SlicePairs
import Derived.OpenShut
set_option linter.unusedVariables false
set_option linter.unusedSimpArgs false
namespace Go.Proofs.YtfdlbjibninakaaDoor
open Go.ChangeShapes Go.WideShapes Go.RowKit
theorem rowEs (u : TypeId) (h : Tryd.prog.typeName? 3 u = some "*errors.errorString") : u = 247 := by
  have star : "*" ++ "errors.errorString" = "*errors.errorString" := by decide
  exact typeName_ptr_named (nm := "errors.errorString") (by rw [star]; kernel_rfl) (by kernel_rfl) (by decide) u (by rw [star]; exact h)
theorem cellsEs : Tryd.prog.cellsOf 249 = 1 := by kernel_rfl
theorem cellsStr : Tryd.prog.cellsOf 9 = 1 := by kernel_rfl

/-- A laid error. -/
def sentD (text : List UInt8) : DataW Unit := .iface "*errors.errorString" (.ptr (.agg [.lit (.string text)]))
set_option maxRecDepth 100000 in
theorem sent_cons {W : World} {n : String} {text : List UInt8} {r : List (String × DataW Unit)} {ps : List MemPlace} {g : Nat} (hg : Tryd.prog.globalNamed n = some g) (hgt : (Tryd.prog.globals[g]?).map (·.type) = some 75)
    (h : DataW.LaidVars Tryd.prog W ((n, sentD text) :: r) ps)
    (hrows : ∀ b off, MemPlace.cell b off ∈ ps → (∃ c t, W.heap[b]? = some (.cells c t (0, 0))) ∧ ∀ u v, W.cell? ⟨b, off, none⟩ = some (.iface u v) → Value.okWide Tryd.prog W .any 0 u v) :
    ∃ (a : Addr) (q : List MemPlace) (c : Array Value) (t : TypeId), W.cell? ⟨g, 0, none⟩ = some (.iface 247 (.pointer (some a))) ∧ W.heap[a.block]? = some (.cells c t (0, 0)) ∧
      DataW.LaidVars Tryd.prog W r q ∧ ps = [.cell g 0, .cell a.block a.off] ++ q := by
  obtain ⟨g0, t0, cs0, f0, p0, q0, hg0, ht0, hv0, hd0, hr, e0⟩ := h
  obtain rfl := Option.some.inj (hg.symm.trans hg0)
  obtain rfl := Option.some.inj (hgt.symm.trans ht0)
  subst e0
  obtain ⟨l0⟩ := cs0
  have ok0 : ∀ u v, l0 = [.iface u v] → Value.okWide Tryd.prog W .any 0 u v := fun u v e => by
    subst e
    exact (hrows g 0 (by simp [MemPlace.row])).2 u v (by simpa using World.var?_cell hg0 hv0 0)
  obtain ⟨a0, s0, rfl, hc0, hs0, hz0, rfl⟩ := errorString_of_trod Tryd.underlying75 rowEs Tryd.underlying247 Tryd.underlying249 rfl rfl Tryd.underlying9 cellsEs cellsStr hd0 ok0
  obtain ⟨c0, t0, hb0⟩ := (hrows a0.block a0.off (by simp [MemPlace.row])).1
  refine ⟨a0, q0, c0, t0, ?_, hb0, hr, by simp [MemPlace.row]⟩
  simpa using World.var?_cell hg0 hv0 0

theorem globs_le {W : World} (h : W.ShapedOpen Tryd.prog) : 11 ≤ W.heap.size := by
  have hg : Tryd.prog.globals.size = 11 := by kernel_rfl
  have h0 : 11 < (begin Tryd.prog (fun _ _ => 0) default).world.heap.size := of_decide_eq_true (by kernel_rfl)
  obtain ⟨o, o0, h1, -, -⟩ := h.2 11 (by rw [hg]; exact Nat.le_refl _) h0
  obtain ⟨hlt, -⟩ := Array.getElem?_eq_some_iff.1 h1
  exact Nat.le_of_lt hlt

theorem glE : Tryd.prog.globalNamed "io.EOF" = some 0 := by kernel_rfl
theorem glU : Tryd.prog.globalNamed "io.ErrUnexpectedEOF" = some 1 := by kernel_rfl
theorem glT : Tryd.prog.globalNamed "http2frames/pub/http2frames.ErrFrameTooLarge" = some 2 := by kernel_rfl
theorem glB : Tryd.prog.globalNamed "io.ErrShortBuffer" = some 10 := by kernel_rfl
theorem gtB : (Tryd.prog.globals[10]?).map (·.type) = some 75 := by kernel_rfl
theorem gtE : (Tryd.prog.globals[0]?).map (·.type) = some 75 := by kernel_rfl
theorem gtU : (Tryd.prog.globals[1]?).map (·.type) = some 75 := by kernel_rfl
theorem gtT : (Tryd.prog.globals[2]?).map (·.type) = some 75 := by kernel_rfl

theorem lt_of_block {W : World} {b : Nat} {c : Array Value} {t : TypeId} (h : W.heap[b]? = some (.cells c t (0, 0))) : b < W.heap.size := (Array.getElem?_eq_some_iff.1 h).1

set_option maxRecDepth 100000 in
/-- The laid variables of reading, without the type of errors. -/
theorem gv_of_dup {W : World} {t0 t1 t2 t3 : List UInt8} (hS : W.ShapedOpen Tryd.prog) (h : laidMet Tryd.prog [("io.ErrShortBuffer", sentD t0), ("io.EOF", sentD t1), ("io.ErrUnexpectedEOF", sentD t2), ("http2frames/pub/http2frames.ErrFrameTooLarge", sentD t3)] W) : ∃ aE aU aT, GV W.heap.size W aE aU aT := by
  obtain ⟨ps, hl, hnd, hrows⟩ := h
  obtain ⟨a0, q, c0, t0, h0, b0, hl0, rfl⟩ := sent_cons glB gtB hl hrows
  obtain ⟨aE, q, cE, tE, hE, bE, hl1, rfl⟩ := sent_cons glE gtE hl0 (fun b off hm => hrows b off (List.mem_append_right _ hm))
  obtain ⟨aU, q, cU, tU, hU, bU, hl2, rfl⟩ := sent_cons glU gtU hl1 (fun b off hm => hrows b off (List.mem_append_right _ (List.mem_append_right _ hm)))
  obtain ⟨aT, q, cT, tT, hT, bT, hl3, rfl⟩ := sent_cons glT gtT hl2 (fun b off hm => hrows b off (List.mem_append_right _ (List.mem_append_right _ (List.mem_append_right _ hm))))
  refine ⟨aE, aU, aT, hE, hU, hT, trivial, ⟨_, _, bE⟩, ⟨_, _, bU⟩, ⟨_, _, bT⟩, ?_, ?_, ?_, globs_le hS, lt_of_block bE, lt_of_block bU, lt_of_block bT⟩
  · rintro rfl; simp at hnd
  · rintro rfl; simp at hnd
  · rintro rfl; simp at hnd
end Go.Proofs.YtfdlbjibninakaaDoor

namespace Go.Proofs.YtfdlbjibninakaaDoor
open Go.ChangeShapes Go.WideShapes Go.RowKit
instance : Inhabited Fr := ⟨Fr.zero⟩
theorem list_of {α : Type} [Inhabited α] {n : Nat} {p : Nat → α → Prop} (h : ∀ i, i < n → ∃ x, p i x) : ∃ l : List α, l.length = n ∧ ∀ j x, l[j]? = some x → p j x := by
  obtain ⟨f, hf⟩ := Go.Deep.choose_lt h
  refine ⟨(List.range n).map f, by simp, fun j x hj => ?_⟩
  have hlt : j < n := by
    have := (List.getElem?_eq_some_iff.1 hj).1
    simpa using this
  have e : x = f j := by
    rw [List.getElem?_map, List.getElem?_range hlt] at hj
    exact (Option.some.inj hj).symm
  rw [e]
  exact hf j hlt
theorem wf_u32 {x : Int} (h : (Lit.int .u32 x).wf = true) : 0 ≤ x ∧ x < 4294967296 := by
  simp [Lit.wf, IntKind.min, IntKind.max, IntKind.signed, IntKind.bits] at h
  omega
theorem wf_i64 {x : Int} (h : (Lit.int .i64 x).wf = true) : -9223372036854775808 ≤ x ∧ x ≤ 9223372036854775807 := by
  simp [Lit.wf, IntKind.min, IntKind.max, IntKind.signed, IntKind.bits] at h
  omega
/-- Settings as the types have them. -/
def SetT (l : List (Int × Int)) : Prop := ∀ p ∈ l, (-9223372036854775808 ≤ p.1 ∧ p.1 ≤ 9223372036854775807) ∧ 0 ≤ p.2 ∧ p.2 < 4294967296
section
variable {H : Type} {enc : TypeId × Value → H} {W : World}
theorem plain_addr {a : Addr} {v : Value} (h : W.cell? (a.add 0) = some v) : ∃ b o, a = ⟨b, o, none⟩ := by
  obtain ⟨b, off, spot⟩ := a
  have hspot : spot = none := by simpa [Addr.add] using World.cell?_spot h
  subst hspot
  exact ⟨b, off, rfl⟩
theorem set_trod {t e : TypeId} {f0 f1 : Field} {fuel : Nat} {cs : List Value} {x : DataW H × List MemPlace} (ht : Tryd.prog.underlying t = some (.slice e)) (he : Tryd.prog.underlying e = some (.struct #[f0, f1]))
    (ce : Tryd.prog.cellsOf e = 2) (o0 : f0.offset = 0) (o1 : f1.offset = 1) (c0 : Tryd.prog.cellsOf f0.type = 1) (c1 : Tryd.prog.cellsOf f1.type = 1) (hi : Tryd.prog.underlying f0.type = some (.int .i64)) (hu : Tryd.prog.underlying f1.type = some (.int .u32))
    (h : DataW.trod enc Tryd.prog W 0 (fun _ => true) true fuel t cs = some x) : ∃ v l, cs = [v] ∧ RdP W v l ∧ SetT l := by
  rcases Go.Deep.open_slice_pairs ht he ce o0 o1 c0 c1 h with ⟨rfl, -⟩ | ⟨a, len, cap, m, n, V0, V1, D0, D1, P0, P1, rfl, -, hl, hm, hmm, -, hx⟩
  · exact ⟨_, [], rfl, RdP.nil W, fun p hp => by cases hp⟩
  · simp only [if_true] at hmm
    subst hmm
    have each : ∀ i, i < len → ∃ p : Int × Int, W.cell? (a.add (i * 2)) = some (.int .i64 p.1) ∧ W.cell? (a.add (i * 2 + 1)) = some (.int .u32 p.2) ∧ (Lit.int .i64 p.1).wf = true ∧ (Lit.int .u32 p.2).wf = true := by
      intro i hlt
      obtain ⟨h1, h2, h3, h4⟩ := hx i (by omega)
      obtain ⟨y0, e0, -, w0⟩ := DataW.trod_int hi h3
      obtain ⟨y1, e1, -, w1⟩ := DataW.trod_int hu h4
      simp only [List.cons.injEq, and_true] at e0 e1
      exact ⟨(y0, y1), by rw [h1, e0], by rw [h2, e1], w0, w1⟩
    obtain ⟨l, hll, hl2⟩ := list_of each
    subst hll
    refine ⟨_, l, rfl, ⟨some a, m, rfl, hl, hm, fun j p hj => ?_⟩, fun p hp => ?_⟩
    · obtain ⟨g1, g2, -, -⟩ := hl2 j p hj
      have hj0 := (List.getElem?_eq_some_iff.1 hj).1
      obtain ⟨b, o, rfl⟩ := plain_addr (by have := (hl2 0 _ (List.getElem?_eq_getElem (by omega))).1; rw [Nat.zero_mul] at this; exact this)
      rw [add_plain] at g1 g2
      refine ⟨b, o, rfl, ?_, ?_⟩
      · rw [show o + 2 * j = o + j * 2 by omega]; exact g1
      · rw [show o + (2 * j + 1) = o + (j * 2 + 1) by omega]; exact g2
    · obtain ⟨j, hj⟩ := List.mem_iff_getElem?.1 hp
      obtain ⟨-, -, g3, g4⟩ := hl2 j p hj
      exact ⟨wf_i64 g3, wf_u32 g4⟩
end
theorem cID : Tryd.prog.cellsOf 3 = 1 := by kernel_rfl
theorem cUD : Tryd.prog.cellsOf 22 = 1 := by kernel_rfl
theorem cStD : Tryd.prog.cellsOf 101 = 2 := by kernel_rfl
set_option maxRecDepth 100000 in
theorem open_sets {H : Type} {enc : TypeId × Value → H} {W : World} {base : Nat} {v : Value} {d : DataW H} {p : List MemPlace} (hval : Value.okWide Tryd.prog W .any base 33 v) (h : DataW.Trod enc Tryd.prog W 0 (fun _ => true) true 33 v d p) : ∃ l, RdP W v l ∧ SetT l := by
  obtain ⟨a0, len, cap, rfl⟩ := okWide_slice Tryd.underlying33 hval
  obtain ⟨fuel, hf⟩ := h
  obtain ⟨v, l, hcs, hr, ht⟩ := set_trod Tryd.underlying33 Tryd.underlying101 cStD rfl rfl cID cUD Tryd.underlying3 Tryd.underlying22 hf
  simp [Value.cells] at hcs
  subst hcs
  exact ⟨l, hr, ht⟩
end Go.Proofs.YtfdlbjibninakaaDoor
