/- FnIgnored is proved: the reserved bit of a frame header changes nothing in what is read; where the statement asks nothing it is true at once. The card is tied to the program's text. -/
import Derived.Test.YtfdlbjibninakaaDoorFrame
import Derived.Test.YtfdlbjibninakaaDoorFault
import Derived.Test.YtfdlbjibninakaaDoorPk
import Derived.Test.YtfdlbjibninakaaDoorFrd
import Derived.Test.YtfdlbjibninakaaDoorRfh
import Derived.Test.YtfdlbjibninakaaDoorMl2
import Derived.Test.YtfdlbjibninakaaDoorCf
import Derived.Test.YtfdlbjibninakaaDoorMa
import Derived.Test.YtfdlbjibninakaaDoorLr2
import Derived.LaidLaws
import Derived.LaidHandle
import Derived.Deep.QuietTactic
import Derived.BigQuiet
set_option linter.unusedVariables false
set_option linter.unusedSimpArgs false
namespace Go.Proofs.YtfdlbjibninakaaDoor
open Go.ChangeShapes Go.WideShapes Go.RowKit

theorem rowEs (u : TypeId) (h : Tryd.prog.typeName? 3 u = some "*errors.errorString") : u = 247 := by
  have star : "*" ++ "errors.errorString" = "*errors.errorString" := by decide
  exact typeName_ptr_named (nm := "errors.errorString") (by rw [star]; kernel_rfl) (by kernel_rfl) (by decide) u (by rw [star]; exact h)
theorem cellsEs : Tryd.prog.cellsOf 249 = 1 := by kernel_rfl
theorem cellsStr : Tryd.prog.cellsOf 9 = 1 := by kernel_rfl

/-- A laid error. -/
def sentD (text : List UInt8) : DataW Unit := .iface "*errors.errorString" (.ptr (.agg [.lit (.string text)]))
set_option maxRecDepth 100000 in
theorem sent_cons {W : World} {n : String} {text : List UInt8} {r : List (String × DataW Unit)} {ps : List MemPlace} {g : Nat} (hg : Tryd.prog.globalNamed n = some g) (hgt : (Tryd.prog.globals[g]?).map (·.type) = some 75)
    (h : DataW.LaidVars Tryd.prog W ((n, sentD text) :: r) ps)
    (hrows : ∀ b off, MemPlace.cell b off ∈ ps → (∃ c t, W.heap[b]? = some (.cells c t (0, 0))) ∧ ∀ u v, W.cell? ⟨b, off, none⟩ = some (.iface u v) → Value.okWide Tryd.prog W .any 0 u v) :
    ∃ (a : Addr) (q : List MemPlace) (c : Array Value) (t : TypeId), W.cell? ⟨g, 0, none⟩ = some (.iface 247 (.pointer (some a))) ∧ W.heap[a.block]? = some (.cells c t (0, 0)) ∧
      DataW.LaidVars Tryd.prog W r q ∧ ps = [.cell g 0, .cell a.block a.off] ++ q := by
  obtain ⟨g0, t0, cs0, f0, p0, q0, hg0, ht0, hv0, hd0, hr, e0⟩ := h
  obtain rfl := Option.some.inj (hg.symm.trans hg0)
  obtain rfl := Option.some.inj (hgt.symm.trans ht0)
  subst e0
  obtain ⟨l0⟩ := cs0
  have ok0 : ∀ u v, l0 = [.iface u v] → Value.okWide Tryd.prog W .any 0 u v := fun u v e => by
    subst e
    exact (hrows g 0 (by simp [MemPlace.row])).2 u v (by simpa using World.var?_cell hg0 hv0 0)
  obtain ⟨a0, s0, rfl, hc0, hs0, hz0, rfl⟩ := errorString_of_trod Tryd.underlying75 rowEs Tryd.underlying247 Tryd.underlying249 rfl rfl Tryd.underlying9 cellsEs cellsStr hd0 ok0
  obtain ⟨c0, t0, hb0⟩ := (hrows a0.block a0.off (by simp [MemPlace.row])).1
  refine ⟨a0, q0, c0, t0, ?_, hb0, hr, by simp [MemPlace.row]⟩
  simpa using World.var?_cell hg0 hv0 0

theorem rtypeT : (Tryd.prog.cutTypes.find? (·.1 == "internal/reflectlite.rtype")).map (·.2) = some 233 := by kernel_rfl
theorem oneRowErr : ((List.range 289).filter fun t => Tryd.prog.rowNamed t [101, 114, 114, 111, 114]) = [75] := by kernel_rfl
theorem typesSize : Tryd.prog.types.size = 289 := by kernel_rfl
theorem handleErr : typeHandle Tryd.prog 75 = hd 75 := by kernel_rfl
theorem glET : Tryd.prog.globalNamed "errors.errorType" = some 4 := by kernel_rfl
theorem handle_cell {W : World} {l : List (String × DataW Unit)} (h : handlesMet Tryd.prog l W) (hm : ("errors.errorType", DataW.iface "internal/reflectlite.rtype" (.agg [.ptr (.lit (.string [101, 114, 114, 111, 114]))])) ∈ l) :
    W.cell? ⟨4, 0, none⟩ = some (.iface 233 (.agg #[hd 75])) := by
  obtain ⟨name, u, ty, e1, e2, e3, e4, e5⟩ := h _ hm
  have en : name = [101, 114, 114, 111, 114] := (Option.some.inj e1).symm
  subst en
  obtain rfl := Option.some.inj (rtypeT.symm.trans e2)
  have hm : ty ∈ (List.range 289).filter fun t => Tryd.prog.rowNamed t [101, 114, 114, 111, 114] := List.mem_filter.2 ⟨List.mem_range.2 (by rw [← typesSize]; exact e3), e4⟩
  rw [oneRowErr] at hm
  obtain rfl := List.mem_singleton.1 hm
  rw [handleErr] at e5
  simpa using World.var?_cell glET e5 0

theorem globs_le {W : World} (h : W.ShapedOpen Tryd.prog) : 11 ≤ W.heap.size := by
  have hg : Tryd.prog.globals.size = 11 := by kernel_rfl
  have h0 : 11 < (begin Tryd.prog (fun _ _ => 0) default).world.heap.size := of_decide_eq_true (by kernel_rfl)
  obtain ⟨o, o0, h1, -, -⟩ := h.2 11 (by rw [hg]; exact Nat.le_refl _) h0
  obtain ⟨hlt, -⟩ := Array.getElem?_eq_some_iff.1 h1
  exact Nat.le_of_lt hlt

theorem glE : Tryd.prog.globalNamed "io.EOF" = some 0 := by kernel_rfl
theorem glU : Tryd.prog.globalNamed "io.ErrUnexpectedEOF" = some 1 := by kernel_rfl
theorem glT : Tryd.prog.globalNamed "http2frames/pub/http2frames.ErrFrameTooLarge" = some 2 := by kernel_rfl
theorem glB : Tryd.prog.globalNamed "io.ErrShortBuffer" = some 10 := by kernel_rfl
theorem gtB : (Tryd.prog.globals[10]?).map (·.type) = some 75 := by kernel_rfl
theorem gtE : (Tryd.prog.globals[0]?).map (·.type) = some 75 := by kernel_rfl
theorem gtU : (Tryd.prog.globals[1]?).map (·.type) = some 75 := by kernel_rfl
theorem gtT : (Tryd.prog.globals[2]?).map (·.type) = some 75 := by kernel_rfl

theorem lt_of_block {W : World} {b : Nat} {c : Array Value} {t : TypeId} (h : W.heap[b]? = some (.cells c t (0, 0))) : b < W.heap.size := (Array.getElem?_eq_some_iff.1 h).1

/-- The laid variables of reading. -/
theorem gv_of_reads {W : World} {t0 t1 t2 t3 : List UInt8} (hS : W.ShapedOpen Tryd.prog) (h : laidMet Tryd.prog [("io.ErrShortBuffer", sentD t0), ("io.EOF", sentD t1), ("io.ErrUnexpectedEOF", sentD t2), ("http2frames/pub/http2frames.ErrFrameTooLarge", sentD t3)] W ∧
    handlesMet Tryd.prog [("errors.errorType", DataW.iface "internal/reflectlite.rtype" (.agg [.ptr (.lit (.string [101, 114, 114, 111, 114]))]))] W) : ∃ aE aU aT, GV W.heap.size W aE aU aT := by
  obtain ⟨⟨ps, hl, hnd, hrows⟩, hh⟩ := h
  have hH := handle_cell hh (List.mem_singleton.2 rfl)
  obtain ⟨a0, q, c0, t0, h0, b0, hl0, rfl⟩ := sent_cons glB gtB hl hrows
  obtain ⟨aE, q, cE, tE, hE, bE, hl1, rfl⟩ := sent_cons glE gtE hl0 (fun b off hm => hrows b off (List.mem_append_right _ hm))
  obtain ⟨aU, q, cU, tU, hU, bU, hl2, rfl⟩ := sent_cons glU gtU hl1 (fun b off hm => hrows b off (List.mem_append_right _ (List.mem_append_right _ hm)))
  obtain ⟨aT, q, cT, tT, hT, bT, hl3, rfl⟩ := sent_cons glT gtT hl2 (fun b off hm => hrows b off (List.mem_append_right _ (List.mem_append_right _ (List.mem_append_right _ hm))))
  refine ⟨aE, aU, aT, hE, hU, hT, hH, ⟨_, _, bE⟩, ⟨_, _, bU⟩, ⟨_, _, bT⟩, ?_, ?_, ?_, globs_le hS, lt_of_block bE, lt_of_block bU, lt_of_block bT⟩
  · rintro rfl; simp at hnd
  · rintro rfl; simp at hnd
  · rintro rfl; simp at hnd
end Go.Proofs.YtfdlbjibninakaaDoor

namespace Go.Proofs.YtfdlbjibninakaaDoor
open Go.ChangeShapes Go.WideShapes Go.RowKit

theorem open_rd {P : Program} {H : Type} {enc : TypeId × Value → H} {W : World} {base : Nat} {t e : TypeId} {k : IntKind} {v : Value} {d : DataW H} {p : List MemPlace} (ht : P.underlying t = some (.slice e)) (he : P.underlying e = some (.int k)) (hc : P.cellsOf e = 1)
    (hval : Value.okWide P W .any base t v) (h : DataW.Trod enc P W 0 (fun _ => true) true t v d p) : ∃ l, RdI k W v l ∧ ∀ x ∈ l, (Lit.int k x).wf = true := by
  obtain ⟨a0, len, cap, rfl⟩ := okWide_slice ht hval
  obtain ⟨fuel, hf⟩ := h
  rcases open_ints ht he hc hf with ⟨hcs, -⟩ | ⟨a, len', cap', zs, hcs, -, hle, hmax, hall, -, hcell, hwf⟩
  · simp [Value.cells] at hcs
    obtain ⟨rfl, rfl, rfl⟩ := hcs
    exact ⟨[], ⟨none, 0, rfl, Nat.le_refl _, Nat.zero_le _, fun j x hj => by simp at hj⟩, fun x hx => by cases hx⟩
  · simp [Value.cells] at hcs
    obtain ⟨rfl, rfl, rfl⟩ := hcs
    simp only [if_true] at hall
    refine ⟨zs.take len, ⟨some a, cap, ?_, ?_, hmax, ?_⟩, fun x hx => hwf x (List.mem_of_mem_take hx)⟩
    · rw [List.length_take, hall, Nat.min_eq_left hle]
    · rw [List.length_take, hall, Nat.min_eq_left hle]; exact hle
    · intro j x hj
      have hjl : j < len := by
        have := (List.getElem?_eq_some_iff.1 hj).1
        simp at this
        omega
      rw [List.getElem?_take_of_lt hjl] at hj
      obtain ⟨hjz, hjx⟩ := List.getElem?_eq_some_iff.1 hj
      obtain ⟨b, off, rfl, hc'⟩ := ints_at hcell (by omega)
      refine ⟨b, off, rfl, ?_⟩
      rw [hc' j hjz, ← hjx]
      simp [List.getD, hj, hjx]
theorem bs_of_wf {l : List Int} (h : ∀ x ∈ l, (Lit.int .u8 x).wf = true) : Bs l := fun x hx => by
  have := h x hx
  simp [Lit.wf, IntKind.min, IntKind.max, IntKind.signed, IntKind.bits] at this
  omega
end Go.Proofs.YtfdlbjibninakaaDoor

namespace Go.Proofs.YtfdlbjibninakaaDoor
theorem readAll_len {m : Int} (n : Nat) : ∀ (b : List Int), b.length = n → ∀ o, (readAll m o b).length ≤ b.length + 1 := by
  induction n using Nat.strongRecOn with
  | _ n ih =>
    intro b hn o
    cases hg : (one m o b).1.going with
    | true =>
      have hl := one_less hg
      rw [readAll_go hg, List.length_cons]
      have := ih _ (by omega) (one m o b).2.2 rfl (one m o b).2.1
      omega
    | false => rw [readAll_stop hg]; simp
theorem one_rest {m o : Int} {b : List Int} (hb : Bs b) : Bs (one m o b).2.2 := by
  unfold one
  split
  · intro x hx; cases hx
  split
  · exact hb.drop 9
  split
  · exact hb.drop 9
  split
  · intro x hx; cases hx
  · exact (hb.drop 9).drop _
theorem one_sets {m o : Int} {b : List Int} (hb : Bs b) : (one m o b).1.x.set.length * 6 ≤ b.length := by
  unfold one
  split
  · unfold cutOff; split <;> exact Nat.zero_le _
  split
  · exact Nat.zero_le _
  split
  · exact Nat.zero_le _
  split
  · unfold cutOff; split <;> exact Nat.zero_le _
  · show (parse (hdOf b) ((b.drop 9).take (hdOf b).ln.toNat)).x.set.length * 6 ≤ b.length
    rcases Sh.parse (hdOf b) ((b.drop 9).take (hdOf b).ln.toNat) ((hb.drop 9).take _) with ⟨x, hx, q⟩ | ⟨f, c, s, hx, -, -⟩
    · rw [hx]
      refine Nat.le_trans q.sl ?_
      rw [List.length_take, List.length_drop]
      omega
    · rw [hx]; exact Nat.zero_le _
theorem readAll_sets {m : Int} (n : Nat) : ∀ (b : List Int), b.length = n → Bs b → ∀ o, ∀ r ∈ readAll m o b, r.x.set.length * 6 ≤ b.length := by
  induction n using Nat.strongRecOn with
  | _ n ih =>
    intro b hn hb o r hr
    have h1 := one_sets (m := m) (o := o) hb
    cases hg : (one m o b).1.going with
    | true =>
      have hl := one_less hg
      rw [readAll_go hg] at hr
      rcases List.mem_cons.1 hr with rfl | hr
      · exact h1
      · have := ih _ (by omega) _ rfl (one_rest hb) _ r hr
        omega
    | false =>
      rw [readAll_stop hg] at hr
      rcases List.mem_cons.1 hr with rfl | hr
      · exact h1
      · cases hr
theorem readAll_small {m o : Int} {b : List Int} (hb : Bs b) (hl : b.length ≤ 16777215) : (readAll m o b).length ≤ 100000000 ∧ ∀ r ∈ readAll m o b, r.x.set.length ≤ 3000000 :=
  ⟨by have := readAll_len (m := m) _ b rfl o; omega, fun r hr => by have := readAll_sets _ b rfl hb o r hr; omega⟩
end Go.Proofs.YtfdlbjibninakaaDoor

namespace Go.Proofs.YtfdlbjibninakaaDoor
open Go.RowKit
/-- The number of some bytes. -/
def numOf (l : List Int) : Int := l.foldl (fun n c => n * 256 + c) 0
theorem numOf_snoc (l : List Int) (c : Int) : numOf (l ++ [c]) = numOf l * 256 + c := by simp [numOf]
theorem numOf_bd' (l : List Int) : ∀ (n m : Int), Bs l → 0 ≤ n → n < m → 0 ≤ l.foldl (fun n c => n * 256 + c) n ∧ l.foldl (fun n c => n * 256 + c) n < m * 256 ^ l.length := by
  induction l with
  | nil => intro n m _ h0 h1; simp; exact ⟨h0, h1⟩
  | cons c l ih =>
    intro n m hb h0 h1
    have hc := hb c (List.mem_cons_self ..)
    have := ih (n * 256 + c) (m * 256) (fun x hx => hb x (List.mem_cons_of_mem _ hx)) (by omega) (by omega)
    rw [List.foldl_cons, List.length_cons, Int.pow_succ, Int.mul_comm (256 ^ l.length), ← Int.mul_assoc]
    exact this
theorem numOf_bd (l : List Int) (hb : Bs l) : 0 ≤ numOf l ∧ numOf l < 256 ^ l.length := by
  have := numOf_bd' l 0 1 hb (by omega) (by omega)
  rw [Int.one_mul] at this
  exact this
set_option maxRecDepth 10000 in
set_option maxHeartbeats 4000000 in
theorem number_any (a : Option Addr) (c : Nat) (l : List Int) (w : World) (h : RdB w (.slice a l.length c) l) (hb : Bs l) (hl : l.length ≤ 4) : Calls Tryd.prog 48 #[.slice a l.length c] w fun e w' => e = .returned (.int .u32 (numOf l)) ∧ w = w' := by
  obtain ⟨_, _, e, _, _, h3⟩ := h
  cases e
  have H3 := Lib.hid h3
  clear h3
  go_enter Tryd.func48, Tryd.ntmps48
  go_wp2
  go_loop [3, 8] (fun n i => ∃ k : Nat, k ≤ l.length ∧ i = .int .i64 k ∧ n = .int .u32 (numOf (l.take k))) (fun _ i => l.length - (intOf i).toNat)
  case atStart => exact ⟨0, Nat.zero_le _, rfl, rfl⟩
  case round =>
    obtain ⟨k, hk, rfl, rfl⟩ := hrel
    by_cases hlt : k < l.length
    · obtain ⟨b, o, rfl, hc⟩ := H3.out k _ (List.getElem?_eq_getElem hlt)
      have hbd := numOf_bd (l.take k) (hb.take k)
      have hx := hb _ (List.getElem_mem hlt)
      have hs : numOf (l.take (k + 1)) = numOf (l.take k) * 256 + l[k] := by rw [List.take_succ_eq_append_getElem hlt, numOf_snoc]
      have h24 : numOf (l.take k) < 16777216 := by
        have e : (l.take k).length = k := by rw [List.length_take]; omega
        rw [e] at hbd
        have : k ≤ 3 := by omega
        match k, this with
        | 0, _ => omega
        | 1, _ => omega
        | 2, _ => omega
        | 3, _ => omega
      have h0 := hbd.1
      have hor : bits .or .u32 (numOf (l.take k) * 256) l[k] = numOf (l.take k) * 256 + l[k] := u32_or_add' 8 hx.1 (by simp; omega) h0 (by simp; omega)
      have HS := Lib.hid hs
      clear hs hbd
      generalize numOf (l.take k) = n at *
      generalize l[k] = y at *
      go_wp2
      go_round
      case rel => exact ⟨k + 1, by omega, by go_num, by rw [HS.out]⟩
      case measure => simp [intOf]; omega
    · have hkl : k = l.length := by omega
      subst hkl
      rw [List.take_length]
      go_wp2
      go_ret
      exact ⟨rfl, rfl⟩
theorem numOf_3 (b : List Int) (h : 3 ≤ b.length) : numOf (b.take 3) = gb b 0 * 65536 + gb b 1 * 256 + gb b 2 := by
  match b, h with
  | x :: y :: z :: b, _ => simp [numOf, gb]; omega
theorem numOf_4 (b : List Int) (h : 9 ≤ b.length) : numOf ((b.take 9).drop 5) = n32 b 5 := by
  match b, h with
  | a0 :: a1 :: a2 :: a3 :: a4 :: a5 :: a6 :: a7 :: a8 :: b, _ => simp [numOf, n32, gb]; omega
theorem RdI.sub {k : IntKind} {w : World} {b o n c : Nat} {l : List Int} (h : RdI k w (.slice (some ⟨b, o, none⟩) n c) l) {i j : Nat} (hi : i ≤ j) (hj : j ≤ n) : RdI k w (.slice (some ⟨b, o + i, none⟩) (j - i) (c - i)) ((l.take j).drop i) := by
  obtain ⟨a', c', e, h1, h2, h3⟩ := h
  cases e
  refine ⟨_, _, by rw [List.length_drop, List.length_take, Nat.min_eq_left hj], by rw [List.length_drop, List.length_take]; omega, by omega, fun q x hq => ?_⟩
  rw [List.getElem?_drop, List.getElem?_take] at hq
  split at hq
  · obtain ⟨b, o, e, hc⟩ := h3 _ x hq
    cases e
    refine ⟨b, o + i, rfl, ?_⟩
    rw [Nat.add_assoc]
    exact hc
  · cases hq
/-- What spec.Header answers. -/
def HdrS (w : World) (ln ty fl st : Int) (e : Ending) (w' : World) : Prop := e = .returned (.tuple #[.int .i64 ln, .int .i64 ty, .int .i64 fl, .int .u32 st]) ∧ ∃ n, w' = w.drewN n
set_option maxRecDepth 10000 in
set_option maxHeartbeats 8000000 in
theorem headerS_any (a : Option Addr) (n c : Nat) (b : List Int) (w : World) (h : RdB w (.slice a n c) b) (hb : Bs b) (hn : 9 ≤ n) : Calls Tryd.prog 30 #[.slice a n c] w (HdrS w (hdOf b).ln (hdOf b).ty (hdOf b).fl (hdOf b).st) := by
  have h' := h
  obtain ⟨_, _, e, hc1, hc2, h3⟩ := h'
  cases e
  obtain ⟨q, o, e3, hx3⟩ := h3 3 _ (List.getElem?_eq_getElem (by omega))
  cases e3
  obtain ⟨_, _, e4, hx4⟩ := h3 4 _ (List.getElem?_eq_getElem (by omega))
  cases e4
  have g3 : b[3] = (hdOf b).ty := by
    show b[3] = b.getD 3 0
    rw [List.getD_eq_getElem?_getD, List.getElem?_eq_getElem]; rfl
  have g4 : b[4] = (hdOf b).fl := by
    show b[4] = b.getD 4 0
    rw [List.getD_eq_getElem?_getD, List.getElem?_eq_getElem]; rfl
  rw [g3] at hx3
  rw [g4] at hx4
  have n1 : ∀ m, Calls Tryd.prog 48 #[.slice (some ⟨q, o, none⟩) 3 c] (w.drewN m) fun e w' => e = .returned (.int .u32 (hdOf b).ln) ∧ w' = w.drewN m := by
    intro m
    have hl : (b.take 3).length = 3 := by simp; omega
    have := number_any (some ⟨q, o, none⟩) c (b.take 3) (w.drewN m) (by rw [hl]; exact h.take (m := 3) (by omega)) (hb.take 3) (by omega)
    rw [hl] at this
    refine this.mono fun e w' ⟨he, hw⟩ => ⟨?_, hw.symm⟩
    rw [he, numOf_3 b (by omega)]; rfl
  have n2 : ∀ m, Calls Tryd.prog 48 #[.slice (some ⟨q, o + 5, none⟩) 4 (c - 5)] (w.drewN m) fun e w' => e = .returned (.int .u32 (n32 b 5)) ∧ w' = w.drewN m := by
    intro m
    have hl : ((b.take 9).drop 5).length = 4 := by simp; omega
    have := number_any (some ⟨q, o + 5, none⟩) (c - 5) ((b.take 9).drop 5) (w.drewN m) (by rw [hl]; exact h.sub (i := 5) (j := 9) (by omega) (by omega)) ((hb.take 9).drop 5) (by omega)
    rw [hl] at this
    refine this.mono fun e w' ⟨he, hw⟩ => ⟨?_, hw.symm⟩
    rw [he, numOf_4 b (by omega)]
  have hb32 := Pl.n32_bd (b := b) hb 5
  have hand : bits .and .u32 (n32 b 5) 2147483647 = (hdOf b).st := u32_low _ hb32.1 hb32.2
  have hbd := Pl.hdOf_bd (b := b) hb
  have hbl : 9 ≤ b.length := hn
  obtain ⟨⟨t0, t1⟩, ⟨f0, f1⟩, ⟨l0, l1⟩, -⟩ := hbd
  have hn' : b.length ≤ 9223372036854775807 := by unfold maxLen at hc2; omega
  clear h3 h g3 g4 hb
  generalize (hdOf b).ty = ty at *
  generalize (hdOf b).fl = fl at *
  generalize (hdOf b).ln = ln at *
  generalize (hdOf b).st = st at *
  generalize n32 b 5 = n5 at *
  generalize b.length = len at *
  go_enter Tryd.func30, Tryd.ntmps30
  go_wp2
  go_quiet ((first | (go_at_call 48; with_reducible exact Calls.quiet_of_same (n1 _)) | (go_at_call 48; with_reducible exact Calls.quiet_of_same (n2 _))))
  go_wp2
  exact bodyPost_ret (v := .tuple #[.int .i64 ln, .int .i64 ty, .int .i64 fl, .int .u32 st]) (by simp [results, Tryd.results30, go_sem]) rfl ⟨rfl, nq, rfl⟩
end Go.Proofs.YtfdlbjibninakaaDoor

namespace Go.Proofs.YtfdlbjibninakaaDoor
open Go.RowKit
theorem xor_fin : ∀ x : Fin 256, bits .xor .u8 ((x.val : Nat) : Int) 128 = (((x.val : Nat) : Int) + 128) % 256 := of_decide_eq_true (by kernel_rfl)
theorem u8_xor {x : Int} (h0 : 0 ≤ x) (h1 : x < 256) : bits .xor .u8 x 128 = (x + 128) % 256 := by
  have := xor_fin ⟨x.toNat, by omega⟩
  simp only [Int.toNat_of_nonneg h0] at this
  exact this
/-- A byte of a row of the call's own, stored. -/
theorem row_put {w : World} {g n c j : Nat} {X : List Int} (h : Row w 5 1 (.slice (some ⟨g, 0, none⟩) n c) n (bv X)) (_hj : j < n) (y : Int) : Row (w.setCell ⟨g, j, none⟩ (.int .u8 y)) 5 1 (.slice (some ⟨g, 0, none⟩) n c) n (bv (X.set j y)) := by
  refine ⟨by have := h.1; simpa using this, ?_⟩
  rcases h.2 with ⟨h1, _⟩ | ⟨g', cap, cur, e, hb, hg, h4, h5, h6, h7⟩
  · cases h1
  · cases e
    refine .inr ⟨g, c, _, rfl, hb, blk_set hg j _, h4, h5, by simpa using h6, ?_⟩
    have e1 : (cur.setIfInBounds j (.int .u8 y)).toList = cur.toList.set j (.int .u8 y) := by simp
    rw [e1, List.take_set, h7]
    simp [bv, List.map_set]
/-- How often a header's bit is turned. -/
def turns (ps : List Int) (i : Nat) : Nat := (ps.filter (fun p => p == (i : Int))).length
theorem turns_snoc (ps : List Int) (p : Int) (i : Nat) : turns (ps ++ [p]) i = turns ps i + if p == (i : Int) then 1 else 0 := by
  unfold turns
  rw [List.filter_append, List.length_append]
  congr 1
  by_cases h : (p == (i : Int)) = true
  · simp [List.filter_cons, h]
  · simp [List.filter_cons, h]
theorem turned_succ {x : Int} (k : Nat) (h0 : 0 ≤ x) (h1 : x < 256) : (Pl.turned x k + 128) % 256 = Pl.turned x (k + 1) ∧ 0 ≤ Pl.turned x k ∧ Pl.turned x k < 256 := by
  unfold Pl.turned
  by_cases h : k % 2 = 1
  · rw [if_pos h, if_neg (by omega)]; omega
  · rw [if_neg h, if_pos (by omega)]; omega
theorem resB_byt {c : Nat → Nat} (n : Nat) : ∀ (b : List Int), b.length = n → Bs b → ∀ i, Bs (Pl.resB c i b) := by
  induction n using Nat.strongRecOn with
  | _ n ih =>
    intro b hn hb i
    by_cases h : b.length < 9
    · rw [Pl.resB_short h]; exact hb
    · rw [Pl.resB_long h]
      have hx := hb.at 5
      have ht := (turned_succ (c i) hx.1 hx.2).2
      intro x hx'
      rcases List.mem_append.1 hx' with h1 | h1
      · rcases List.mem_or_eq_of_mem_set (List.mem_of_mem_take h1) with h2 | h2
        · exact hb x h2
        · rw [h2]; exact ht
      · exact ih _ (by simp only [List.length_drop]; omega) _ rfl (hb.drop _) _ x h1
theorem row_at {w : World} {v : Value} {n j : Nat} {X : List Int} (h : Row w 5 1 v n (bv X)) {x : Int} (hx : X[j]? = some x) : ∃ g c, v = .slice (some ⟨g, 0, none⟩) n c ∧ w.cell? ⟨g, j, none⟩ = some (.int .u8 x) ∧ w.frozen? ⟨g, j, none⟩ = false := by
  obtain ⟨g, c, e, hc⟩ := own_cell h j (.int .u8 x) (by simp [bv, hx])
  refine ⟨g, c, e, hc, ?_⟩
  rcases h.2 with ⟨h1, _⟩ | ⟨g', cap, cur, e', hb, hg, h4, h5, h6, h7⟩
  · rw [e] at h1; cases h1
  · rw [e] at e'; cases e'
    exact blk_free hg j
/-- One header more. -/
theorem resv_step {c : Nat → Nat} {X L : List Int} {p i : Nat} (hX : X.length = L.length) (h9 : p + 9 ≤ L.length) (hq : X.drop p = L.drop p) (hr : Pl.resB c 0 L = X.take p ++ Pl.resB c i (L.drop p)) (m : Nat) (hm : m = (hdOf (L.drop p)).ln.toNat) :
    (X.set (p + 5) (Pl.turned (gb (L.drop p) 5) (c i))).drop (p + (9 + m)) = L.drop (p + (9 + m)) ∧ Pl.resB c 0 L = (X.set (p + 5) (Pl.turned (gb (L.drop p) 5) (c i))).take (p + (9 + m)) ++ Pl.resB c (i + 1) (L.drop (p + (9 + m))) := by
  subst hm
  have hl : (X.take p).length = p := by rw [List.length_take]; omega
  have hdl : (L.drop p).length = L.length - p := List.length_drop
  have e0 : X = X.take p ++ L.drop p := by rw [← hq, List.take_append_drop]
  have e1 : X.set (p + 5) (Pl.turned (gb (L.drop p) 5) (c i)) = X.take p ++ (L.drop p).set 5 (Pl.turned (gb (L.drop p) 5) (c i)) := by
    conv => lhs; rw [e0]
    rw [List.set_append_right _ _ (by omega), hl]
    congr 2
    omega
  constructor
  · rw [List.drop_set_of_lt (by omega), ← List.drop_drop, hq, List.drop_drop]
  · rw [hr, Pl.resB_long (by omega), e1]
    have e2 : p + (9 + (hdOf (L.drop p)).ln.toNat) = (X.take p).length + (9 + (hdOf (L.drop p)).ln.toNat) := by rw [hl]
    rw [← List.append_assoc]
    congr 1
    · rw [e2, List.take_length_add_append]
    · rw [List.drop_drop]
end Go.Proofs.YtfdlbjibninakaaDoor

namespace Go.Proofs.YtfdlbjibninakaaDoor
open Go.RowKit
set_option maxRecDepth 10000 in
set_option maxHeartbeats 16000000 in
theorem reserved_any {w : World} {L ps : List Int} {data which : Value} (hd : RdB w data L) (hp : RdI .i64 w which ps) (hb : Bs L) (hl : L.length ≤ 65536) (hpl : ps.length ≤ 9000000000000000000) : Calls Tryd.prog 25 #[data, which] w (RetB w (Pl.resB (turns ps) 0 L)) := by
  have hd' := hd
  obtain ⟨da, dc, rfl, -, -, -⟩ := hd'
  have hp' := hp
  obtain ⟨pa, pc, rfl, -, -, -⟩ := hp'
  have h1 := hd.below (w' := w.alloc (.cells #[] 5)) (((Kept.refl (· < w.heap.size) w).alloc _).below (Nat.le_refl _))
  have HP := Lib.hid hp
  clear hd hp
  go_enter Tryd.func25, Tryd.ntmps25
  go_wp2_with (at_builtin; refine wpList_app E5 rfl _ _ rfl (.slice (some ⟨w.heap.size, 0, none⟩) 0 0) 0 _ rfl (row_empty (blk_new w _)) L.length _ (src_of_rd h1) (by omega) (by unfold maxLen; omega) ?_; intro a' c' w1 hown hgrow hat)
  simp only [Nat.zero_add] at hown hat
  have hown' : Row w1 5 1 (.slice a' L.length c') L.length (bv L) := by simpa [bv] using hown
  have hB1 : Below w.heap.size w w1 := ((Kept.refl (· < w.heap.size) w).alloc _).grown hgrow (fun k hk h => by simp [Value.ownBlock] at hk; omega) |>.below (Nat.le_refl _)
  have hF : Fresh w.heap.size (.slice a' L.length c') := (show Fresh w.heap.size (.slice (some ⟨w.heap.size, 0, none⟩) 0 0) from fun g hg => by simp [Value.ownBlock] at hg; omega).app (by simp) hat
  have hcc : L.length ≤ c' ∧ c' ≤ maxLen := by obtain ⟨_, _, e, h2, h3⟩ := own_shape hown'; cases e; exact ⟨h2, h3⟩
  have HF := Lib.hid hF
  have hcm : c' ≤ 9223372036854775807 := by have := hcc.2; unfold maxLen at this; omega
  have hcl := hcc.1
  clear hat hgrow hown hF h1 hcc
  go_loopw [6, 7] (fun si sp wr => ∃ (i p : Nat) (X : List Int), si = .int .i64 i ∧ sp = .int .i64 p ∧ p ≤ 20000000 ∧ i ≤ p ∧ X.length = L.length ∧ Row wr 5 1 (.slice a' L.length c') L.length (bv X) ∧ X.drop p = L.drop p ∧ Pl.resB (turns ps) 0 L = X.take p ++ Pl.resB (turns ps) i (L.drop p) ∧ Below w.heap.size w wr) (fun _ sp _ => L.length - (intOf sp).toNat)
  case atStart => exact ⟨0, 0, L, rfl, rfl, by omega, Nat.le_refl _, rfl, hown', rfl, rfl, hB1⟩
  case round =>
    obtain ⟨i, p, X, rfl, rfl, hpb, hip, hX, hrow, hq, hres, hbel⟩ := hrel
    clear hown' hB1
    by_cases h9 : p + 9 ≤ L.length
    · obtain ⟨g, c, e, hc0, hf0⟩ := row_at (j := p) hrow (List.getElem?_eq_getElem (by omega))
      cases e
      have hQ : Bs (L.drop p) := hb.drop p
      have hrdX := rd_of_row hrow
      have hrd : RdB wr (.slice (some ⟨g, p, none⟩) (L.length - p) (c' - p)) (L.drop p) := by
        have := RdI.sub (i := p) (j := L.length) hrdX (by omega) (Nat.le_refl _)
        rw [Nat.zero_add, List.take_of_length_le (by omega), hq] at this
        exact this
      have hh := headerS_any (some ⟨g, p, none⟩) (L.length - p) (c' - p) (L.drop p) wr hrd hQ (by omega)
      have hln := Pl.ln_bd (b := L.drop p) hQ
      obtain ⟨m, hm⟩ : ∃ m : Nat, (hdOf (L.drop p)).ln = (m : Int) := ⟨(hdOf (L.drop p)).ln.toNat, by omega⟩
      rw [hm] at hh hln
      have hst := resv_step hX h9 hq hres m (by omega)
      have hx5 : 0 ≤ gb (L.drop p) 5 ∧ gb (L.drop p) 5 < 256 := hQ.at 5
      have hX5 : X[p + 5]? = some (gb (L.drop p) 5) := by
        have : (L.drop p)[5]? = some (gb (L.drop p) 5) := by
          unfold gb
          rw [List.getD_eq_getElem?_getD, List.getElem?_eq_getElem (by rw [List.length_drop]; omega)]
          rfl
        rw [← hq, List.getElem?_drop] at this
        rw [this, hq]
      have HST := Lib.hid hst
      have HRES := Lib.hid hres
      have HQQ := Lib.hid hq
      have HX5 := Lib.hid hX5
      have HM := Lib.hid hm
      have HXL := Lib.hid hX
      clear hst hres hq hX5 hm hrd hrdX hX hc0 hf0
      go_wp2_with (go_at_call 30; refine hh.mono ?_; rintro e w2 ⟨rfl, nd, rfl⟩)
      have hset : X.set (p + 5) (Pl.turned (gb (L.drop p) 5) 0) = X := by
        obtain ⟨hlt, he⟩ := List.getElem?_eq_some_iff.1 HX5.out
        have e : Pl.turned (gb (L.drop p) 5) 0 = gb (L.drop p) 5 := rfl
        rw [e, ← he, List.set_getElem_self]
      have HSET := Lib.hid hset
      clear hset hh
      have hrow2 : Row (wr.drewN nd) 5 1 (.slice (some ⟨g, 0, none⟩) L.length c') L.length (bv X) := hrow
      have hbel2 : Below w.heap.size w (wr.drewN nd) := (Kept.ofBelow hbel).drawn nd |>.below (Nat.le_refl _)
      obtain ⟨x5, hx5e⟩ : ∃ x5, gb (L.drop p) 5 = x5 := ⟨_, rfl⟩
      rw [hx5e] at hx5
      have HXE := Lib.hid hx5e
      clear hx5e
      go_loopw [35] (fun sk wi => ∃ k : Nat, k ≤ ps.length ∧ sk = .int .i64 k ∧ Row wi 5 1 (.slice (some ⟨g, 0, none⟩) L.length c') L.length (bv (X.set (p + 5) (Pl.turned x5 (turns (ps.take k) i)))) ∧ Below w.heap.size w wi) (fun sk _ => ps.length - (intOf sk).toNat)
      case atStart => exact ⟨0, Nat.zero_le _, rfl, by (have := HSET.out; rw [HXE.out] at this; rw [show turns (ps.take 0) i = 0 from rfl, this]; exact hrow2), hbel2⟩
      case round =>
        obtain ⟨k, hk, rfl, hrw, hbi⟩ := hrel
        clear hrow2 hbel2 hrow hbel
        by_cases hkl : k < ps.length
        · obtain ⟨_, _, e, _, _, h3⟩ := HP.out.below hbi
          cases e
          obtain ⟨bw, ow, rfl, hcw⟩ := h3 k _ (List.getElem?_eq_getElem hkl)
          have hts : turns (ps.take (k + 1)) i = turns (ps.take k) i + if ps[k] == (i : Int) then 1 else 0 := by rw [List.take_succ_eq_append_getElem hkl, turns_snoc]
          have HTS := Lib.hid hts
          clear h3 hts
          generalize ps[k] = y at hcw HTS
          generalize turns (ps.take k) i = t at *
          have htu := turned_succ t hx5.1 hx5.2
          by_cases hy : y = (i : Int)
          · subst hy
            obtain ⟨g', c2, e, hcc, hff⟩ := row_at (j := p + 5) hrw (x := Pl.turned x5 t) (by rw [List.getElem?_set_self (by rw [HXL.out]; omega)])
            cases e
            have hxor := u8_xor htu.2.1 htu.2.2
            have HTU := Lib.hid htu
            have HRW := Lib.hid hrw
            clear htu hrw
            generalize Pl.turned x5 t = z at *
            go_wp2
            go_roundw
            case rel =>
              refine ⟨k + 1, by omega, by go_num, ?_, hbi.setCell (HF.out g rfl) _⟩
              have h := row_put HRW.out (j := p + 5) (by omega) ((z + 128) % 256)
              rw [List.set_set, HTU.out.1] at h
              rw [HTS.out, if_pos (by simp), HTU.out.1]
              exact h
            case measure => simp [intOf]; omega
          · have hyb : (y == (i : Int)) = false := beq_false_of_ne hy
            have HRW := Lib.hid hrw
            clear htu hrw hy
            go_wp2
            go_roundw
            case rel => exact ⟨k + 1, by omega, by go_num, by (rw [HTS.out, hyb]; exact HRW.out), hbi⟩
            case measure => simp [intOf]; omega
        · have hke : k = ps.length := by omega
          subst hke
          rw [List.take_length] at hrw
          have HRW := Lib.hid hrw
          clear hrw
          go_wp2
          go_roundw
          case rel =>
            refine ⟨i + 1, p + (9 + m), _, by go_num, by go_num, by omega, by omega, by rw [List.length_set]; exact HXL.out, HRW.out, ?_, ?_, hbi⟩
            · have := HST.out.1; rw [HXE.out] at this; exact this
            · have := HST.out.2; rw [HXE.out] at this; exact this
          case measure => simp [intOf]; omega
    · have hn9 : ¬ (p : Int) + 9 ≤ L.length := by omega
      have HRES := Lib.hid hres
      have HQQ := Lib.hid hq
      have HXL := Lib.hid hX
      clear hres hq hX
      go_wp2
      go_ret
      refine ⟨_, rfl, hbel, ?_, HF.out⟩
      have e : Pl.resB (turns ps) 0 L = X := by
        rw [HRES.out, Pl.resB_short (by rw [List.length_drop]; omega), ← HQQ.out, List.take_append_drop]
      rw [e, HXL.out]
      exact hrow
set_option maxRecDepth 10000 in
set_option maxHeartbeats 8000000 in
theorem fnIgnored_any {B : Nat} {aE aU aT : Addr} {w : World} {L ps : List Int} {data which : Value} (hV : GV B w aE aU aT) (hB : B ≤ w.heap.size) (hd : RdB w data L) (hp : RdI .i64 w which ps) (bs : Bs L) :
    Calls Tryd.prog 8 #[data, which] w (YesEnd w) := by
  have hd' := hd
  have hp' := hp
  obtain ⟨da, dc, rfl, -, -, -⟩ := hd'
  obtain ⟨pa, pc, rfl, -, -, -⟩ := hp'
  by_cases h1 : (2147483647 : Int) < L.length
  · clear hd hp
    go_enter Tryd.func8, Tryd.ntmps8
    go_wp2
    go_ret
    exact ⟨rfl, Below.refl _ _⟩
  by_cases h0 : (2147483647 : Int) < ps.length
  · clear hd hp
    go_enter Tryd.func8, Tryd.ntmps8
    go_wp2
    go_ret
    exact ⟨rfl, Below.refl _ _⟩
  by_cases h2 : (65536 : Int) < L.length
  · clear hd hp
    go_enter Tryd.func8, Tryd.ntmps8
    go_wp2
    go_ret
    exact ⟨rfl, Below.refl _ _⟩
  have hrv := reserved_any hd hp bs (by omega) (by omega)
  obtain ⟨hs1, hs2⟩ := readAll_small (m := mxOf 0) (o := 0) bs (by omega)
  have hmat := Pl.read_same (m := mxOf 0) (o := 0) (b := L) (q := true)
  have hr1 := fun (w' : World) (hb : Below w.heap.size w w') => implRead_any (pcs := .slice none 0 0) (ps := []) (hV.below hb) (Nat.le_trans hB hb.size) (hd.below hb) ⟨none, 0, rfl, Nat.le_refl _, Nat.zero_le _, fun j x h => by simp at h⟩ bs (by omega) 0 (by omega) (by omega)
  have hlen := Pl.resB_len (c := turns ps) _ L rfl 0
  have hr2 := fun (w' : World) (v : Value) (hb : Below w.heap.size w w') (hv : RdB w' v (Pl.resB (turns ps) 0 L)) => implRead_any (pcs := .slice none 0 0) (ps := []) (hV.below hb) (Nat.le_trans hB hb.size) hv ⟨none, 0, rfl, Nat.le_refl _, Nat.zero_le _, fun j x h => by simp at h⟩ (resB_byt _ L rfl bs 0) (by omega) 0 (by omega) (by omega)
  rw [Pl.read_ignored _ L rfl bs 0 0] at hr2
  have hne : 0 < (readAll (mxOf 0) 0 L).length := List.length_pos_iff.2 Pl.readAll_ne
  generalize readAll (mxOf 0) 0 L = rs at *
  have R1 := Lib.hid hr1
  have R2 := Lib.hid hr2
  have HM := Lib.hid hmat
  have HS := Lib.hid hs2
  clear hr1 hr2 hmat hs2 hd hp hlen
  go_enter Tryd.func8, Tryd.ntmps8
  go_wp2_with fail
  refine hrv.mono ?_
  rintro e w0 ⟨v0, rfl, b0, o0, f0⟩
  clear hrv
  have hv0 := Lib.hid (rd_of_row o0)
  obtain ⟨ra, rc, rfl, -, -⟩ := own_shape o0
  clear o0 f0
  go_wp2_with fail
  refine (R1.out w0 b0).mono ?_
  rintro e w1 ⟨v1, rfl, b1, hR1, hf1⟩
  have r1 := results_any v1 rs w1 hR1 hs1 HS.out
  go_wp2_with fail
  refine r1.mono ?_
  rintro e w2 ⟨v2, rfl, b2, hR2, hf2⟩
  clear r1 hR1 hf1
  obtain ⟨va2, vc2, rfl, -, -⟩ := own_shape hR2.choose_spec.1
  have H2 := Lib.hid hR2
  have b02 : Below w0.heap.size w0 w2 := Below.step b1 b2
  have hr3 := R2.out w2 _ (Below.step b0 b02) (hv0.out.below b02)
  clear hR2 hf2
  go_wp2_with fail
  refine hr3.mono ?_
  rintro e w3 ⟨v3, rfl, b3, hR3, hf3⟩
  have r3 := results_any v3 rs w3 hR3 hs1 HS.out
  clear hr3
  go_wp2_with fail
  refine r3.mono ?_
  rintro e w4 ⟨v4, rfl, b4, hR4, hf4⟩
  clear r3 hR3 hf3
  have b24 : Below w2.heap.size w2 w4 := Below.step b3 b4
  have hm := matches_yes HM.out (H2.out.stay b24) hR4
  have b14 : Below w.heap.size w w4 := Below.step (Below.step b0 b02) b24
  obtain ⟨va4, vc4, rfl, -, -⟩ := own_shape hR4.choose_spec.1
  clear hR4 hf4
  go_wp2_with fail
  refine hm.mono ?_
  rintro e w5 ⟨rfl, b5⟩
  clear hm
  have b15 := Below.step b14 b5
  have hrd := reads_any (hV.below b15) (Nat.le_trans hB b15.size)
  go_wp2_with (go_at_call 28; refine hrd.mono ?_; rintro e w6 ⟨rfl, b6⟩)
  go_ret
  exact ⟨rfl, Below.step b15 b6⟩
end Go.Proofs.YtfdlbjibninakaaDoor

namespace Go.Proofs.YtfdlbjibninakaaDoor.fnIgnored
open Go.ChangeShapes Go.WideShapes Go.ChangeAt Go.RowKit

set_option maxRecDepth 100000 in
theorem contract (H : Type) (enc : TypeId × Value → H) (W : World) (base : Nat) (args : Array Value) (ds gs : List (DataW H)) (before : List MemPlace)
    (hval : ∀ (j : Nat) t v, Tryd.f8.params[j]? = some t → args[j]? = some v → Value.okWide Tryd.prog W .any base t v)
    (hW : DataW.Whole enc Tryd.prog Tryd.f8.params.toList Rows.fnIgnoredSpec.vars false W args.toList ds gs before) (hL : laidMetH Tryd.prog Rows.fnIgnoredRow.laid W) (hS : W.ShapedOpen Tryd.prog) :
    Calls Tryd.prog 8 args W fun e W' => ∃ v, e = .returned v ∧ Rows.fnIgnoredSpec.post enc Tryd.prog Tryd.f8 false true false false W args v W' := by
  have hW' := hW
  obtain ⟨p, q, hA0, hV, rfl, hfz, hnd⟩ := hW
  have hA : DataW.TrodAll enc Tryd.prog W 0 (fun _ => true) true Tryd.f8.params.toList args.toList ds p := hA0
  rw [Tryd.params8] at hA hval
  obtain ⟨v0, v1, d0, d1, p0, p1, rfl, rfl, rfl, h0, h1⟩ := trodAll_two hA
  obtain ⟨rfl, rfl⟩ := trodVars_none hV
  obtain ⟨l, hl, hwf⟩ := open_rd Tryd.underlying23 Tryd.underlying5 (by kernel_rfl) (hval 0 23 v0 rfl rfl) h0
  obtain ⟨ps, hp, -⟩ := open_rd Tryd.underlying56 Tryd.underlying3 (by kernel_rfl) (hval 1 56 v1 rfl rfl) h1
  obtain ⟨aE, aU, aT, hG⟩ := gv_of_reads hS hL
  refine (fnIgnored_any hG (Nat.le_refl _) hl hp (bs_of_wf hwf)).mono fun e W' ⟨he, hb⟩ => ?_
  subst he
  exact ⟨_, rfl, law_post rfl rfl (by kernel_rfl) hW' rfl hb⟩

theorem laid_met (os : Os) : laidMetH Tryd.prog Rows.fnIgnoredRow.laid ((World.doorLaid Tryd.prog 187 os).forCall (fun _ _ => 0) ⟨#[], #[.slice none 0 0, .slice none 0 0], []⟩).memory :=
  laidMetH_of_parts3 (fuel := 8) (laidMet_of_run' 8 (by kernel_rfl) (by kernel_rfl)) (by kernel_rfl) (by kernel_rfl)
theorem reads (os : Os) {H : Type} (enc : TypeId × Value → H) : ∃ places, DataW.whole enc Tryd.prog ((World.doorLaid Tryd.prog 187 os).forCall (fun _ _ => 0) ⟨#[], #[.slice none 0 0, .slice none 0 0], []⟩).memory Tryd.f8.params.toList Rows.fnIgnoredSpec.vars false
    #[Value.slice none 0 0, .slice none 0 0].toList 8 = some ([.nil, .nil], [], places) :=
  ⟨[], by kernel_rfl⟩

set_option maxRecDepth 100000 in
theorem lifted (os : Os) (started : os.Started) (H : Type) (enc : TypeId × Value → H) (F : Stop.Interp) :
    ReturnsInHanded {} Tryd.checked os 8 .any ((OpenSpec.ofChange Rows.fnIgnoredSpec).preRow enc Tryd.prog Tryd.f8 Rows.fnIgnoredRow.domain false Rows.fnIgnoredRow.laid)
      (((OpenSpec.ofChange Rows.fnIgnoredSpec).at F).post enc Tryd.prog Tryd.f8 false true false false) := by
  obtain ⟨places, hx⟩ := reads os enc
  refine returnsInHanded_of_row (C := Tryd.checked) (s := OpenSpec.ofChange Rows.fnIgnoredSpec) own_knob started (by kernel_rfl) Tryd.func8
    (witness_row_atRef (enc := enc) (C := Tryd.checked) false (World.doorLaid Tryd.prog 187 os) #[.slice none 0 0, .slice none 0 0] rfl (by kernel_rfl) (by kernel_rfl) (by kernel_rfl)
      (OpenSpec.preRow_of_cond 8 hx (by kernel_rfl) (fun k hk => by cases hk) (by kernel_rfl) (laid_met os))) ?_
  intro W base args ds gs before hval hW _ _ _ hL hS _
  exact contract H enc W base args ds gs before hval hW hL hS

theorem said : Rows.FnIgnoredSaid :=
  OpenClaim.holds_of_cond 8 Tryd.f8 rfl rfl rfl rfl rfl rfl rfl ⟨rfl, rfl, rfl, rfl, rfl⟩ rfl rfl rfl rfl rfl (by kernel_rfl) Tryd.func8 (by kernel_rfl)
    (of_decide_eq_true (by kernel_rfl)) (by unfold Func.isWrapper; rw [if_neg (of_decide_eq_false (by kernel_rfl))]; exact ⟨rfl, rfl⟩)
    (fun os started H enc _ F => by rw [OpenClaim.pre_eq_preRow]; exact lifted os started H enc F)

theorem card : Rows.FnIgnoredCardSaid :=
  Claim7.holds_tied_plain_at .later [] _ _ _ _ said (fun _ h => by cases h) (by kernel_rfl) (fun _ h => by cases h) fnIgnored_row_tie rfl ⟨rfl, rfl⟩ (by kernel_rfl) rfl
    (named_of (by kernel_rfl) Tryd.func8 (by kernel_rfl) (by kernel_rfl)) (by kernel_rfl)
#print axioms card
end Go.Proofs.YtfdlbjibninakaaDoor.fnIgnored
