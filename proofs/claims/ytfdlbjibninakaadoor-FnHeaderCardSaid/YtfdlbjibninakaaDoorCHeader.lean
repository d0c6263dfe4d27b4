/- FnHeader is proved: the nine bytes that bytes begin with are read by the package as by the reference; fewer bytes are no header; where the statement asks nothing it is true at once. The card is tied to the program's text. -/
import Derived.Test.YtfdlbjibninakaaDoorFrame
import Derived.Test.YtfdlbjibninakaaDoorFault
import Derived.Test.YtfdlbjibninakaaDoorPk
import Derived.Test.YtfdlbjibninakaaDoorRfh
import Derived.Test.YtfdlbjibninakaaDoorMl2
import Derived.Test.YtfdlbjibninakaaDoorLreads
import Derived.LaidLaws
import Derived.LaidHandle
import Derived.Deep.QuietTactic
import Derived.BigQuiet
import Derived.RegionTactic
set_option linter.unusedVariables false
set_option linter.unusedSimpArgs false
namespace Go.Proofs.YtfdlbjibninakaaDoor
open Go.ChangeShapes Go.WideShapes Go.RowKit

theorem rowEs (u : TypeId) (h : Tryd.prog.typeName? 3 u = some "*errors.errorString") : u = 247 := by
  have star : "*" ++ "errors.errorString" = "*errors.errorString" := by decide
  exact typeName_ptr_named (nm := "errors.errorString") (by rw [star]; kernel_rfl) (by kernel_rfl) (by decide) u (by rw [star]; exact h)
theorem cellsEs : Tryd.prog.cellsOf 249 = 1 := by kernel_rfl
theorem cellsStr : Tryd.prog.cellsOf 9 = 1 := by kernel_rfl

/-- A laid error. -/
def sentD (text : List UInt8) : DataW Unit := .iface "*errors.errorString" (.ptr (.agg [.lit (.string text)]))
set_option maxRecDepth 100000 in
theorem sent_cons {W : World} {n : String} {text : List UInt8} {r : List (String × DataW Unit)} {ps : List MemPlace} {g : Nat} (hg : Tryd.prog.globalNamed n = some g) (hgt : (Tryd.prog.globals[g]?).map (·.type) = some 75)
    (h : DataW.LaidVars Tryd.prog W ((n, sentD text) :: r) ps)
    (hrows : ∀ b off, MemPlace.cell b off ∈ ps → (∃ c t, W.heap[b]? = some (.cells c t (0, 0))) ∧ ∀ u v, W.cell? ⟨b, off, none⟩ = some (.iface u v) → Value.okWide Tryd.prog W .any 0 u v) :
    ∃ (a : Addr) (q : List MemPlace) (c : Array Value) (t : TypeId), W.cell? ⟨g, 0, none⟩ = some (.iface 247 (.pointer (some a))) ∧ W.heap[a.block]? = some (.cells c t (0, 0)) ∧
      DataW.LaidVars Tryd.prog W r q ∧ ps = [.cell g 0, .cell a.block a.off] ++ q := by
  obtain ⟨g0, t0, cs0, f0, p0, q0, hg0, ht0, hv0, hd0, hr, e0⟩ := h
  obtain rfl := Option.some.inj (hg.symm.trans hg0)
  obtain rfl := Option.some.inj (hgt.symm.trans ht0)
  subst e0
  obtain ⟨l0⟩ := cs0
  have ok0 : ∀ u v, l0 = [.iface u v] → Value.okWide Tryd.prog W .any 0 u v := fun u v e => by
    subst e
    exact (hrows g 0 (by simp [MemPlace.row])).2 u v (by simpa using World.var?_cell hg0 hv0 0)
  obtain ⟨a0, s0, rfl, hc0, hs0, hz0, rfl⟩ := errorString_of_trod Tryd.underlying75 rowEs Tryd.underlying247 Tryd.underlying249 rfl rfl Tryd.underlying9 cellsEs cellsStr hd0 ok0
  obtain ⟨c0, t0, hb0⟩ := (hrows a0.block a0.off (by simp [MemPlace.row])).1
  refine ⟨a0, q0, c0, t0, ?_, hb0, hr, by simp [MemPlace.row]⟩
  simpa using World.var?_cell hg0 hv0 0

theorem rtypeT : (Tryd.prog.cutTypes.find? (·.1 == "internal/reflectlite.rtype")).map (·.2) = some 233 := by kernel_rfl
theorem oneRowErr : ((List.range 289).filter fun t => Tryd.prog.rowNamed t [101, 114, 114, 111, 114]) = [75] := by kernel_rfl
theorem typesSize : Tryd.prog.types.size = 289 := by kernel_rfl
theorem handleErr : typeHandle Tryd.prog 75 = hd 75 := by kernel_rfl
theorem glET : Tryd.prog.globalNamed "errors.errorType" = some 4 := by kernel_rfl
theorem handle_cell {W : World} {l : List (String × DataW Unit)} (h : handlesMet Tryd.prog l W) (hm : ("errors.errorType", DataW.iface "internal/reflectlite.rtype" (.agg [.ptr (.lit (.string [101, 114, 114, 111, 114]))])) ∈ l) :
    W.cell? ⟨4, 0, none⟩ = some (.iface 233 (.agg #[hd 75])) := by
  obtain ⟨name, u, ty, e1, e2, e3, e4, e5⟩ := h _ hm
  have en : name = [101, 114, 114, 111, 114] := (Option.some.inj e1).symm
  subst en
  obtain rfl := Option.some.inj (rtypeT.symm.trans e2)
  have hm : ty ∈ (List.range 289).filter fun t => Tryd.prog.rowNamed t [101, 114, 114, 111, 114] := List.mem_filter.2 ⟨List.mem_range.2 (by rw [← typesSize]; exact e3), e4⟩
  rw [oneRowErr] at hm
  obtain rfl := List.mem_singleton.1 hm
  rw [handleErr] at e5
  simpa using World.var?_cell glET e5 0

theorem globs_le {W : World} (h : W.ShapedOpen Tryd.prog) : 11 ≤ W.heap.size := by
  have hg : Tryd.prog.globals.size = 11 := by kernel_rfl
  have h0 : 11 < (begin Tryd.prog (fun _ _ => 0) default).world.heap.size := of_decide_eq_true (by kernel_rfl)
  obtain ⟨o, o0, h1, -, -⟩ := h.2 11 (by rw [hg]; exact Nat.le_refl _) h0
  obtain ⟨hlt, -⟩ := Array.getElem?_eq_some_iff.1 h1
  exact Nat.le_of_lt hlt

theorem glE : Tryd.prog.globalNamed "io.EOF" = some 0 := by kernel_rfl
theorem glU : Tryd.prog.globalNamed "io.ErrUnexpectedEOF" = some 1 := by kernel_rfl
theorem glT : Tryd.prog.globalNamed "http2frames/pub/http2frames.ErrFrameTooLarge" = some 2 := by kernel_rfl
theorem glB : Tryd.prog.globalNamed "io.ErrShortBuffer" = some 10 := by kernel_rfl
theorem gtB : (Tryd.prog.globals[10]?).map (·.type) = some 75 := by kernel_rfl
theorem gtE : (Tryd.prog.globals[0]?).map (·.type) = some 75 := by kernel_rfl
theorem gtU : (Tryd.prog.globals[1]?).map (·.type) = some 75 := by kernel_rfl
theorem gtT : (Tryd.prog.globals[2]?).map (·.type) = some 75 := by kernel_rfl

theorem lt_of_block {W : World} {b : Nat} {c : Array Value} {t : TypeId} (h : W.heap[b]? = some (.cells c t (0, 0))) : b < W.heap.size := (Array.getElem?_eq_some_iff.1 h).1

/-- The laid variables of reading. -/
theorem gv_of_reads {W : World} {t0 t1 t2 t3 : List UInt8} (hS : W.ShapedOpen Tryd.prog) (h : laidMet Tryd.prog [("io.ErrShortBuffer", sentD t0), ("io.EOF", sentD t1), ("io.ErrUnexpectedEOF", sentD t2), ("http2frames/pub/http2frames.ErrFrameTooLarge", sentD t3)] W ∧
    handlesMet Tryd.prog [("errors.errorType", DataW.iface "internal/reflectlite.rtype" (.agg [.ptr (.lit (.string [101, 114, 114, 111, 114]))]))] W) : ∃ aE aU aT, GV W.heap.size W aE aU aT := by
  obtain ⟨⟨ps, hl, hnd, hrows⟩, hh⟩ := h
  have hH := handle_cell hh (List.mem_singleton.2 rfl)
  obtain ⟨a0, q, c0, t0, h0, b0, hl0, rfl⟩ := sent_cons glB gtB hl hrows
  obtain ⟨aE, q, cE, tE, hE, bE, hl1, rfl⟩ := sent_cons glE gtE hl0 (fun b off hm => hrows b off (List.mem_append_right _ hm))
  obtain ⟨aU, q, cU, tU, hU, bU, hl2, rfl⟩ := sent_cons glU gtU hl1 (fun b off hm => hrows b off (List.mem_append_right _ (List.mem_append_right _ hm)))
  obtain ⟨aT, q, cT, tT, hT, bT, hl3, rfl⟩ := sent_cons glT gtT hl2 (fun b off hm => hrows b off (List.mem_append_right _ (List.mem_append_right _ (List.mem_append_right _ hm))))
  refine ⟨aE, aU, aT, hE, hU, hT, hH, ⟨_, _, bE⟩, ⟨_, _, bU⟩, ⟨_, _, bT⟩, ?_, ?_, ?_, globs_le hS, lt_of_block bE, lt_of_block bU, lt_of_block bT⟩
  · rintro rfl; simp at hnd
  · rintro rfl; simp at hnd
  · rintro rfl; simp at hnd
end Go.Proofs.YtfdlbjibninakaaDoor

namespace Go.Proofs.YtfdlbjibninakaaDoor
open Go.ChangeShapes Go.WideShapes Go.RowKit

theorem open_rd {P : Program} {H : Type} {enc : TypeId × Value → H} {W : World} {base : Nat} {t e : TypeId} {k : IntKind} {v : Value} {d : DataW H} {p : List MemPlace} (ht : P.underlying t = some (.slice e)) (he : P.underlying e = some (.int k)) (hc : P.cellsOf e = 1)
    (hval : Value.okWide P W .any base t v) (h : DataW.Trod enc P W 0 (fun _ => true) true t v d p) : ∃ l, RdI k W v l ∧ ∀ x ∈ l, (Lit.int k x).wf = true := by
  obtain ⟨a0, len, cap, rfl⟩ := okWide_slice ht hval
  obtain ⟨fuel, hf⟩ := h
  rcases open_ints ht he hc hf with ⟨hcs, -⟩ | ⟨a, len', cap', zs, hcs, -, hle, hmax, hall, -, hcell, hwf⟩
  · simp [Value.cells] at hcs
    obtain ⟨rfl, rfl, rfl⟩ := hcs
    exact ⟨[], ⟨none, 0, rfl, Nat.le_refl _, Nat.zero_le _, fun j x hj => by simp at hj⟩, fun x hx => by cases hx⟩
  · simp [Value.cells] at hcs
    obtain ⟨rfl, rfl, rfl⟩ := hcs
    simp only [if_true] at hall
    refine ⟨zs.take len, ⟨some a, cap, ?_, ?_, hmax, ?_⟩, fun x hx => hwf x (List.mem_of_mem_take hx)⟩
    · rw [List.length_take, hall, Nat.min_eq_left hle]
    · rw [List.length_take, hall, Nat.min_eq_left hle]; exact hle
    · intro j x hj
      have hjl : j < len := by
        have := (List.getElem?_eq_some_iff.1 hj).1
        simp at this
        omega
      rw [List.getElem?_take_of_lt hjl] at hj
      obtain ⟨hjz, hjx⟩ := List.getElem?_eq_some_iff.1 hj
      obtain ⟨b, off, rfl, hc'⟩ := ints_at hcell (by omega)
      refine ⟨b, off, rfl, ?_⟩
      rw [hc' j hjz, ← hjx]
      simp [List.getD, hj, hjx]
theorem bs_of_wf {l : List Int} (h : ∀ x ∈ l, (Lit.int .u8 x).wf = true) : Bs l := fun x hx => by
  have := h x hx
  simp [Lit.wf, IntKind.min, IntKind.max, IntKind.signed, IntKind.bits] at this
  omega
end Go.Proofs.YtfdlbjibninakaaDoor

namespace Go.Proofs.YtfdlbjibninakaaDoor
open Go.RowKit
/-- The number of some bytes. -/
def numOf (l : List Int) : Int := l.foldl (fun n c => n * 256 + c) 0
theorem numOf_snoc (l : List Int) (c : Int) : numOf (l ++ [c]) = numOf l * 256 + c := by simp [numOf]
theorem numOf_bd' (l : List Int) : ∀ (n m : Int), Bs l → 0 ≤ n → n < m → 0 ≤ l.foldl (fun n c => n * 256 + c) n ∧ l.foldl (fun n c => n * 256 + c) n < m * 256 ^ l.length := by
  induction l with
  | nil => intro n m _ h0 h1; simp; exact ⟨h0, h1⟩
  | cons c l ih =>
    intro n m hb h0 h1
    have hc := hb c (List.mem_cons_self ..)
    have := ih (n * 256 + c) (m * 256) (fun x hx => hb x (List.mem_cons_of_mem _ hx)) (by omega) (by omega)
    rw [List.foldl_cons, List.length_cons, Int.pow_succ, Int.mul_comm (256 ^ l.length), ← Int.mul_assoc]
    exact this
theorem numOf_bd (l : List Int) (hb : Bs l) : 0 ≤ numOf l ∧ numOf l < 256 ^ l.length := by
  have := numOf_bd' l 0 1 hb (by omega) (by omega)
  rw [Int.one_mul] at this
  exact this
set_option maxRecDepth 10000 in
set_option maxHeartbeats 4000000 in
theorem number_any (a : Option Addr) (c : Nat) (l : List Int) (w : World) (h : RdB w (.slice a l.length c) l) (hb : Bs l) (hl : l.length ≤ 4) : Calls Tryd.prog 48 #[.slice a l.length c] w fun e w' => e = .returned (.int .u32 (numOf l)) ∧ w = w' := by
  obtain ⟨_, _, e, _, _, h3⟩ := h
  cases e
  have H3 := Lib.hid h3
  clear h3
  go_enter Tryd.func48, Tryd.ntmps48
  go_wp2
  go_loop [3, 8] (fun n i => ∃ k : Nat, k ≤ l.length ∧ i = .int .i64 k ∧ n = .int .u32 (numOf (l.take k))) (fun _ i => l.length - (intOf i).toNat)
  case atStart => exact ⟨0, Nat.zero_le _, rfl, rfl⟩
  case round =>
    obtain ⟨k, hk, rfl, rfl⟩ := hrel
    by_cases hlt : k < l.length
    · obtain ⟨b, o, rfl, hc⟩ := H3.out k _ (List.getElem?_eq_getElem hlt)
      have hbd := numOf_bd (l.take k) (hb.take k)
      have hx := hb _ (List.getElem_mem hlt)
      have hs : numOf (l.take (k + 1)) = numOf (l.take k) * 256 + l[k] := by rw [List.take_succ_eq_append_getElem hlt, numOf_snoc]
      have h24 : numOf (l.take k) < 16777216 := by
        have e : (l.take k).length = k := by rw [List.length_take]; omega
        rw [e] at hbd
        have : k ≤ 3 := by omega
        match k, this with
        | 0, _ => omega
        | 1, _ => omega
        | 2, _ => omega
        | 3, _ => omega
      have h0 := hbd.1
      have hor : bits .or .u32 (numOf (l.take k) * 256) l[k] = numOf (l.take k) * 256 + l[k] := u32_or_add' 8 hx.1 (by simp; omega) h0 (by simp; omega)
      have HS := Lib.hid hs
      clear hs hbd
      generalize numOf (l.take k) = n at *
      generalize l[k] = y at *
      go_wp2
      go_round
      case rel => exact ⟨k + 1, by omega, by go_num, by rw [HS.out]⟩
      case measure => simp [intOf]; omega
    · have hkl : k = l.length := by omega
      subst hkl
      rw [List.take_length]
      go_wp2
      go_ret
      exact ⟨rfl, rfl⟩
theorem numOf_3 (b : List Int) (h : 3 ≤ b.length) : numOf (b.take 3) = gb b 0 * 65536 + gb b 1 * 256 + gb b 2 := by
  match b, h with
  | x :: y :: z :: b, _ => simp [numOf, gb]; omega
theorem numOf_4 (b : List Int) (h : 9 ≤ b.length) : numOf ((b.take 9).drop 5) = n32 b 5 := by
  match b, h with
  | a0 :: a1 :: a2 :: a3 :: a4 :: a5 :: a6 :: a7 :: a8 :: b, _ => simp [numOf, n32, gb]; omega
theorem RdI.sub {k : IntKind} {w : World} {b o n c : Nat} {l : List Int} (h : RdI k w (.slice (some ⟨b, o, none⟩) n c) l) {i j : Nat} (hi : i ≤ j) (hj : j ≤ n) : RdI k w (.slice (some ⟨b, o + i, none⟩) (j - i) (c - i)) ((l.take j).drop i) := by
  obtain ⟨a', c', e, h1, h2, h3⟩ := h
  cases e
  refine ⟨_, _, by rw [List.length_drop, List.length_take, Nat.min_eq_left hj], by rw [List.length_drop, List.length_take]; omega, by omega, fun q x hq => ?_⟩
  rw [List.getElem?_drop, List.getElem?_take] at hq
  split at hq
  · obtain ⟨b, o, e, hc⟩ := h3 _ x hq
    cases e
    refine ⟨b, o + i, rfl, ?_⟩
    rw [Nat.add_assoc]
    exact hc
  · cases hq
/-- What spec.Header answers. -/
def HdrS (w : World) (ln ty fl st : Int) (e : Ending) (w' : World) : Prop := e = .returned (.tuple #[.int .i64 ln, .int .i64 ty, .int .i64 fl, .int .u32 st]) ∧ ∃ n, w' = w.drewN n
set_option maxRecDepth 10000 in
set_option maxHeartbeats 8000000 in
theorem headerS_any (a : Option Addr) (n c : Nat) (b : List Int) (w : World) (h : RdB w (.slice a n c) b) (hb : Bs b) (hn : 9 ≤ n) : Calls Tryd.prog 30 #[.slice a n c] w (HdrS w (hdOf b).ln (hdOf b).ty (hdOf b).fl (hdOf b).st) := by
  have h' := h
  obtain ⟨_, _, e, hc1, hc2, h3⟩ := h'
  cases e
  obtain ⟨q, o, e3, hx3⟩ := h3 3 _ (List.getElem?_eq_getElem (by omega))
  cases e3
  obtain ⟨_, _, e4, hx4⟩ := h3 4 _ (List.getElem?_eq_getElem (by omega))
  cases e4
  have g3 : b[3] = (hdOf b).ty := by
    show b[3] = b.getD 3 0
    rw [List.getD_eq_getElem?_getD, List.getElem?_eq_getElem]; rfl
  have g4 : b[4] = (hdOf b).fl := by
    show b[4] = b.getD 4 0
    rw [List.getD_eq_getElem?_getD, List.getElem?_eq_getElem]; rfl
  rw [g3] at hx3
  rw [g4] at hx4
  have n1 : ∀ m, Calls Tryd.prog 48 #[.slice (some ⟨q, o, none⟩) 3 c] (w.drewN m) fun e w' => e = .returned (.int .u32 (hdOf b).ln) ∧ w' = w.drewN m := by
    intro m
    have hl : (b.take 3).length = 3 := by simp; omega
    have := number_any (some ⟨q, o, none⟩) c (b.take 3) (w.drewN m) (by rw [hl]; exact h.take (m := 3) (by omega)) (hb.take 3) (by omega)
    rw [hl] at this
    refine this.mono fun e w' ⟨he, hw⟩ => ⟨?_, hw.symm⟩
    rw [he, numOf_3 b (by omega)]; rfl
  have n2 : ∀ m, Calls Tryd.prog 48 #[.slice (some ⟨q, o + 5, none⟩) 4 (c - 5)] (w.drewN m) fun e w' => e = .returned (.int .u32 (n32 b 5)) ∧ w' = w.drewN m := by
    intro m
    have hl : ((b.take 9).drop 5).length = 4 := by simp; omega
    have := number_any (some ⟨q, o + 5, none⟩) (c - 5) ((b.take 9).drop 5) (w.drewN m) (by rw [hl]; exact h.sub (i := 5) (j := 9) (by omega) (by omega)) ((hb.take 9).drop 5) (by omega)
    rw [hl] at this
    refine this.mono fun e w' ⟨he, hw⟩ => ⟨?_, hw.symm⟩
    rw [he, numOf_4 b (by omega)]
  have hb32 := Pl.n32_bd (b := b) hb 5
  have hand : bits .and .u32 (n32 b 5) 2147483647 = (hdOf b).st := u32_low _ hb32.1 hb32.2
  have hbd := Pl.hdOf_bd (b := b) hb
  have hbl : 9 ≤ b.length := hn
  obtain ⟨⟨t0, t1⟩, ⟨f0, f1⟩, ⟨l0, l1⟩, -⟩ := hbd
  have hn' : b.length ≤ 9223372036854775807 := by unfold maxLen at hc2; omega
  clear h3 h g3 g4 hb
  generalize (hdOf b).ty = ty at *
  generalize (hdOf b).fl = fl at *
  generalize (hdOf b).ln = ln at *
  generalize (hdOf b).st = st at *
  generalize n32 b 5 = n5 at *
  generalize b.length = len at *
  go_enter Tryd.func30, Tryd.ntmps30
  go_wp2
  go_quiet ((first | (go_at_call 48; with_reducible exact Calls.quiet_of_same (n1 _)) | (go_at_call 48; with_reducible exact Calls.quiet_of_same (n2 _))))
  go_wp2
  exact bodyPost_ret (v := .tuple #[.int .i64 ln, .int .i64 ty, .int .i64 fl, .int .u32 st]) (by simp [results, Tryd.results30, go_sem]) rfl ⟨rfl, nq, rfl⟩
end Go.Proofs.YtfdlbjibninakaaDoor

namespace Go.Proofs.YtfdlbjibninakaaDoor
open Go.RowKit
/-- .. where the bytes end too early. -/
def RfhCut (w : World) (bR : Nat) (e : Ending) (w' : World) : Prop := ∃ ae, e = .returned (.tuple #[hdZ, .iface 247 (.pointer (some ae))]) ∧ Kept (· ≠ bR) w w'
/-- What ReadFrameHeader leaves. -/
def RfhEnd (w : World) (bR : Nat) (hv ev : Value) (e : Ending) (w' : World) : Prop := e = .returned (.tuple #[hv, ev]) ∧ Kept (· ≠ bR) w w'
section
variable {B : Nat} {aE aU aT : Addr} {w : World} {bR : Nat} {L : List Int} {rest : Value}
set_option maxRecDepth 10000 in
set_option maxHeartbeats 4000000 in
theorem rfh_ok (hV : GV B w aE aU aT) (h : RdS w bR rest (.slice none 0 0) 0 L []) (hb : Bs L) (hlim : L.length ≤ 10000000000) (hr : inK (· < bR) rest) (hBR : B ≤ bR) (hL : 9 ≤ L.length) :
    Calls Tryd.prog 47 #[.iface 105 (.pointer (some ⟨bR, 0, none⟩))] w (RfhEnd w bR (hdV (hdOf L).ty (hdOf L).fl (hdOf L).ln (hdOf L).st) .nilIface) := by
  have hlt := lt_of_block h.R
  have hmk : ∀ w, (Instr.makeSlice 23 (.int .i64 9) (.int .i64 9)).run Tryd.prog w = .ok (.slice (some ⟨w.heap.size, 0, none⟩) 9 9) (w.alloc (.cells (zB 9) 5)) := mk5 9 (by omega)
  have hB2 : Below w.heap.size w ((w.alloc (.cells #[.bool false, .int .u8 0, .int .u8 0, .int .u32 0, .int .u32 0] 117)).alloc (.cells (zB 9) 5)) := (((Kept.refl (· < w.heap.size) w).alloc _).alloc _).below (Nat.le_refl _)
  have hh := readFrameHeader_ok (g := w.heap.size + 1) (off := 0) (cs := zB 9) (t := 5) (hV.below hB2) (h.below hB2) hb (by omega) (blk_at _ _ (by simp)) (by rw [zB_size]; omega) (by omega) (hr.mono' fun k hk => ⟨by omega, by omega⟩) trivial hBR (by have := hV.ge; omega) (hr.mono' fun k hk => by simp; omega) trivial hL
  go_enter Tryd.func47, Tryd.ntmps47
  go_wp2_with (first
    | (go_at_call 85; refine hh.mono ?_; rintro e w1 ⟨rfl, hend⟩; obtain ⟨_, _, _, h1, h2, h3, h4, h5, h6⟩ := hend; have bh := h5.at ⟨by omega, by omega⟩ (blk_alloc (blk_new w _)))
    | (refine wpList_store_blk rfl _ _ _ rfl w.heap.size rfl _ _ rfl 117 bh rfl infoH (by simp [Value.oneCell']) ?_; intro w2 hb2 hk2))
  have hk : Kept (· ≠ bR) w w2 := by
    have : Kept (fun k => k ≠ bR ∧ k < w.heap.size) w w2 := ((((Kept.refl _ w).alloc _).alloc _).trans (h5.mono fun k h _ => ⟨h.1, by omega⟩)).trans (hk2.mono fun k h _ => by omega)
    exact this.mono fun k h hlt => ⟨h, hlt⟩
  refine ret_blk2 rfl w.heap.size _ _ rfl hb2 Tryd.underlying117 infoH rfl ⟨rfl, hk⟩
set_option maxRecDepth 10000 in
set_option maxHeartbeats 4000000 in
theorem rfh_cut (hV : GV B w aE aU aT) (h : RdS w bR rest (.slice none 0 0) 0 L []) (hb : Bs L) (hlim : L.length ≤ 10000000000) (hr : inK (· < bR) rest) (hBR : B ≤ bR) (hL : ¬ 9 ≤ L.length) :
    Calls Tryd.prog 47 #[.iface 105 (.pointer (some ⟨bR, 0, none⟩))] w (RfhCut w bR) := by
  have hlt := lt_of_block h.R
  have hmk : ∀ w, (Instr.makeSlice 23 (.int .i64 9) (.int .i64 9)).run Tryd.prog w = .ok (.slice (some ⟨w.heap.size, 0, none⟩) 9 9) (w.alloc (.cells (zB 9) 5)) := mk5 9 (by omega)
  have hB2 : Below w.heap.size w ((w.alloc (.cells #[.bool false, .int .u8 0, .int .u8 0, .int .u32 0, .int .u32 0] 117)).alloc (.cells (zB 9) 5)) := (((Kept.refl (· < w.heap.size) w).alloc _).alloc _).below (Nat.le_refl _)
  have hh := readFrameHeader_cut (g := w.heap.size + 1) (off := 0) (cs := zB 9) (t := 5) (hV.below hB2) (h.below hB2) (by omega) (blk_at _ _ (by simp)) (by rw [zB_size]; omega) (by omega) (hr.mono' fun k hk => ⟨by omega, by omega⟩) trivial hBR (by have := hV.ge; omega) (hr.mono' fun k hk => by simp; omega) trivial hL
  go_enter Tryd.func47, Tryd.ntmps47
  go_wp2_with (first
    | (go_at_call 85; refine hh.mono ?_; rintro e w1 ⟨⟨ae, rfl, hae⟩, hend⟩; obtain ⟨_, _, _, h1, h2, h3, h4, h5, h6⟩ := hend; have bh := h5.at ⟨by omega, by omega⟩ (blk_alloc (blk_new w _)))
    | (refine wpList_store_blk rfl _ _ _ rfl w.heap.size rfl _ _ rfl 117 bh rfl infoH (by simp [Value.oneCell']) ?_; intro w2 hb2 hk2))
  have hk : Kept (· ≠ bR) w w2 := by
    have : Kept (fun k => k ≠ bR ∧ k < w.heap.size) w w2 := ((((Kept.refl _ w).alloc _).alloc _).trans (h5.mono fun k h _ => ⟨h.1, by omega⟩)).trans (hk2.mono fun k h _ => by omega)
    exact this.mono fun k h hlt => ⟨h, hlt⟩
  refine ret_blk2 rfl w.heap.size _ _ rfl hb2 Tryd.underlying117 infoH rfl ⟨ae, rfl, hk⟩
/-- What impl.Header leaves. -/
def IhdEnd (w : World) (ln ty fl st : Int) (ok : Bool) (e : Ending) (w' : World) : Prop := e = .returned (.tuple #[.int .i64 ln, .int .i64 ty, .int .i64 fl, .int .u32 st, .bool ok]) ∧ Below w.heap.size w w'
set_option maxRecDepth 10000 in
set_option maxHeartbeats 4000000 in
theorem implHeader_ok {data : Value} (hV : GV B w aE aU aT) (hB : B ≤ w.heap.size) (hd : RdB w data L) (hb : Bs L) (hlim : L.length ≤ 10000000000) (hL : 9 ≤ L.length) :
    Calls Tryd.prog 29 #[data] w (IhdEnd w (hdOf L).ln (hdOf L).ty (hdOf L).fl (hdOf L).st true) := by
  have hd' := hd
  obtain ⟨da, dc, rfl, -, -, -⟩ := hd'
  have hBx : Below w.heap.size w (w.alloc (.cells #[.slice da L.length dc, .slice none 0 0, .int .i64 0] 107)) := ((Kept.refl (· < w.heap.size) w).alloc _).below (Nat.le_refl _)
  have hrf := rfh_ok (bR := w.heap.size) (hV.below hBx) ⟨blk_new w _, hd.below hBx, ⟨none, 0, rfl, Nat.le_refl _, Nat.zero_le _, fun j x h => by simp at h⟩, by omega⟩ hb hlim (rdI_lt hd) hB hL
  obtain ⟨⟨t0, t1⟩, ⟨f0, f1⟩, ⟨l0, l1⟩, -⟩ := Pl.hdOf_bd (b := L) hb
  clear hd
  unfold hdV at hrf
  generalize (hdOf L).ty = ty at *
  generalize (hdOf L).fl = fl at *
  generalize (hdOf L).ln = ln at *
  generalize (hdOf L).st = st at *
  go_enter Tryd.func29, Tryd.ntmps29
  go_wp2_with (first
    | (go_at_call 47; refine hrf.mono ?_; rintro e w1 ⟨rfl, hk1⟩)
    | (refine wpList_store_blk rfl _ _ _ rfl w1.heap.size rfl _ _ rfl 117 (blk_new _ _) rfl infoH (by simp [Value.oneCell']) ?_; intro w2 hb2 hk2; have e1 : w2.cell? ⟨w1.heap.size, 1, none⟩ = some (.int .u8 ty) := blk_cell hb2 1; have e2 : w2.cell? ⟨w1.heap.size, 2, none⟩ = some (.int .u8 fl) := blk_cell hb2 2; have e3 : w2.cell? ⟨w1.heap.size, 3, none⟩ = some (.int .u32 ln) := blk_cell hb2 3; have e4 : w2.cell? ⟨w1.heap.size, 4, none⟩ = some (.int .u32 st) := blk_cell hb2 4))
  go_quiet (fail)
  go_wp2
  have hk : Kept (· < w.heap.size) w (w2.drewN nq) := ((((Kept.refl (· < w.heap.size) w).alloc _).trans (hk1.mono fun k h _ => Nat.ne_of_lt h)).trans ((Kept.ofBelow (below_new hk2)).mono fun k h _ => by have := hk1.size; simp at this; omega)).drawn nq
  exact bodyPost_ret (v := .tuple #[.int .i64 ln, .int .i64 ty, .int .i64 fl, .int .u32 st, .bool true]) (by simp [results, Tryd.results29, go_sem]) rfl ⟨rfl, hk.below (Nat.le_refl _)⟩
set_option maxRecDepth 10000 in
set_option maxHeartbeats 4000000 in
theorem implHeader_cut {data : Value} (hV : GV B w aE aU aT) (hB : B ≤ w.heap.size) (hd : RdB w data L) (hb : Bs L) (hlim : L.length ≤ 10000000000) (hL : ¬ 9 ≤ L.length) :
    Calls Tryd.prog 29 #[data] w (IhdEnd w 0 0 0 0 false) := by
  have hd' := hd
  obtain ⟨da, dc, rfl, -, -, -⟩ := hd'
  have hBx : Below w.heap.size w (w.alloc (.cells #[.slice da L.length dc, .slice none 0 0, .int .i64 0] 107)) := ((Kept.refl (· < w.heap.size) w).alloc _).below (Nat.le_refl _)
  have hrf := rfh_cut (bR := w.heap.size) (hV.below hBx) ⟨blk_new w _, hd.below hBx, ⟨none, 0, rfl, Nat.le_refl _, Nat.zero_le _, fun j x h => by simp at h⟩, by omega⟩ hb hlim (rdI_lt hd) hB hL
  clear hd
  go_enter Tryd.func29, Tryd.ntmps29
  go_wp2_with (first
    | (go_at_call 47; refine hrf.mono ?_; rintro e w1 ⟨ae, rfl, hk1⟩)
    | (refine wpList_store_blk rfl _ _ _ rfl w1.heap.size rfl _ _ rfl 117 (blk_new _ _) rfl infoH (by simp [Value.oneCell']) ?_; intro w2 hb2 hk2; have e1 : w2.cell? ⟨w1.heap.size, 1, none⟩ = some (.int .u8 0) := blk_cell hb2 1; have e2 : w2.cell? ⟨w1.heap.size, 2, none⟩ = some (.int .u8 0) := blk_cell hb2 2; have e3 : w2.cell? ⟨w1.heap.size, 3, none⟩ = some (.int .u32 0) := blk_cell hb2 3; have e4 : w2.cell? ⟨w1.heap.size, 4, none⟩ = some (.int .u32 0) := blk_cell hb2 4))
  go_quiet (fail)
  go_wp2
  have hk : Kept (· < w.heap.size) w (w2.drewN nq) := ((((Kept.refl (· < w.heap.size) w).alloc _).trans (hk1.mono fun k h _ => Nat.ne_of_lt h)).trans ((Kept.ofBelow (below_new hk2)).mono fun k h _ => by have := hk1.size; simp at this; omega)).drawn nq
  exact bodyPost_ret (v := .tuple #[.int .i64 0, .int .i64 0, .int .i64 0, .int .u32 0, .bool false]) (by simp [results, Tryd.results29, go_sem]) rfl ⟨rfl, hk.below (Nat.le_refl _)⟩
set_option maxRecDepth 10000 in
set_option maxHeartbeats 4000000 in
theorem fnHeader_any {data : Value} (hV : GV B w aE aU aT) (hB : B ≤ w.heap.size) (hd : RdB w data L) (hb : Bs L) : Calls Tryd.prog 11 #[data] w (YesEnd w) := by
  have hd' := hd
  obtain ⟨da, dc, rfl, -, -, -⟩ := hd'
  by_cases h1 : (2147483647 : Int) < L.length
  · clear hd
    go_enter Tryd.func11, Tryd.ntmps11
    go_wp2
    go_ret
    exact ⟨rfl, Below.refl _ _⟩
  by_cases hL : 9 ≤ L.length
  · have hL' : ¬ (L.length : Int) < 9 := by omega
    have hi := implHeader_ok hV hB hd hb (by omega) hL
    have hs := fun (w' : World) (hw : Below w.heap.size w w') => headerS_any da L.length dc L w' (hd.below hw) hb hL
    have HS := Lib.hid hs
    clear hs hd
    generalize (hdOf L).ty = ty at *
    generalize (hdOf L).fl = fl at *
    generalize (hdOf L).ln = ln at *
    generalize (hdOf L).st = st at *
    go_enter Tryd.func11, Tryd.ntmps11
    go_wp2_with (first
      | (go_at_call 29; refine hi.mono ?_; rintro e w1 ⟨rfl, b1⟩)
      | (go_at_call 30; refine (HS.out w1 b1).mono ?_; rintro e w2 ⟨rfl, n, rfl⟩))
    go_ret
    exact ⟨rfl, (Kept.ofBelow b1).drawn n |>.below (Nat.le_refl _)⟩
  · have hL' : (L.length : Int) < 9 := by omega
    have hi := implHeader_cut hV hB hd hb (by omega) hL
    clear hd
    go_enter Tryd.func11, Tryd.ntmps11
    go_wp2_with (first
      | (go_at_call 29; refine hi.mono ?_; rintro e w1 ⟨rfl, b1⟩)
      | (go_at_call 28; refine (reads_any (hV.below b1) (Nat.le_trans hB b1.size)).mono ?_; rintro e w2 ⟨rfl, b2⟩))
    go_ret
    exact ⟨rfl, Below.step b1 b2⟩
end
end Go.Proofs.YtfdlbjibninakaaDoor

namespace Go.Proofs.YtfdlbjibninakaaDoor.fnHeader
open Go.ChangeShapes Go.WideShapes Go.ChangeAt Go.RowKit

set_option maxRecDepth 100000 in
theorem contract (H : Type) (enc : TypeId × Value → H) (W : World) (base : Nat) (args : Array Value) (ds gs : List (DataW H)) (before : List MemPlace)
    (hval : ∀ (j : Nat) t v, Tryd.f11.params[j]? = some t → args[j]? = some v → Value.okWide Tryd.prog W .any base t v)
    (hW : DataW.Whole enc Tryd.prog Tryd.f11.params.toList Rows.fnHeaderSpec.vars false W args.toList ds gs before) (hL : laidMetH Tryd.prog Rows.fnHeaderRow.laid W) (hS : W.ShapedOpen Tryd.prog) :
    Calls Tryd.prog 11 args W fun e W' => ∃ v, e = .returned v ∧ Rows.fnHeaderSpec.post enc Tryd.prog Tryd.f11 false true false false W args v W' := by
  have hW' := hW
  obtain ⟨p, q, hA0, hV, rfl, hfz, hnd⟩ := hW
  have hA : DataW.TrodAll enc Tryd.prog W 0 (fun _ => true) true Tryd.f11.params.toList args.toList ds p := hA0
  rw [Tryd.params11] at hA hval
  obtain ⟨v0, d0, rfl, rfl, h0⟩ := trodAll_one hA
  obtain ⟨rfl, rfl⟩ := trodVars_none hV
  obtain ⟨l, hl, hwf⟩ := open_rd Tryd.underlying23 Tryd.underlying5 (by kernel_rfl) (hval 0 23 v0 rfl rfl) h0
  obtain ⟨aE, aU, aT, hG⟩ := gv_of_reads hS hL
  refine (fnHeader_any hG (Nat.le_refl _) hl (bs_of_wf hwf)).mono fun e W' ⟨he, hb⟩ => ?_
  subst he
  exact ⟨_, rfl, law_post rfl rfl (by kernel_rfl) hW' rfl hb⟩

theorem laid_met (os : Os) : laidMetH Tryd.prog Rows.fnHeaderRow.laid ((World.doorLaid Tryd.prog 187 os).forCall (fun _ _ => 0) ⟨#[], #[.slice none 0 0], []⟩).memory :=
  laidMetH_of_parts3 (fuel := 8) (laidMet_of_run' 8 (by kernel_rfl) (by kernel_rfl)) (by kernel_rfl) (by kernel_rfl)
theorem reads (os : Os) {H : Type} (enc : TypeId × Value → H) : ∃ places, DataW.whole enc Tryd.prog ((World.doorLaid Tryd.prog 187 os).forCall (fun _ _ => 0) ⟨#[], #[.slice none 0 0], []⟩).memory Tryd.f11.params.toList Rows.fnHeaderSpec.vars false
    #[Value.slice none 0 0].toList 8 = some ([.nil], [], places) :=
  ⟨[], by kernel_rfl⟩

set_option maxRecDepth 100000 in
theorem lifted (os : Os) (started : os.Started) (H : Type) (enc : TypeId × Value → H) (F : Stop.Interp) :
    ReturnsInHanded {} Tryd.checked os 11 .any ((OpenSpec.ofChange Rows.fnHeaderSpec).preRow enc Tryd.prog Tryd.f11 Rows.fnHeaderRow.domain false Rows.fnHeaderRow.laid)
      (((OpenSpec.ofChange Rows.fnHeaderSpec).at F).post enc Tryd.prog Tryd.f11 false true false false) := by
  obtain ⟨places, hx⟩ := reads os enc
  refine returnsInHanded_of_row (C := Tryd.checked) (s := OpenSpec.ofChange Rows.fnHeaderSpec) own_knob started (by kernel_rfl) Tryd.func11
    (witness_row_atRef (enc := enc) (C := Tryd.checked) false (World.doorLaid Tryd.prog 187 os) #[.slice none 0 0] rfl (by kernel_rfl) (by kernel_rfl) (by kernel_rfl)
      (OpenSpec.preRow_of_cond 8 hx (by kernel_rfl) (fun k hk => by cases hk) (by kernel_rfl) (laid_met os))) ?_
  intro W base args ds gs before hval hW _ _ _ hL hS _
  exact contract H enc W base args ds gs before hval hW hL hS

theorem said : Rows.FnHeaderSaid :=
  OpenClaim.holds_of_cond 11 Tryd.f11 rfl rfl rfl rfl rfl rfl rfl ⟨rfl, rfl, rfl, rfl, rfl⟩ rfl rfl rfl rfl rfl (by kernel_rfl) Tryd.func11 (by kernel_rfl)
    (of_decide_eq_true (by kernel_rfl)) (by unfold Func.isWrapper; rw [if_neg (of_decide_eq_false (by kernel_rfl))]; exact ⟨rfl, rfl⟩)
    (fun os started H enc _ F => by rw [OpenClaim.pre_eq_preRow]; exact lifted os started H enc F)

theorem card : Rows.FnHeaderCardSaid :=
  Claim7.holds_tied_plain_at .later [] _ _ _ _ said (fun _ h => by cases h) (by kernel_rfl) (fun _ h => by cases h) fnHeader_row_tie rfl ⟨rfl, rfl⟩ (by kernel_rfl) rfl
    (named_of (by kernel_rfl) Tryd.func11 (by kernel_rfl) (by kernel_rfl)) (by kernel_rfl)
#print axioms card
end Go.Proofs.YtfdlbjibninakaaDoor.fnHeader
