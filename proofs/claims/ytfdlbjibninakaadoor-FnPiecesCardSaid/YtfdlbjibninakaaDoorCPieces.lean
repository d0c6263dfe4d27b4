/- FnPieces is proved: whatever the data are, and in whatever pieces they are read, the frames and the faults are the same; where the statement asks nothing it is true at once. The card is tied to the program's text. -/
import Derived.Test.YtfdlbjibninakaaDoorFrame
import Derived.Test.YtfdlbjibninakaaDoorFault
import Derived.Test.YtfdlbjibninakaaDoorPk
import Derived.Test.YtfdlbjibninakaaDoorFrd
import Derived.Test.YtfdlbjibninakaaDoorMa
import Derived.Test.YtfdlbjibninakaaDoorLr2
import Derived.LaidLaws
import Derived.LaidHandle
set_option linter.unusedVariables false
set_option linter.unusedSimpArgs false
namespace Go.Proofs.YtfdlbjibninakaaDoor
open Go.ChangeShapes Go.WideShapes Go.RowKit

theorem rowEs (u : TypeId) (h : Tryd.prog.typeName? 3 u = some "*errors.errorString") : u = 247 := by
  have star : "*" ++ "errors.errorString" = "*errors.errorString" := by decide
  exact typeName_ptr_named (nm := "errors.errorString") (by rw [star]; kernel_rfl) (by kernel_rfl) (by decide) u (by rw [star]; exact h)
theorem cellsEs : Tryd.prog.cellsOf 249 = 1 := by kernel_rfl
theorem cellsStr : Tryd.prog.cellsOf 9 = 1 := by kernel_rfl

/-- A laid error. -/
def sentD (text : List UInt8) : DataW Unit := .iface "*errors.errorString" (.ptr (.agg [.lit (.string text)]))
set_option maxRecDepth 100000 in
theorem sent_cons {W : World} {n : String} {text : List UInt8} {r : List (String × DataW Unit)} {ps : List MemPlace} {g : Nat} (hg : Tryd.prog.globalNamed n = some g) (hgt : (Tryd.prog.globals[g]?).map (·.type) = some 75)
    (h : DataW.LaidVars Tryd.prog W ((n, sentD text) :: r) ps)
    (hrows : ∀ b off, MemPlace.cell b off ∈ ps → (∃ c t, W.heap[b]? = some (.cells c t (0, 0))) ∧ ∀ u v, W.cell? ⟨b, off, none⟩ = some (.iface u v) → Value.okWide Tryd.prog W .any 0 u v) :
    ∃ (a : Addr) (q : List MemPlace) (c : Array Value) (t : TypeId), W.cell? ⟨g, 0, none⟩ = some (.iface 247 (.pointer (some a))) ∧ W.heap[a.block]? = some (.cells c t (0, 0)) ∧
      DataW.LaidVars Tryd.prog W r q ∧ ps = [.cell g 0, .cell a.block a.off] ++ q := by
  obtain ⟨g0, t0, cs0, f0, p0, q0, hg0, ht0, hv0, hd0, hr, e0⟩ := h
  obtain rfl := Option.some.inj (hg.symm.trans hg0)
  obtain rfl := Option.some.inj (hgt.symm.trans ht0)
  subst e0
  obtain ⟨l0⟩ := cs0
  have ok0 : ∀ u v, l0 = [.iface u v] → Value.okWide Tryd.prog W .any 0 u v := fun u v e => by
    subst e
    exact (hrows g 0 (by simp [MemPlace.row])).2 u v (by simpa using World.var?_cell hg0 hv0 0)
  obtain ⟨a0, s0, rfl, hc0, hs0, hz0, rfl⟩ := errorString_of_trod Tryd.underlying75 rowEs Tryd.underlying247 Tryd.underlying249 rfl rfl Tryd.underlying9 cellsEs cellsStr hd0 ok0
  obtain ⟨c0, t0, hb0⟩ := (hrows a0.block a0.off (by simp [MemPlace.row])).1
  refine ⟨a0, q0, c0, t0, ?_, hb0, hr, by simp [MemPlace.row]⟩
  simpa using World.var?_cell hg0 hv0 0

theorem rtypeT : (Tryd.prog.cutTypes.find? (·.1 == "internal/reflectlite.rtype")).map (·.2) = some 233 := by kernel_rfl
theorem oneRowErr : ((List.range 289).filter fun t => Tryd.prog.rowNamed t [101, 114, 114, 111, 114]) = [75] := by kernel_rfl
theorem typesSize : Tryd.prog.types.size = 289 := by kernel_rfl
theorem handleErr : typeHandle Tryd.prog 75 = hd 75 := by kernel_rfl
theorem glET : Tryd.prog.globalNamed "errors.errorType" = some 4 := by kernel_rfl
theorem handle_cell {W : World} {l : List (String × DataW Unit)} (h : handlesMet Tryd.prog l W) (hm : ("errors.errorType", DataW.iface "internal/reflectlite.rtype" (.agg [.ptr (.lit (.string [101, 114, 114, 111, 114]))])) ∈ l) :
    W.cell? ⟨4, 0, none⟩ = some (.iface 233 (.agg #[hd 75])) := by
  obtain ⟨name, u, ty, e1, e2, e3, e4, e5⟩ := h _ hm
  have en : name = [101, 114, 114, 111, 114] := (Option.some.inj e1).symm
  subst en
  obtain rfl := Option.some.inj (rtypeT.symm.trans e2)
  have hm : ty ∈ (List.range 289).filter fun t => Tryd.prog.rowNamed t [101, 114, 114, 111, 114] := List.mem_filter.2 ⟨List.mem_range.2 (by rw [← typesSize]; exact e3), e4⟩
  rw [oneRowErr] at hm
  obtain rfl := List.mem_singleton.1 hm
  rw [handleErr] at e5
  simpa using World.var?_cell glET e5 0

theorem globs_le {W : World} (h : W.ShapedOpen Tryd.prog) : 11 ≤ W.heap.size := by
  have hg : Tryd.prog.globals.size = 11 := by kernel_rfl
  have h0 : 11 < (begin Tryd.prog (fun _ _ => 0) default).world.heap.size := of_decide_eq_true (by kernel_rfl)
  obtain ⟨o, o0, h1, -, -⟩ := h.2 11 (by rw [hg]; exact Nat.le_refl _) h0
  obtain ⟨hlt, -⟩ := Array.getElem?_eq_some_iff.1 h1
  exact Nat.le_of_lt hlt

theorem glE : Tryd.prog.globalNamed "io.EOF" = some 0 := by kernel_rfl
theorem glU : Tryd.prog.globalNamed "io.ErrUnexpectedEOF" = some 1 := by kernel_rfl
theorem glT : Tryd.prog.globalNamed "http2frames/pub/http2frames.ErrFrameTooLarge" = some 2 := by kernel_rfl
theorem glB : Tryd.prog.globalNamed "io.ErrShortBuffer" = some 10 := by kernel_rfl
theorem gtB : (Tryd.prog.globals[10]?).map (·.type) = some 75 := by kernel_rfl
theorem gtE : (Tryd.prog.globals[0]?).map (·.type) = some 75 := by kernel_rfl
theorem gtU : (Tryd.prog.globals[1]?).map (·.type) = some 75 := by kernel_rfl
theorem gtT : (Tryd.prog.globals[2]?).map (·.type) = some 75 := by kernel_rfl

theorem lt_of_block {W : World} {b : Nat} {c : Array Value} {t : TypeId} (h : W.heap[b]? = some (.cells c t (0, 0))) : b < W.heap.size := (Array.getElem?_eq_some_iff.1 h).1

/-- The laid variables of reading. -/
theorem gv_of_reads {W : World} {t0 t1 t2 t3 : List UInt8} (hS : W.ShapedOpen Tryd.prog) (h : laidMet Tryd.prog [("io.ErrShortBuffer", sentD t0), ("io.EOF", sentD t1), ("io.ErrUnexpectedEOF", sentD t2), ("http2frames/pub/http2frames.ErrFrameTooLarge", sentD t3)] W ∧
    handlesMet Tryd.prog [("errors.errorType", DataW.iface "internal/reflectlite.rtype" (.agg [.ptr (.lit (.string [101, 114, 114, 111, 114]))]))] W) : ∃ aE aU aT, GV W.heap.size W aE aU aT := by
  obtain ⟨⟨ps, hl, hnd, hrows⟩, hh⟩ := h
  have hH := handle_cell hh (List.mem_singleton.2 rfl)
  obtain ⟨a0, q, c0, t0, h0, b0, hl0, rfl⟩ := sent_cons glB gtB hl hrows
  obtain ⟨aE, q, cE, tE, hE, bE, hl1, rfl⟩ := sent_cons glE gtE hl0 (fun b off hm => hrows b off (List.mem_append_right _ hm))
  obtain ⟨aU, q, cU, tU, hU, bU, hl2, rfl⟩ := sent_cons glU gtU hl1 (fun b off hm => hrows b off (List.mem_append_right _ (List.mem_append_right _ hm)))
  obtain ⟨aT, q, cT, tT, hT, bT, hl3, rfl⟩ := sent_cons glT gtT hl2 (fun b off hm => hrows b off (List.mem_append_right _ (List.mem_append_right _ (List.mem_append_right _ hm))))
  refine ⟨aE, aU, aT, hE, hU, hT, hH, ⟨_, _, bE⟩, ⟨_, _, bU⟩, ⟨_, _, bT⟩, ?_, ?_, ?_, globs_le hS, lt_of_block bE, lt_of_block bU, lt_of_block bT⟩
  · rintro rfl; simp at hnd
  · rintro rfl; simp at hnd
  · rintro rfl; simp at hnd
end Go.Proofs.YtfdlbjibninakaaDoor

namespace Go.Proofs.YtfdlbjibninakaaDoor
open Go.ChangeShapes Go.WideShapes Go.RowKit

theorem open_rd {P : Program} {H : Type} {enc : TypeId × Value → H} {W : World} {base : Nat} {t e : TypeId} {k : IntKind} {v : Value} {d : DataW H} {p : List MemPlace} (ht : P.underlying t = some (.slice e)) (he : P.underlying e = some (.int k)) (hc : P.cellsOf e = 1)
    (hval : Value.okWide P W .any base t v) (h : DataW.Trod enc P W 0 (fun _ => true) true t v d p) : ∃ l, RdI k W v l ∧ ∀ x ∈ l, (Lit.int k x).wf = true := by
  obtain ⟨a0, len, cap, rfl⟩ := okWide_slice ht hval
  obtain ⟨fuel, hf⟩ := h
  rcases open_ints ht he hc hf with ⟨hcs, -⟩ | ⟨a, len', cap', zs, hcs, -, hle, hmax, hall, -, hcell, hwf⟩
  · simp [Value.cells] at hcs
    obtain ⟨rfl, rfl, rfl⟩ := hcs
    exact ⟨[], ⟨none, 0, rfl, Nat.le_refl _, Nat.zero_le _, fun j x hj => by simp at hj⟩, fun x hx => by cases hx⟩
  · simp [Value.cells] at hcs
    obtain ⟨rfl, rfl, rfl⟩ := hcs
    simp only [if_true] at hall
    refine ⟨zs.take len, ⟨some a, cap, ?_, ?_, hmax, ?_⟩, fun x hx => hwf x (List.mem_of_mem_take hx)⟩
    · rw [List.length_take, hall, Nat.min_eq_left hle]
    · rw [List.length_take, hall, Nat.min_eq_left hle]; exact hle
    · intro j x hj
      have hjl : j < len := by
        have := (List.getElem?_eq_some_iff.1 hj).1
        simp at this
        omega
      rw [List.getElem?_take_of_lt hjl] at hj
      obtain ⟨hjz, hjx⟩ := List.getElem?_eq_some_iff.1 hj
      obtain ⟨b, off, rfl, hc'⟩ := ints_at hcell (by omega)
      refine ⟨b, off, rfl, ?_⟩
      rw [hc' j hjz, ← hjx]
      simp [List.getD, hj, hjx]
theorem bs_of_wf {l : List Int} (h : ∀ x ∈ l, (Lit.int .u8 x).wf = true) : Bs l := fun x hx => by
  have := h x hx
  simp [Lit.wf, IntKind.min, IntKind.max, IntKind.signed, IntKind.bits] at this
  omega
end Go.Proofs.YtfdlbjibninakaaDoor

namespace Go.Proofs.YtfdlbjibninakaaDoor
theorem readAll_len {m : Int} (n : Nat) : ∀ (b : List Int), b.length = n → ∀ o, (readAll m o b).length ≤ b.length + 1 := by
  induction n using Nat.strongRecOn with
  | _ n ih =>
    intro b hn o
    cases hg : (one m o b).1.going with
    | true =>
      have hl := one_less hg
      rw [readAll_go hg, List.length_cons]
      have := ih _ (by omega) (one m o b).2.2 rfl (one m o b).2.1
      omega
    | false => rw [readAll_stop hg]; simp
theorem one_rest {m o : Int} {b : List Int} (hb : Bs b) : Bs (one m o b).2.2 := by
  unfold one
  split
  · intro x hx; cases hx
  split
  · exact hb.drop 9
  split
  · exact hb.drop 9
  split
  · intro x hx; cases hx
  · exact (hb.drop 9).drop _
theorem one_sets {m o : Int} {b : List Int} (hb : Bs b) : (one m o b).1.x.set.length * 6 ≤ b.length := by
  unfold one
  split
  · unfold cutOff; split <;> exact Nat.zero_le _
  split
  · exact Nat.zero_le _
  split
  · exact Nat.zero_le _
  split
  · unfold cutOff; split <;> exact Nat.zero_le _
  · show (parse (hdOf b) ((b.drop 9).take (hdOf b).ln.toNat)).x.set.length * 6 ≤ b.length
    rcases Sh.parse (hdOf b) ((b.drop 9).take (hdOf b).ln.toNat) ((hb.drop 9).take _) with ⟨x, hx, q⟩ | ⟨f, c, s, hx, -, -⟩
    · rw [hx]
      refine Nat.le_trans q.sl ?_
      rw [List.length_take, List.length_drop]
      omega
    · rw [hx]; exact Nat.zero_le _
theorem readAll_sets {m : Int} (n : Nat) : ∀ (b : List Int), b.length = n → Bs b → ∀ o, ∀ r ∈ readAll m o b, r.x.set.length * 6 ≤ b.length := by
  induction n using Nat.strongRecOn with
  | _ n ih =>
    intro b hn hb o r hr
    have h1 := one_sets (m := m) (o := o) hb
    cases hg : (one m o b).1.going with
    | true =>
      have hl := one_less hg
      rw [readAll_go hg] at hr
      rcases List.mem_cons.1 hr with rfl | hr
      · exact h1
      · have := ih _ (by omega) _ rfl (one_rest hb) _ r hr
        omega
    | false =>
      rw [readAll_stop hg] at hr
      rcases List.mem_cons.1 hr with rfl | hr
      · exact h1
      · cases hr
theorem readAll_small {m o : Int} {b : List Int} (hb : Bs b) (hl : b.length ≤ 16777215) : (readAll m o b).length ≤ 100000000 ∧ ∀ r ∈ readAll m o b, r.x.set.length ≤ 3000000 :=
  ⟨by have := readAll_len (m := m) _ b rfl o; omega, fun r hr => by have := readAll_sets _ b rfl hb o r hr; omega⟩
end Go.Proofs.YtfdlbjibninakaaDoor

namespace Go.Proofs.YtfdlbjibninakaaDoor
open Go.RowKit
/-- impl.Read and laws.results at once: results of the reference. -/
theorem rdNil (w : World) : RdI .i64 w (.slice none 0 0) [] := ⟨none, 0, rfl, Nat.le_refl _, Nat.zero_le _, fun j x h => by simp at h⟩
set_option maxRecDepth 10000 in
set_option maxHeartbeats 8000000 in
theorem fnPieces_any {B : Nat} {aE aU aT : Addr} {w : World} {L ps : List Int} {data pcs : Value} (hV : GV B w aE aU aT) (hB : B ≤ w.heap.size) (hd : RdB w data L) (hp : RdI .i64 w pcs ps) (bs : Bs L) (mx : Int) :
    Calls Tryd.prog 9 #[data, pcs, .int .i64 mx] w (YesEnd w) := by
  have hd' := hd
  have hp' := hp
  obtain ⟨da, dc, rfl, -, -, -⟩ := hd'
  obtain ⟨pa, pc, rfl, -, -, -⟩ := hp'
  by_cases h1 : (2147483647 : Int) < L.length
  · clear hd hp
    go_enter Tryd.func9, Tryd.ntmps9
    go_wp2
    go_ret
    exact ⟨rfl, Below.refl _ _⟩
  by_cases h0 : (2147483647 : Int) < ps.length
  · clear hd hp
    go_enter Tryd.func9, Tryd.ntmps9
    go_wp2
    go_ret
    exact ⟨rfl, Below.refl _ _⟩
  by_cases h2 : (65536 : Int) < L.length
  · clear hd hp
    go_enter Tryd.func9, Tryd.ntmps9
    go_wp2
    go_ret
    exact ⟨rfl, Below.refl _ _⟩
  by_cases h3 : mx < 0
  · clear hd hp
    go_enter Tryd.func9, Tryd.ntmps9
    go_wp2
    go_ret
    exact ⟨rfl, Below.refl _ _⟩
  by_cases h4 : 65536 < mx
  · clear hd hp
    go_enter Tryd.func9, Tryd.ntmps9
    go_wp2
    go_ret
    exact ⟨rfl, Below.refl _ _⟩
  have hr1 := implRead_any (pcs := .slice none 0 0) (ps := []) hV hB hd (rdNil w) bs (by omega) mx (by omega) (by omega)
  obtain ⟨hs1, hs2⟩ := readAll_small (m := mxOf mx) (o := 0) bs (by omega)
  have hmat := Pl.read_same (m := mxOf mx) (o := 0) (b := L) (q := true)
  have hr2 := fun (w' : World) (hb : Below w.heap.size w w') => implRead_any (pcs := .slice pa ps.length pc) (ps := ps) (hV.below hb) (Nat.le_trans hB hb.size) (hd.below hb) (hp.below hb) bs (by omega) mx (by omega) (by omega)
  have hne : 0 < (readAll (mxOf mx) 0 L).length := List.length_pos_iff.2 Pl.readAll_ne
  generalize readAll (mxOf mx) 0 L = rs at *
  have R2 := Lib.hid hr2
  have HM := Lib.hid hmat
  have HS := Lib.hid hs2
  clear hr2 hmat hs2 hd hp
  go_enter Tryd.func9, Tryd.ntmps9
  go_wp2_with fail
  refine hr1.mono ?_
  rintro e w1 ⟨v1, rfl, b1, hR1, hf1⟩
  have r1 := results_any v1 rs w1 hR1 hs1 HS.out
  clear hr1
  go_wp2_with fail
  refine r1.mono ?_
  rintro e w2 ⟨v2, rfl, b2, hR2, hf2⟩
  clear r1 hR1 hf1
  obtain ⟨va2, vc2, rfl, -, -⟩ := own_shape hR2.choose_spec.1
  have H2 := Lib.hid hR2
  have hr3 := R2.out w2 (Below.step b1 b2)
  clear hR2 hf2
  go_wp2_with fail
  refine hr3.mono ?_
  rintro e w3 ⟨v3, rfl, b3, hR3, hf3⟩
  have r3 := results_any v3 rs w3 hR3 hs1 HS.out
  clear hr3
  go_wp2_with fail
  refine r3.mono ?_
  rintro e w4 ⟨v4, rfl, b4, hR4, hf4⟩
  clear r3 hR3 hf3
  have b24 : Below w2.heap.size w2 w4 := Below.step b3 b4
  have hm := matches_yes HM.out (H2.out.stay b24) hR4
  have b14 : Below w.heap.size w w4 := Below.step (Below.step b1 b2) b24
  obtain ⟨va4, vc4, rfl, -, -⟩ := own_shape hR4.choose_spec.1
  clear hR4 hf4
  go_wp2_with fail
  refine hm.mono ?_
  rintro e w5 ⟨rfl, b5⟩
  clear hm
  have b15 := Below.step b14 b5
  have hrd := reads_any (hV.below b15) (Nat.le_trans hB b15.size)
  go_wp2_with (go_at_call 28; refine hrd.mono ?_; rintro e w6 ⟨rfl, b6⟩)
  go_ret
  exact ⟨rfl, Below.step b15 b6⟩
end Go.Proofs.YtfdlbjibninakaaDoor

namespace Go.Proofs.YtfdlbjibninakaaDoor.fnPieces
open Go.ChangeShapes Go.WideShapes Go.ChangeAt Go.RowKit

set_option maxRecDepth 100000 in
theorem contract (H : Type) (enc : TypeId × Value → H) (W : World) (base : Nat) (args : Array Value) (ds gs : List (DataW H)) (before : List MemPlace)
    (hval : ∀ (j : Nat) t v, Tryd.f9.params[j]? = some t → args[j]? = some v → Value.okWide Tryd.prog W .any base t v)
    (hW : DataW.Whole enc Tryd.prog Tryd.f9.params.toList Rows.fnPiecesSpec.vars false W args.toList ds gs before) (hL : laidMetH Tryd.prog Rows.fnPiecesRow.laid W) (hS : W.ShapedOpen Tryd.prog) :
    Calls Tryd.prog 9 args W fun e W' => ∃ v, e = .returned v ∧ Rows.fnPiecesSpec.post enc Tryd.prog Tryd.f9 false true false false W args v W' := by
  have hW' := hW
  obtain ⟨p, q, hA0, hV, rfl, hfz, hnd⟩ := hW
  have hA : DataW.TrodAll enc Tryd.prog W 0 (fun _ => true) true Tryd.f9.params.toList args.toList ds p := hA0
  rw [Tryd.params9] at hA hval
  obtain ⟨v0, v1, v2, d0, d1, d2, p0, p1, p2, rfl, rfl, rfl, h0, h1, h2⟩ := trodAll_three hA
  obtain ⟨rfl, rfl⟩ := trodVars_none hV
  obtain ⟨l, hl, hwf⟩ := open_rd Tryd.underlying23 Tryd.underlying5 (by kernel_rfl) (hval 0 23 v0 rfl rfl) h0
  obtain ⟨ps, hp, -⟩ := open_rd Tryd.underlying56 Tryd.underlying3 (by kernel_rfl) (hval 1 56 v1 rfl rfl) h1
  obtain ⟨a2, rfl, rfl, rfl, w2⟩ := open_int Tryd.underlying3 (hval 2 3 v2 rfl rfl) h2
  obtain ⟨aE, aU, aT, hG⟩ := gv_of_reads hS hL
  refine (fnPieces_any hG (Nat.le_refl _) hl hp (bs_of_wf hwf) a2).mono fun e W' ⟨he, hb⟩ => ?_
  subst he
  exact ⟨_, rfl, law_post rfl rfl (by kernel_rfl) hW' rfl hb⟩

theorem laid_met (os : Os) : laidMetH Tryd.prog Rows.fnPiecesRow.laid ((World.doorLaid Tryd.prog 187 os).forCall (fun _ _ => 0) ⟨#[], #[.slice none 0 0, .slice none 0 0, .int .i64 0], []⟩).memory :=
  laidMetH_of_parts3 (fuel := 8) (laidMet_of_run' 8 (by kernel_rfl) (by kernel_rfl)) (by kernel_rfl) (by kernel_rfl)
theorem reads (os : Os) {H : Type} (enc : TypeId × Value → H) : ∃ places, DataW.whole enc Tryd.prog ((World.doorLaid Tryd.prog 187 os).forCall (fun _ _ => 0) ⟨#[], #[.slice none 0 0, .slice none 0 0, .int .i64 0], []⟩).memory Tryd.f9.params.toList Rows.fnPiecesSpec.vars false
    #[Value.slice none 0 0, .slice none 0 0, .int .i64 0].toList 8 = some ([.nil, .nil, .lit (.int .i64 0)], [], places) :=
  ⟨[], by kernel_rfl⟩

set_option maxRecDepth 100000 in
theorem lifted (os : Os) (started : os.Started) (H : Type) (enc : TypeId × Value → H) (F : Stop.Interp) :
    ReturnsInHanded {} Tryd.checked os 9 .any ((OpenSpec.ofChange Rows.fnPiecesSpec).preRow enc Tryd.prog Tryd.f9 Rows.fnPiecesRow.domain false Rows.fnPiecesRow.laid)
      (((OpenSpec.ofChange Rows.fnPiecesSpec).at F).post enc Tryd.prog Tryd.f9 false true false false) := by
  obtain ⟨places, hx⟩ := reads os enc
  refine returnsInHanded_of_row (C := Tryd.checked) (s := OpenSpec.ofChange Rows.fnPiecesSpec) own_knob started (by kernel_rfl) Tryd.func9
    (witness_row_atRef (enc := enc) (C := Tryd.checked) false (World.doorLaid Tryd.prog 187 os) #[.slice none 0 0, .slice none 0 0, .int .i64 0] rfl (by kernel_rfl) (by kernel_rfl) (by kernel_rfl)
      (OpenSpec.preRow_of_cond 8 hx (by kernel_rfl) (fun k hk => by cases hk) (by kernel_rfl) (laid_met os))) ?_
  intro W base args ds gs before hval hW _ _ _ hL hS _
  exact contract H enc W base args ds gs before hval hW hL hS

theorem said : Rows.FnPiecesSaid :=
  OpenClaim.holds_of_cond 9 Tryd.f9 rfl rfl rfl rfl rfl rfl rfl ⟨rfl, rfl, rfl, rfl, rfl⟩ rfl rfl rfl rfl rfl (by kernel_rfl) Tryd.func9 (by kernel_rfl)
    (of_decide_eq_true (by kernel_rfl)) (by unfold Func.isWrapper; rw [if_neg (of_decide_eq_false (by kernel_rfl))]; exact ⟨rfl, rfl⟩)
    (fun os started H enc _ F => by rw [OpenClaim.pre_eq_preRow]; exact lifted os started H enc F)

theorem card : Rows.FnPiecesCardSaid :=
  Claim7.holds_tied_plain_at .later [] _ _ _ _ said (fun _ h => by cases h) (by kernel_rfl) (fun _ h => by cases h) fnPieces_row_tie rfl ⟨rfl, rfl⟩ (by kernel_rfl) rfl
    (named_of (by kernel_rfl) Tryd.func9 (by kernel_rfl) (by kernel_rfl)) (by kernel_rfl)
#print axioms card
end Go.Proofs.YtfdlbjibninakaaDoor.fnPieces
