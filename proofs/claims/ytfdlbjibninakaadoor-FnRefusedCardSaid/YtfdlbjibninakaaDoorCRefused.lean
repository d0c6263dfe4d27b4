/- FnRefused is proved: for every kind, stream, padding and increment, a frame that must not be written is not written by the package; where the statement asks nothing it is true at once. The card is tied to the program's text. -/
import Derived.Test.YtfdlbjibninakaaDoorFrame
import Derived.Test.YtfdlbjibninakaaDoorOpen
import Derived.Test.YtfdlbjibninakaaDoorLref2
namespace Go.Proofs.YtfdlbjibninakaaDoor.fnRefused
open Go.ChangeShapes Go.WideShapes Go.ChangeAt Go.RowKit

theorem glS : Tryd.prog.globalNamed "http2frames/pub/http2frames.errStreamID" = some 5 := by kernel_rfl
theorem glP : Tryd.prog.globalNamed "http2frames/pub/http2frames.errPadLength" = some 8 := by kernel_rfl
theorem glB : Tryd.prog.globalNamed "http2frames/pub/http2frames.errPadBytes" = some 9 := by kernel_rfl
theorem glD : Tryd.prog.globalNamed "http2frames/pub/http2frames.errDepStreamID" = some 6 := by kernel_rfl
theorem glW : Tryd.prog.globalNamed "io.ErrShortWrite" = some 3 := by kernel_rfl
theorem gtS : (Tryd.prog.globals[5]?).map (·.type) = some 75 := by kernel_rfl
theorem gtP : (Tryd.prog.globals[8]?).map (·.type) = some 75 := by kernel_rfl
theorem gtB : (Tryd.prog.globals[9]?).map (·.type) = some 75 := by kernel_rfl
theorem gtD : (Tryd.prog.globals[6]?).map (·.type) = some 75 := by kernel_rfl
theorem gtW : (Tryd.prog.globals[3]?).map (·.type) = some 75 := by kernel_rfl
theorem eg_of_refused {W : World} (h : laidMetH Tryd.prog Rows.fnRefusedRow.laid W) : ∃ vS vP vB, EG W vS vP vB := by
  have h' : laidMet Tryd.prog [("io.ErrShortWrite", sentD _), ("http2frames/pub/http2frames.ErrFrameTooLarge", sentD _), ("http2frames/pub/http2frames.errStreamID", sentD _), ("http2frames/pub/http2frames.errDepStreamID", sentD _), ("http2frames/pub/http2frames.errPadLength", sentD _), ("http2frames/pub/http2frames.errPadBytes", sentD _)] W := h
  obtain ⟨ps, hl, hnd, hrows⟩ := h'
  obtain ⟨a1, q1, c1, t1, k1, b1, hl1, rfl⟩ := sent_cons glW gtW hl hrows
  obtain ⟨a2, q2, c2, t2, k2, b2, hl2, rfl⟩ := sent_cons glT gtT hl1 (fun b off hm => hrows b off (List.mem_append_right _ hm))
  obtain ⟨a3, q3, c3, t3, k3, b3, hl3, rfl⟩ := sent_cons glS gtS hl2 (fun b off hm => hrows b off (List.mem_append_right _ (List.mem_append_right _ hm)))
  obtain ⟨a4, q4, c4, t4, k4, b4, hl4, rfl⟩ := sent_cons glD gtD hl3 (fun b off hm => hrows b off (List.mem_append_right _ (List.mem_append_right _ (List.mem_append_right _ hm))))
  obtain ⟨a5, q5, c5, t5, k5, b5, hl5, rfl⟩ := sent_cons glP gtP hl4 (fun b off hm => hrows b off (List.mem_append_right _ (List.mem_append_right _ (List.mem_append_right _ (List.mem_append_right _ hm)))))
  obtain ⟨a6, q6, c6, t6, k6, b6, hl6, rfl⟩ := sent_cons glB gtB hl5 (fun b off hm => hrows b off (List.mem_append_right _ (List.mem_append_right _ (List.mem_append_right _ (List.mem_append_right _ (List.mem_append_right _ hm))))))
  exact ⟨_, _, _, k3, k5, k6⟩

set_option maxRecDepth 100000 in
theorem contract (H : Type) (enc : TypeId × Value → H) (W : World) (base : Nat) (args : Array Value) (ds gs : List (DataW H)) (before : List MemPlace)
    (hval : ∀ (j : Nat) t v, Tryd.f5.params[j]? = some t → args[j]? = some v → Value.okWide Tryd.prog W .any base t v)
    (hW : DataW.Whole enc Tryd.prog Tryd.f5.params.toList Rows.fnRefusedSpec.vars false W args.toList ds gs before) (hL : laidMetH Tryd.prog Rows.fnRefusedRow.laid W) :
    Calls Tryd.prog 5 args W fun e W' => ∃ v, e = .returned v ∧ Rows.fnRefusedSpec.post enc Tryd.prog Tryd.f5 false true false false W args v W' := by
  have hW' := hW
  obtain ⟨p, q, hA0, hV, rfl, hfz, hnd⟩ := hW
  have hA : DataW.TrodAll enc Tryd.prog W 0 (fun _ => true) true Tryd.f5.params.toList args.toList ds p := hA0
  rw [Tryd.params5] at hA hval
  obtain ⟨v0, v1, v2, v3, d0, d1, d2, d3, p0, p1, p2, p3, rfl, rfl, rfl, h0, h1, h2, h3⟩ := trodAll_four hA
  obtain ⟨rfl, rfl⟩ := trodVars_none hV
  obtain ⟨a0, rfl, rfl, rfl, w0⟩ := open_int Tryd.underlying3 (hval 0 3 v0 rfl rfl) h0
  obtain ⟨a1, rfl, rfl, rfl, w1⟩ := open_int Tryd.underlying22 (hval 1 22 v1 rfl rfl) h1
  obtain ⟨l, hl, -⟩ := open_rd Tryd.underlying23 Tryd.underlying5 (by kernel_rfl) (hval 2 23 v2 rfl rfl) h2
  obtain ⟨a3, rfl, rfl, rfl, w3⟩ := open_int Tryd.underlying22 (hval 3 22 v3 rfl rfl) h3
  have b1 := bounds_u32 w1
  have b3 := bounds_u32 w3
  obtain ⟨vS, vP, vB, hE⟩ := eg_of_refused hL
  refine (fnRefused_any hE a0 a1 a3 v2 l hl b1.1 (by omega) b3.1).mono fun e W' ⟨he, hb⟩ => ?_
  subst he
  exact ⟨_, rfl, law_post rfl rfl (by kernel_rfl) hW' rfl hb⟩

theorem laid_met (os : Os) : laidMetH Tryd.prog Rows.fnRefusedRow.laid ((World.doorLaid Tryd.prog 187 os).forCall (fun _ _ => 0) ⟨#[], #[.int .i64 0, .int .u32 0, .slice none 0 0, .int .u32 0], []⟩).memory :=
  laidMetH_of_parts3 (fuel := 8) (laidMet_of_run' 8 (by kernel_rfl) (by kernel_rfl)) (by kernel_rfl) (by kernel_rfl)
theorem reads (os : Os) {H : Type} (enc : TypeId × Value → H) : ∃ places, DataW.whole enc Tryd.prog ((World.doorLaid Tryd.prog 187 os).forCall (fun _ _ => 0) ⟨#[], #[.int .i64 0, .int .u32 0, .slice none 0 0, .int .u32 0], []⟩).memory Tryd.f5.params.toList Rows.fnRefusedSpec.vars false
    #[Value.int .i64 0, .int .u32 0, .slice none 0 0, .int .u32 0].toList 8 = some ([.lit (.int .i64 0), .lit (.int .u32 0), .nil, .lit (.int .u32 0)], [], places) :=
  ⟨[], by kernel_rfl⟩

set_option maxRecDepth 100000 in
theorem lifted (os : Os) (started : os.Started) (H : Type) (enc : TypeId × Value → H) (F : Stop.Interp) :
    ReturnsInHanded {} Tryd.checked os 5 .any ((OpenSpec.ofChange Rows.fnRefusedSpec).preRow enc Tryd.prog Tryd.f5 Rows.fnRefusedRow.domain false Rows.fnRefusedRow.laid)
      (((OpenSpec.ofChange Rows.fnRefusedSpec).at F).post enc Tryd.prog Tryd.f5 false true false false) := by
  obtain ⟨places, hx⟩ := reads os enc
  refine returnsInHanded_of_row (C := Tryd.checked) (s := OpenSpec.ofChange Rows.fnRefusedSpec) own_knob started (by kernel_rfl) Tryd.func5
    (witness_row_atRef (enc := enc) (C := Tryd.checked) false (World.doorLaid Tryd.prog 187 os) #[.int .i64 0, .int .u32 0, .slice none 0 0, .int .u32 0] rfl (by kernel_rfl) (by kernel_rfl) (by kernel_rfl)
      (OpenSpec.preRow_of_cond 8 hx (by kernel_rfl) (fun k hk => by cases hk) (by kernel_rfl) (laid_met os))) ?_
  intro W base args ds gs before hval hW _ _ _ hL _ _
  exact contract H enc W base args ds gs before hval hW hL

theorem said : Rows.FnRefusedSaid :=
  OpenClaim.holds_of_cond 5 Tryd.f5 rfl rfl rfl rfl rfl rfl rfl ⟨rfl, rfl, rfl, rfl, rfl⟩ rfl rfl rfl rfl rfl (by kernel_rfl) Tryd.func5 (by kernel_rfl)
    (of_decide_eq_true (by kernel_rfl)) (by unfold Func.isWrapper; rw [if_neg (of_decide_eq_false (by kernel_rfl))]; exact ⟨rfl, rfl⟩)
    (fun os started H enc _ F => by rw [OpenClaim.pre_eq_preRow]; exact lifted os started H enc F)

theorem card : Rows.FnRefusedCardSaid :=
  Claim7.holds_tied_plain_at .later [] _ _ _ _ said (fun _ h => by cases h) (by kernel_rfl) (fun _ h => by cases h) fnRefused_row_tie rfl ⟨rfl, rfl⟩ (by kernel_rfl) rfl
    (named_of (by kernel_rfl) Tryd.func5 (by kernel_rfl) (by kernel_rfl)) (by kernel_rfl)
#print axioms card
end Go.Proofs.YtfdlbjibninakaaDoor.fnRefused
