/- FnWrite is proved: frames that may be written are written as the reference lays them out, one behind the other; where the statement asks nothing it is true at once. The card is tied to the program's text. -/
import Derived.Test.YtfdlbjibninakaaGreatDoorLd
import Derived.Test.YtfdlbjibninakaaGreatDoorFrame
import Derived.Test.YtfdlbjibninakaaGreatDoorLwr
set_option linter.unusedVariables false
set_option linter.unusedSimpArgs false
namespace Go.Proofs.YtfdlbjibninakaaGreatDoor
open Go.ChangeShapes Go.WideShapes Go.RowKit
theorem glSW : Tryz.prog.globalNamed "io.ErrShortWrite" = some 9 := by kernel_rfl
theorem gtSW : (Tryz.prog.globals[9]?).map (·.type) = some 77 := by kernel_rfl
/-- The laid variables of writing and reading: those of reading. -/
theorem gv_of_writes {W : World} {t0 t1 t2 t3 t4 : List UInt8} {r : List (String × DataW Unit)} (hS : W.ShapedOpen Tryz.prog) (h : laidMet Tryz.prog (("io.ErrShortWrite", sentD t4) :: ("io.ErrShortBuffer", sentD t0) :: ("io.EOF", sentD t1) :: ("io.ErrUnexpectedEOF", sentD t2) :: ("http2frames/pub/http2frames.ErrFrameTooLarge", sentD t3) :: r) W ∧
    handlesMet Tryz.prog [("errors.errorType", DataW.iface "internal/reflectlite.rtype" (.agg [.ptr (.lit (.string [101, 114, 114, 111, 114]))]))] W) : ∃ aE aU aT, GV W.heap.size W aE aU aT := by
  obtain ⟨⟨ps, hl, hnd, hrows⟩, hh⟩ := h
  have hH := handle_cell hh (List.mem_singleton.2 rfl)
  obtain ⟨aw, q, cw, tw, hw, bw, hlw, rfl⟩ := sent_cons glSW gtSW hl hrows
  obtain ⟨a0, q, c0, t0, h0, b0, hl0, rfl⟩ := sent_cons glB gtB hlw (fun b off hm => hrows b off (List.mem_append_right _ hm))
  obtain ⟨aE, q, cE, tE, hE, bE, hl1, rfl⟩ := sent_cons glE gtE hl0 (fun b off hm => hrows b off (List.mem_append_right _ (List.mem_append_right _ hm)))
  obtain ⟨aU, q, cU, tU, hU, bU, hl2, rfl⟩ := sent_cons glU gtU hl1 (fun b off hm => hrows b off (List.mem_append_right _ (List.mem_append_right _ (List.mem_append_right _ hm))))
  obtain ⟨aT, q, cT, tT, hT, bT, hl3, rfl⟩ := sent_cons glT gtT hl2 (fun b off hm => hrows b off (List.mem_append_right _ (List.mem_append_right _ (List.mem_append_right _ (List.mem_append_right _ hm)))))
  refine ⟨aE, aU, aT, hE, hU, hT, hH, ⟨_, _, bE⟩, ⟨_, _, bU⟩, ⟨_, _, bT⟩, ?_, ?_, ?_, globs_le hS, lt_of_block bE, lt_of_block bU, lt_of_block bT⟩
  · rintro rfl; simp at hnd
  · rintro rfl; simp at hnd
  · rintro rfl; simp at hnd
end Go.Proofs.YtfdlbjibninakaaGreatDoor

namespace Go.Proofs.YtfdlbjibninakaaGreatDoor.fnWrite
open Go.ChangeShapes Go.WideShapes Go.ChangeAt Go.RowKit

set_option maxRecDepth 100000 in
theorem contract (H : Type) (enc : TypeId × Value → H) (W : World) (base : Nat) (args : Array Value) (ds gs : List (DataW H)) (before : List MemPlace)
    (hval : ∀ (j : Nat) t v, Tryz.f5.params[j]? = some t → args[j]? = some v → Value.okWide Tryz.prog W .any base t v)
    (hW : DataW.Whole enc Tryz.prog Tryz.f5.params.toList Rows.fnWriteSpec.vars false W args.toList ds gs before) (hL : laidMetH Tryz.prog Rows.fnWriteRow.laid W) (hS : W.ShapedOpen Tryz.prog) :
    Calls Tryz.prog 5 args W fun e W' => ∃ v, e = .returned v ∧ Rows.fnWriteSpec.post enc Tryz.prog Tryz.f5 false true false false W args v W' := by
  have hW' := hW
  obtain ⟨p, q, hA0, hV, rfl, hfz, hnd⟩ := hW
  have hA : DataW.TrodAll enc Tryz.prog W 0 (fun _ => true) true Tryz.f5.params.toList args.toList ds p := hA0
  rw [Tryz.params5] at hA hval
  obtain ⟨v0, v1, d0, d1, p0, p1, rfl, rfl, rfl, ⟨f0, h0⟩, ⟨f1, h1⟩⟩ := trodAll_two hA
  obtain ⟨rfl, rfl⟩ := trodVars_none hV
  obtain ⟨a0, n0, c0, rfl⟩ := okWide_slice Tryz.underlying41 (hval 0 41 v0 rfl rfl)
  obtain ⟨a1, n1, c1, rfl⟩ := okWide_slice Tryz.underlying42 (hval 1 42 v1 rfl rfl)
  obtain ⟨v0', fs, e0, hl⟩ := frames_trod h0
  obtain ⟨v1', ps, e1, hp⟩ := pads_trod h1
  obtain rfl : (Value.slice a0 n0 c0) = v0' := by simpa [Value.cells] using e0
  obtain rfl : (Value.slice a1 n1 c1) = v1' := by simpa [Value.cells] using e1
  obtain ⟨aE, aU, aT, hG⟩ := gv_of_writes hS hL
  refine (fnWrite_any hG (Nat.le_refl _) hl hp).mono fun e W' ⟨he, hb⟩ => ?_
  subst he
  exact ⟨_, rfl, law_post rfl rfl (by kernel_rfl) hW' rfl hb⟩

theorem laid_met (os : Os) : laidMetH Tryz.prog Rows.fnWriteRow.laid ((World.doorLaid Tryz.prog 187 os).forCall (fun _ _ => 0) ⟨#[], #[.slice none 0 0, .slice none 0 0], []⟩).memory :=
  laidMetH_of_parts3 (fuel := 8) (laidMet_of_run' 8 (by kernel_rfl) (by kernel_rfl)) (by kernel_rfl) (by kernel_rfl)
theorem reads (os : Os) {H : Type} (enc : TypeId × Value → H) : ∃ places, DataW.whole enc Tryz.prog ((World.doorLaid Tryz.prog 187 os).forCall (fun _ _ => 0) ⟨#[], #[.slice none 0 0, .slice none 0 0], []⟩).memory Tryz.f5.params.toList Rows.fnWriteSpec.vars false
    #[Value.slice none 0 0, .slice none 0 0].toList 8 = some ([.nil, .nil], [], places) :=
  ⟨[], by kernel_rfl⟩

set_option maxRecDepth 100000 in
theorem lifted (os : Os) (started : os.Started) (H : Type) (enc : TypeId × Value → H) (F : Stop.Interp) :
    ReturnsInHanded {} Tryz.checked os 5 .any ((OpenSpec.ofChange Rows.fnWriteSpec).preRow enc Tryz.prog Tryz.f5 Rows.fnWriteRow.domain false Rows.fnWriteRow.laid)
      (((OpenSpec.ofChange Rows.fnWriteSpec).at F).post enc Tryz.prog Tryz.f5 false true false false) := by
  obtain ⟨places, hx⟩ := reads os enc
  refine returnsInHanded_of_row (C := Tryz.checked) (s := OpenSpec.ofChange Rows.fnWriteSpec) own_knob started (by kernel_rfl) Tryz.func5
    (witness_row_atRef (enc := enc) (C := Tryz.checked) false (World.doorLaid Tryz.prog 187 os) #[.slice none 0 0, .slice none 0 0] rfl (by kernel_rfl) (by kernel_rfl) (by kernel_rfl)
      (OpenSpec.preRow_of_cond 8 hx (by kernel_rfl) (fun k hk => by cases hk) (by kernel_rfl) (laid_met os))) ?_
  intro W base args ds gs before hval hW _ _ _ hL hS _
  exact contract H enc W base args ds gs before hval hW hL hS

theorem said : Rows.FnWriteSaid :=
  OpenClaim.holds_of_cond 5 Tryz.f5 rfl rfl rfl rfl rfl rfl rfl ⟨rfl, rfl, rfl, rfl, rfl⟩ rfl rfl rfl rfl rfl (by kernel_rfl) Tryz.func5 (by kernel_rfl)
    (of_decide_eq_true (by kernel_rfl)) (by unfold Func.isWrapper; rw [if_neg (of_decide_eq_false (by kernel_rfl))]; exact ⟨rfl, rfl⟩)
    (fun os started H enc _ F => by rw [OpenClaim.pre_eq_preRow]; exact lifted os started H enc F)

theorem card : Rows.FnWriteCardSaid :=
  Claim7.holds_tied_plain_at .later [] _ _ _ _ said (fun _ h => by cases h) (by kernel_rfl) (fun _ h => by cases h) fnWrite_row_tie rfl ⟨rfl, rfl⟩ (by kernel_rfl) rfl
    (named_of (by kernel_rfl) Tryz.func5 (by kernel_rfl) (by kernel_rfl)) (by kernel_rfl)
#print axioms card
end Go.Proofs.YtfdlbjibninakaaGreatDoor.fnWrite
