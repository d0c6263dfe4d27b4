/- FnValid is proved: for every identifier and every value, Setting.Valid of the package says what the reference says; where the statement asks nothing it is true at once. The card is tied to the program's text. -/
import Derived.Test.YtfdlbjibninakaaDoorFrame
import Derived.Test.YtfdlbjibninakaaDoorLaid
import Derived.Test.YtfdlbjibninakaaDoorLvalid
namespace Go.Proofs.YtfdlbjibninakaaDoor.fnValid
open Go.ChangeShapes Go.WideShapes Go.ChangeAt Go.RowKit

set_option maxRecDepth 100000 in
theorem contract (H : Type) (enc : TypeId × Value → H) (W : World) (base : Nat) (args : Array Value) (ds gs : List (DataW H)) (before : List MemPlace)
    (hval : ∀ (j : Nat) t v, Tryd.f4.params[j]? = some t → args[j]? = some v → Value.okWide Tryd.prog W .any base t v)
    (hW : DataW.Whole enc Tryd.prog Tryd.f4.params.toList Rows.fnValidSpec.vars false W args.toList ds gs before) (hL : laidMetH Tryd.prog Rows.fnValidRow.laid W) (hS : W.ShapedOpen Tryd.prog) :
    Calls Tryd.prog 4 args W fun e W' => ∃ v, e = .returned v ∧ Rows.fnValidSpec.post enc Tryd.prog Tryd.f4 false true false false W args v W' := by
  have hW' := hW
  obtain ⟨p, q, hA0, hV, rfl, hfz, hnd⟩ := hW
  have hA : DataW.TrodAll enc Tryd.prog W 0 (fun _ => true) true Tryd.f4.params.toList args.toList ds p := hA0
  rw [Tryd.params4] at hA hval
  obtain ⟨v0, v1, d0, d1, p0, p1, rfl, rfl, rfl, h0, h1⟩ := trodAll_two hA
  obtain ⟨rfl, rfl⟩ := trodVars_none hV
  obtain ⟨a0, rfl, rfl, rfl, w0⟩ := open_int Tryd.underlying3 (hval 0 3 v0 rfl rfl) h0
  obtain ⟨a1, rfl, rfl, rfl, w1⟩ := open_int Tryd.underlying22 (hval 1 22 v1 rfl rfl) h1
  have b1 := bounds_u32 w1
  obtain ⟨aE, aU, aT, hG⟩ := gv_of_valid hS hL
  refine (fnValid_any hG a0 a1 b1.1).mono fun e W' ⟨he, hb⟩ => ?_
  subst he
  exact ⟨_, rfl, law_post rfl rfl (by kernel_rfl) hW' rfl hb⟩

theorem laid_met (os : Os) : laidMetH Tryd.prog Rows.fnValidRow.laid ((World.doorLaid Tryd.prog 187 os).forCall (fun _ _ => 0) ⟨#[], #[.int .i64 0, .int .u32 0], []⟩).memory :=
  laidMetH_of_parts3 (fuel := 8) (laidMet_of_run' 8 (by kernel_rfl) (by kernel_rfl)) (by kernel_rfl) (by kernel_rfl)
theorem reads (os : Os) {H : Type} (enc : TypeId × Value → H) : ∃ places, DataW.whole enc Tryd.prog ((World.doorLaid Tryd.prog 187 os).forCall (fun _ _ => 0) ⟨#[], #[.int .i64 0, .int .u32 0], []⟩).memory Tryd.f4.params.toList Rows.fnValidSpec.vars false
    #[Value.int .i64 0, .int .u32 0].toList 8 = some ([.lit (.int .i64 0), .lit (.int .u32 0)], [], places) :=
  ⟨[], by kernel_rfl⟩

set_option maxRecDepth 100000 in
theorem lifted (os : Os) (started : os.Started) (H : Type) (enc : TypeId × Value → H) (F : Stop.Interp) :
    ReturnsInHanded {} Tryd.checked os 4 .any ((OpenSpec.ofChange Rows.fnValidSpec).preRow enc Tryd.prog Tryd.f4 Rows.fnValidRow.domain false Rows.fnValidRow.laid)
      (((OpenSpec.ofChange Rows.fnValidSpec).at F).post enc Tryd.prog Tryd.f4 false true false false) := by
  obtain ⟨places, hx⟩ := reads os enc
  refine returnsInHanded_of_row (C := Tryd.checked) (s := OpenSpec.ofChange Rows.fnValidSpec) own_knob started (by kernel_rfl) Tryd.func4
    (witness_row_atRef (enc := enc) (C := Tryd.checked) false (World.doorLaid Tryd.prog 187 os) #[.int .i64 0, .int .u32 0] rfl (by kernel_rfl) (by kernel_rfl) (by kernel_rfl)
      (OpenSpec.preRow_of_cond 8 hx (by kernel_rfl) (fun k hk => by cases hk) (by kernel_rfl) (laid_met os))) ?_
  intro W base args ds gs before hval hW _ _ _ hL hS _
  exact contract H enc W base args ds gs before hval hW hL hS

theorem said : Rows.FnValidSaid :=
  OpenClaim.holds_of_cond 4 Tryd.f4 rfl rfl rfl rfl rfl rfl rfl ⟨rfl, rfl, rfl, rfl, rfl⟩ rfl rfl rfl rfl rfl (by kernel_rfl) Tryd.func4 (by kernel_rfl)
    (of_decide_eq_true (by kernel_rfl)) (by unfold Func.isWrapper; rw [if_neg (of_decide_eq_false (by kernel_rfl))]; exact ⟨rfl, rfl⟩)
    (fun os started H enc _ F => by rw [OpenClaim.pre_eq_preRow]; exact lifted os started H enc F)

theorem card : Rows.FnValidCardSaid :=
  Claim7.holds_tied_plain_at .later [] _ _ _ _ said (fun _ h => by cases h) (by kernel_rfl) (fun _ h => by cases h) fnValid_row_tie rfl ⟨rfl, rfl⟩ (by kernel_rfl) rfl
    (named_of (by kernel_rfl) Tryd.func4 (by kernel_rfl) (by kernel_rfl)) (by kernel_rfl)
#print axioms card
end Go.Proofs.YtfdlbjibninakaaDoor.fnValid
