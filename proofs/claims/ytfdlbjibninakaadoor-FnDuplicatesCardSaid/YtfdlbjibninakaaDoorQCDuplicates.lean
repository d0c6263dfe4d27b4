/- FnDuplicates is proved: a SETTINGS frame has duplicates if two of its parameters have one identifier; where the statement asks nothing it is true at once. The card is tied to the program's text. -/
import Derived.Test.YtfdlbjibninakaaDoorQFrame
import Derived.Test.YtfdlbjibninakaaDoorQLdd
import Derived.Test.YtfdlbjibninakaaDoorQLdu
set_option linter.unusedVariables false
set_option linter.unusedSimpArgs false
namespace Go.Proofs.YtfdlbjibninakaaDoor.fnDuplicates
open Go.ChangeShapes Go.WideShapes Go.ChangeAt Go.RowKit

set_option maxRecDepth 100000 in
theorem contract (H : Type) (enc : TypeId × Value → H) (W : World) (base : Nat) (args : Array Value) (ds gs : List (DataW H)) (before : List MemPlace)
    (hval : ∀ (j : Nat) t v, Tryd.f6.params[j]? = some t → args[j]? = some v → Value.okWide Tryd.prog W .any base t v)
    (hW : DataW.Whole enc Tryd.prog Tryd.f6.params.toList Rows.fnDuplicatesSpec.vars false W args.toList ds gs before) (hL : laidMetH Tryd.prog Rows.fnDuplicatesRow.laid W) (hS : W.ShapedOpen Tryd.prog) :
    Calls Tryd.prog 6 args W fun e W' => ∃ v, e = .returned v ∧ Rows.fnDuplicatesSpec.post enc Tryd.prog Tryd.f6 false true false false W args v W' := by
  have hW' := hW
  obtain ⟨p, q, hA0, hV, rfl, hfz, hnd⟩ := hW
  have hA : DataW.TrodAll enc Tryd.prog W 0 (fun _ => true) true Tryd.f6.params.toList args.toList ds p := hA0
  rw [Tryd.params6] at hA hval
  obtain ⟨v0, d0, rfl, rfl, h0⟩ := trodAll_one hA
  obtain ⟨rfl, rfl⟩ := trodVars_none hV
  obtain ⟨l, hl, ht⟩ := open_sets (hval 0 33 v0 rfl rfl) h0
  obtain ⟨aE, aU, aT, hG⟩ := gv_of_dup hS hL
  refine (fnDuplicates_any hG (Nat.le_refl _) hl (fun p hp => (ht p hp).2)).mono fun e W' ⟨he, hb⟩ => ?_
  subst he
  exact ⟨_, rfl, law_post rfl rfl (by kernel_rfl) hW' rfl hb⟩

theorem laid_met (os : Os) : laidMetH Tryd.prog Rows.fnDuplicatesRow.laid ((World.doorLaid Tryd.prog 187 os).forCall (fun _ _ => 0) ⟨#[], #[.slice none 0 0], []⟩).memory :=
  laidMetH_of_parts3 (fuel := 8) (laidMet_of_run' 8 (by kernel_rfl) (by kernel_rfl)) (by kernel_rfl) (by kernel_rfl)
theorem reads (os : Os) {H : Type} (enc : TypeId × Value → H) : ∃ places, DataW.whole enc Tryd.prog ((World.doorLaid Tryd.prog 187 os).forCall (fun _ _ => 0) ⟨#[], #[.slice none 0 0], []⟩).memory Tryd.f6.params.toList Rows.fnDuplicatesSpec.vars false
    #[Value.slice none 0 0].toList 8 = some ([.nil], [], places) :=
  ⟨[], by kernel_rfl⟩

set_option maxRecDepth 100000 in
theorem lifted (os : Os) (started : os.Started) (H : Type) (enc : TypeId × Value → H) (F : Stop.Interp) :
    ReturnsInHanded {} Tryd.checked os 6 .any ((OpenSpec.ofChange Rows.fnDuplicatesSpec).preRow enc Tryd.prog Tryd.f6 Rows.fnDuplicatesRow.domain false Rows.fnDuplicatesRow.laid)
      (((OpenSpec.ofChange Rows.fnDuplicatesSpec).at F).post enc Tryd.prog Tryd.f6 false true false false) := by
  obtain ⟨places, hx⟩ := reads os enc
  refine returnsInHanded_of_row (C := Tryd.checked) (s := OpenSpec.ofChange Rows.fnDuplicatesSpec) own_knob started (by kernel_rfl) Tryd.func6
    (witness_row_atRef (enc := enc) (C := Tryd.checked) false (World.doorLaid Tryd.prog 187 os) #[.slice none 0 0] rfl (by kernel_rfl) (by kernel_rfl) (by kernel_rfl)
      (OpenSpec.preRow_of_cond 8 hx (by kernel_rfl) (fun k hk => by cases hk) (by kernel_rfl) (laid_met os))) ?_
  intro W base args ds gs before hval hW _ _ _ hL hS _
  exact contract H enc W base args ds gs before hval hW hL hS

theorem said : Rows.FnDuplicatesSaid :=
  OpenClaim.holds_of_cond 6 Tryd.f6 rfl rfl rfl rfl rfl rfl rfl ⟨rfl, rfl, rfl, rfl, rfl⟩ rfl rfl rfl rfl rfl (by kernel_rfl) Tryd.func6 (by kernel_rfl)
    (of_decide_eq_true (by kernel_rfl)) (by unfold Func.isWrapper; rw [if_neg (of_decide_eq_false (by kernel_rfl))]; exact ⟨rfl, rfl⟩)
    (fun os started H enc _ F => by rw [OpenClaim.pre_eq_preRow]; exact lifted os started H enc F)

theorem card : Rows.FnDuplicatesCardSaid :=
  Claim7.holds_tied_plain_at .later [] _ _ _ _ said (fun _ h => by cases h) (by kernel_rfl) (fun _ h => by cases h) fnDuplicates_row_tie rfl ⟨rfl, rfl⟩ (by kernel_rfl) rfl
    (named_of (by kernel_rfl) Tryd.func6 (by kernel_rfl) (by kernel_rfl)) (by kernel_rfl)
#print axioms card
end Go.Proofs.YtfdlbjibninakaaDoor.fnDuplicates
