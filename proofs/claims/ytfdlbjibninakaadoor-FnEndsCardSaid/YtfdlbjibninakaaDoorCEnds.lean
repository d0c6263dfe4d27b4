/- FnEnds is proved: whatever the data are, all results of reading but the last one are frames or stream errors, and the last one is another fault; where the statement asks nothing it is true at once. The card is tied to the program's text. -/
import Derived.Test.YtfdlbjibninakaaDoorFrame
import Derived.Test.YtfdlbjibninakaaDoorLd
import Derived.Test.YtfdlbjibninakaaDoorLreads
set_option linter.unusedVariables false
set_option linter.unusedSimpArgs false
namespace Go.Proofs.YtfdlbjibninakaaDoor
open Go.RowKit
def TrueEnd (w : World) (e : Ending) (w' : World) : Prop := e = .returned (.bool true) ∧ Below w.heap.size w w'
set_option maxRecDepth 10000 in
set_option maxHeartbeats 8000000 in
theorem fnEnds_any {B : Nat} {aE aU aT : Addr} {w : World} {L : List Int} {data : Value} (hV : GV B w aE aU aT) (hB : B ≤ w.heap.size) (hd : RdB w data L) (bs : Bs L) (mx : Int) :
    Calls Tryd.prog 7 #[data, .int .i64 mx] w (TrueEnd w) := by
  have hd' := hd
  obtain ⟨da, dc, rfl, -, hdm, -⟩ := hd'
  by_cases h1 : (2147483647 : Int) < L.length
  · clear hd
    go_enter Tryd.func7, Tryd.ntmps7
    go_wp2
    go_ret
    exact ⟨rfl, Below.refl _ _⟩
  by_cases h2 : (65536 : Int) < L.length
  · clear hd
    go_enter Tryd.func7, Tryd.ntmps7
    go_wp2
    go_ret
    exact ⟨rfl, Below.refl _ _⟩
  by_cases h3 : mx < 0
  · clear hd
    go_enter Tryd.func7, Tryd.ntmps7
    go_wp2
    go_ret
    exact ⟨rfl, Below.refl _ _⟩
  by_cases h4 : 65536 < mx
  · clear hd
    go_enter Tryd.func7, Tryd.ntmps7
    go_wp2
    go_ret
    exact ⟨rfl, Below.refl _ _⟩
  have hr := implRead_any (pcs := .slice none 0 0) (ps := []) hV hB hd ⟨none, 0, rfl, Nat.le_refl _, Nat.zero_le _, fun j x h => by simp at h⟩ bs (by omega) mx (by omega) (by omega)
  obtain ⟨rs, hrs⟩ : ∃ rs, readAll (mxOf mx) 0 L = rs := ⟨_, rfl⟩
  have hne : 0 < rs.length := by rw [← hrs]; exact List.length_pos_iff.2 Pl.readAll_ne
  have hen : ∀ k (h : k < rs.length), (rs[k].going = true ↔ k + 1 ≠ rs.length) := by
    intro k h
    have := Pl.read_ends (m := mxOf mx) _ L rfl 0 k rs[k] (by rw [hrs]; exact List.getElem?_eq_getElem h)
    rwa [hrs] at this
  rw [hrs] at hr
  have HE := Lib.hid hen
  have HD := Lib.hid hd
  clear hrs hen hd
  go_enter Tryd.func7, Tryd.ntmps7
  go_wp2_with (go_at_call 24; refine hr.mono ?_; rintro e w1 ⟨v, rfl, hb1, hR, hf⟩; obtain ⟨va, vc, rfl, hvc, hvm⟩ := own_shape hR.choose_spec.1)
  clear hr
  have hnm : rs.length ≤ 9223372036854775807 := by unfold maxLen at hvm; omega
  have HR := Lib.hid hR
  clear hR hf
  go_loopw [28] (fun i wr => ∃ k : Nat, k ≤ rs.length ∧ i = .int .i64 k ∧ Below w1.heap.size w1 wr) (fun i _ => rs.length - (intOf i).toNat)
  case atStart => exact ⟨0, Nat.zero_le _, rfl, Below.refl _ _⟩
  case round =>
    obtain ⟨k, hk, rfl, hbel⟩ := hrel
    by_cases hlt : k < rs.length
    · have he := HE.out k hlt
      obtain ⟨g, dv, sv, rfl, hdd, hss, hcells⟩ := resR_at HR.out hlt
      generalize rs[k] = r at he hdd hss hcells
      obtain ⟨qa, qc, rfl, -, -, -⟩ := hdd
      obtain ⟨sa, sc, rfl, -, -, -⟩ := hss
      obtain ⟨fr, hfe, hsz, hif, h1f, hf0⟩ : ∃ fr : Array Value, rsX r (.slice qa r.x.data.length qc) (.slice sa r.x.set.length sc) = fr ∧ fr.size = 17 ∧ (Tryd.prog.info? 54).map (·.size) = some fr.size ∧ (∀ u ∈ fr.toList, u.oneCell' = true) ∧ fr[0]? = some (.int .i64 r.f) := ⟨_, rfl, rfl, infoRi, rsX_one _ _ _ _ _ _ _, rfl⟩
      rw [hfe] at hcells
      have HC : Hid (∀ j u, fr[j]? = some u → wr.cell? ⟨g, k * 17 + j, none⟩ = some u) := Lib.hid fun j u hu => cell_below (hcells j u hu) hbel
      have hgo : r.going = decide (r.f = 0 ∨ r.f = 5) := rfl
      rw [hgo, decide_eq_true_iff] at he
      clear hfe hcells hgo
      generalize r.f = f at *
      obtain ⟨n, hn⟩ : ∃ n, rs.length = n := ⟨_, rfl⟩
      rw [hn] at he hlt hk hne hnm ⊢
      have HN := Lib.hid hn
      clear hn
      by_cases hl : n = k + 1
      · have hq : ((k : Int) == (n : Int) - 1) = true := by rw [beq_iff_eq]; omega
        have hf5 : f ≠ 5 := fun e => absurd (he.1 (.inr e)) (by omega)
        have hf0' : f ≠ 0 := fun e => absurd (he.1 (.inl e)) (by omega)
        have b0 : (f == 0) = false := beq_false_of_ne hf0'
        have b5 : (f == 5) = false := beq_false_of_ne hf5
        have HL := Lib.hid hl
        clear he hf5 hf0' hl
        go_wp2_with (first
          | (refine wpList_load_at rfl _ _ rfl g (k * 17) rfl fr HC.out Tryd.underlying54 hif ?_)
          | (refine wpList_store_blk rfl _ _ _ rfl wr.heap.size rfl fr _ rfl 54 (blk_new _ _) hsz hif h1f ?_; intro w2 hb2 hk2; have c0 : w2.cell? ⟨wr.heap.size, 0, none⟩ = some (.int .i64 f) := (blk_cell hb2 0).trans hf0))
        have B2 : Below wr.heap.size wr w2 := ((Kept.refl (· < wr.heap.size) wr).alloc _).trans (hk2.mono fun _ h _ => Nat.ne_of_lt h) |>.below (Nat.le_refl _)
        go_roundw
        case rel => exact ⟨k + 1, by omega, by go_num, Below.then hbel (Nat.le_refl _) B2⟩
        case measure => simp [intOf]; omega
      · have hq : ((k : Int) == (n : Int) - 1) = false := beq_false_of_ne (by omega)
        have hf : f = 0 ∨ f = 5 := he.2 (fun e => hl e.symm)
        clear he hl
        rcases hf with rfl | rfl
        all_goals
          go_wp2_with (first
            | (refine wpList_load_at rfl _ _ rfl g (k * 17) rfl fr HC.out Tryd.underlying54 hif ?_)
            | (refine wpList_store_blk rfl _ _ _ rfl wr.heap.size rfl fr _ rfl 54 (blk_new _ _) hsz hif h1f ?_; intro w2 hb2 hk2; have c0 := (blk_cell hb2 0).trans hf0))
          have B2 : Below wr.heap.size wr w2 := ((Kept.refl (· < wr.heap.size) wr).alloc _).trans (hk2.mono fun _ h _ => Nat.ne_of_lt h) |>.below (Nat.le_refl _)
          go_roundw
          case rel => exact ⟨k + 1, by omega, by go_num, Below.then hbel (Nat.le_refl _) B2⟩
          case measure => simp [intOf]; omega
    · have hkl : k = rs.length := by omega
      subst hkl
      go_wp2
      go_ret
      exact ⟨rfl, Below.then hb1 (Nat.le_refl _) hbel⟩
end Go.Proofs.YtfdlbjibninakaaDoor

namespace Go.Proofs.YtfdlbjibninakaaDoor.fnEnds
open Go.ChangeShapes Go.WideShapes Go.ChangeAt Go.RowKit

set_option maxRecDepth 100000 in
theorem contract (H : Type) (enc : TypeId × Value → H) (W : World) (base : Nat) (args : Array Value) (ds gs : List (DataW H)) (before : List MemPlace)
    (hval : ∀ (j : Nat) t v, Tryd.f7.params[j]? = some t → args[j]? = some v → Value.okWide Tryd.prog W .any base t v)
    (hW : DataW.Whole enc Tryd.prog Tryd.f7.params.toList Rows.fnEndsSpec.vars false W args.toList ds gs before) (hL : laidMetH Tryd.prog Rows.fnEndsRow.laid W) (hS : W.ShapedOpen Tryd.prog) :
    Calls Tryd.prog 7 args W fun e W' => ∃ v, e = .returned v ∧ Rows.fnEndsSpec.post enc Tryd.prog Tryd.f7 false true false false W args v W' := by
  have hW' := hW
  obtain ⟨p, q, hA0, hV, rfl, hfz, hnd⟩ := hW
  have hA : DataW.TrodAll enc Tryd.prog W 0 (fun _ => true) true Tryd.f7.params.toList args.toList ds p := hA0
  rw [Tryd.params7] at hA hval
  obtain ⟨v0, v1, d0, d1, p0, p1, rfl, rfl, rfl, h0, h1⟩ := trodAll_two hA
  obtain ⟨rfl, rfl⟩ := trodVars_none hV
  obtain ⟨l, hl, hwf⟩ := open_rd Tryd.underlying23 Tryd.underlying5 (by kernel_rfl) (hval 0 23 v0 rfl rfl) h0
  obtain ⟨a1, rfl, rfl, rfl, w1⟩ := open_int Tryd.underlying3 (hval 1 3 v1 rfl rfl) h1
  obtain ⟨aE, aU, aT, hG⟩ := gv_of_reads hS hL
  refine (fnEnds_any hG (Nat.le_refl _) hl (bs_of_wf hwf) a1).mono fun e W' ⟨he, hb⟩ => ?_
  subst he
  exact ⟨_, rfl, law_post rfl rfl (by kernel_rfl) hW' rfl hb⟩

theorem laid_met (os : Os) : laidMetH Tryd.prog Rows.fnEndsRow.laid ((World.doorLaid Tryd.prog 187 os).forCall (fun _ _ => 0) ⟨#[], #[.slice none 0 0, .int .i64 0], []⟩).memory :=
  laidMetH_of_parts3 (fuel := 8) (laidMet_of_run' 8 (by kernel_rfl) (by kernel_rfl)) (by kernel_rfl) (by kernel_rfl)
theorem reads (os : Os) {H : Type} (enc : TypeId × Value → H) : ∃ places, DataW.whole enc Tryd.prog ((World.doorLaid Tryd.prog 187 os).forCall (fun _ _ => 0) ⟨#[], #[.slice none 0 0, .int .i64 0], []⟩).memory Tryd.f7.params.toList Rows.fnEndsSpec.vars false
    #[Value.slice none 0 0, .int .i64 0].toList 8 = some ([.nil, .lit (.int .i64 0)], [], places) :=
  ⟨[], by kernel_rfl⟩

set_option maxRecDepth 100000 in
theorem lifted (os : Os) (started : os.Started) (H : Type) (enc : TypeId × Value → H) (F : Stop.Interp) :
    ReturnsInHanded {} Tryd.checked os 7 .any ((OpenSpec.ofChange Rows.fnEndsSpec).preRow enc Tryd.prog Tryd.f7 Rows.fnEndsRow.domain false Rows.fnEndsRow.laid)
      (((OpenSpec.ofChange Rows.fnEndsSpec).at F).post enc Tryd.prog Tryd.f7 false true false false) := by
  obtain ⟨places, hx⟩ := reads os enc
  refine returnsInHanded_of_row (C := Tryd.checked) (s := OpenSpec.ofChange Rows.fnEndsSpec) own_knob started (by kernel_rfl) Tryd.func7
    (witness_row_atRef (enc := enc) (C := Tryd.checked) false (World.doorLaid Tryd.prog 187 os) #[.slice none 0 0, .int .i64 0] rfl (by kernel_rfl) (by kernel_rfl) (by kernel_rfl)
      (OpenSpec.preRow_of_cond 8 hx (by kernel_rfl) (fun k hk => by cases hk) (by kernel_rfl) (laid_met os))) ?_
  intro W base args ds gs before hval hW _ _ _ hL hS _
  exact contract H enc W base args ds gs before hval hW hL hS

theorem said : Rows.FnEndsSaid :=
  OpenClaim.holds_of_cond 7 Tryd.f7 rfl rfl rfl rfl rfl rfl rfl ⟨rfl, rfl, rfl, rfl, rfl⟩ rfl rfl rfl rfl rfl (by kernel_rfl) Tryd.func7 (by kernel_rfl)
    (of_decide_eq_true (by kernel_rfl)) (by unfold Func.isWrapper; rw [if_neg (of_decide_eq_false (by kernel_rfl))]; exact ⟨rfl, rfl⟩)
    (fun os started H enc _ F => by rw [OpenClaim.pre_eq_preRow]; exact lifted os started H enc F)

theorem card : Rows.FnEndsCardSaid :=
  Claim7.holds_tied_plain_at .later [] _ _ _ _ said (fun _ h => by cases h) (by kernel_rfl) (fun _ h => by cases h) fnEnds_row_tie rfl ⟨rfl, rfl⟩ (by kernel_rfl) rfl
    (named_of (by kernel_rfl) Tryd.func7 (by kernel_rfl) (by kernel_rfl)) (by kernel_rfl)
#print axioms card
end Go.Proofs.YtfdlbjibninakaaDoor.fnEnds
