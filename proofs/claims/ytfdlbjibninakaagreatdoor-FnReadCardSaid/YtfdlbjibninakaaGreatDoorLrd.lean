/- FnRead, the law's own walk. -/
import Derived.Test.YtfdlbjibninakaaGreatDoorSr
import Derived.Test.YtfdlbjibninakaaGreatDoorMa
import Derived.Test.YtfdlbjibninakaaGreatDoorLr2
import Derived.Test.YtfdlbjibninakaaGreatDoorRl
set_option linter.unusedVariables false
set_option linter.unusedSimpArgs false
namespace Go.Proofs.YtfdlbjibninakaaGreatDoor
open Go.RowKit
theorem maxOk_mx {mx : Int} : Pl.MaxOk mx (mxOf mx) := by
  by_cases h : 0 < mx
  · exact .inl ⟨h, mxOf_pos h⟩
  · exact .inr ⟨h, by rw [mxOf_neg h]; omega⟩
set_option maxRecDepth 10000 in
set_option maxHeartbeats 8000000 in
theorem fnRead_any {B : Nat} {aE aU aT : Addr} {w : World} {L ps : List Int} {data pcs : Value} (hV : GV B w aE aU aT) (hB : B ≤ w.heap.size) (hd : RdB w data L) (hp : RdI .i64 w pcs ps) (bs : Bs L) (mx : Int) :
    Calls Tryz.prog 4 #[data, pcs, .int .i64 mx] w (YesEnd w) := by
  have hd' := hd
  have hp' := hp
  obtain ⟨da, dc, rfl, -, -, -⟩ := hd'
  obtain ⟨pa, pc, rfl, -, -, -⟩ := hp'
  by_cases h1 : (2147483647 : Int) < L.length
  · clear hd hp
    go_enter Tryz.func4, Tryz.ntmps4
    go_wp2
    go_ret
    exact ⟨rfl, Below.refl _ _⟩
  by_cases h0 : (2147483647 : Int) < ps.length
  · clear hd hp
    go_enter Tryz.func4, Tryz.ntmps4
    go_wp2
    go_ret
    exact ⟨rfl, Below.refl _ _⟩
  by_cases h2 : (65536 : Int) < L.length
  · clear hd hp
    go_enter Tryz.func4, Tryz.ntmps4
    go_wp2
    go_ret
    exact ⟨rfl, Below.refl _ _⟩
  by_cases h3 : mx < 0
  · clear hd hp
    go_enter Tryz.func4, Tryz.ntmps4
    go_wp2
    go_ret
    exact ⟨rfl, Below.refl _ _⟩
  by_cases h4 : 65536 < mx
  · clear hd hp
    go_enter Tryz.func4, Tryz.ntmps4
    go_wp2
    go_ret
    exact ⟨rfl, Below.refl _ _⟩
  have hr1 := specRead_any hd bs (by omega) mx (by omega)
  obtain ⟨hs1, hs2⟩ := readAll_small (m := mxOf mx) (o := 0) bs (by omega)
  have hmat := Pl.read_mat (maxOk_mx (mx := mx)) _ L rfl bs 0
  have hr2 := fun (w' : World) (hb : Below w.heap.size w w') => implRead_any (pcs := .slice pa ps.length pc) (ps := ps) (hV.below hb) (Nat.le_trans hB hb.size) (hd.below hb) (hp.below hb) bs (by omega) mx (by omega) (by omega)
  generalize readAll (mxOf mx) 0 L = rs at *
  obtain ⟨⟨ws, q⟩, hwq⟩ : ∃ x, Pl.sRead mx 0 L = x := ⟨_, rfl⟩
  rw [hwq] at hr1 hmat
  simp only at hr1 hmat
  have R2 := Lib.hid hr2
  have HM := Lib.hid hmat
  have HS := Lib.hid hs2
  clear hr2 hmat hs2 hd hp hwq
  go_enter Tryz.func4, Tryz.ntmps4
  go_wp2_with fail
  refine hr1.mono ?_
  rintro e w1 ⟨v1, rfl, b1, hR1, hf1⟩
  clear hr1 hf1
  obtain ⟨va1, vc1, rfl, -, -⟩ := own_shape hR1.choose_spec.1
  have H1 := Lib.hid hR1
  have hr3 := R2.out w1 b1
  clear hR1
  go_wp2_with fail
  refine hr3.mono ?_
  rintro e w3 ⟨v3, rfl, b3, hR3, hf3⟩
  have r3 := results_any v3 rs w3 hR3 hs1 HS.out
  clear hr3
  go_wp2_with fail
  refine r3.mono ?_
  rintro e w4 ⟨v4, rfl, b4, hR4, hf4⟩
  clear r3 hR3 hf3
  have b14 : Below w1.heap.size w1 w4 := Below.step b3 b4
  have hm := matches_yes HM.out (H1.out.stay b14) hR4
  have b04 : Below w.heap.size w w4 := Below.step b1 b14
  obtain ⟨va4, vc4, rfl, -, -⟩ := own_shape hR4.choose_spec.1
  clear hR4 hf4
  go_wp2_with fail
  refine hm.mono ?_
  rintro e w5 ⟨rfl, b5⟩
  clear hm
  have b15 := Below.step b04 b5
  have hrd := reads_any (hV.below b15) (Nat.le_trans hB b15.size)
  go_wp2_with (go_at_call 12; refine hrd.mono ?_; rintro e w6 ⟨rfl, b6⟩)
  go_ret
  exact ⟨rfl, Below.step b15 b6⟩
end Go.Proofs.YtfdlbjibninakaaGreatDoor
