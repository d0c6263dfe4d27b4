/- spec.Twice: two parameters have one identifier. -/
import Derived.Test.YtfdlbjibninakaaDoorQHdu
import Derived.Test.YtfdlbjibninakaaDoorQCf
import Derived.Outline
set_option linter.unusedVariables false
set_option linter.unusedSimpArgs false
namespace Go.Proofs.YtfdlbjibninakaaDoor
open Go.RowKit
theorem infoTw : (Tryd.prog.info? 101).map (·.size) = some 2 := by kernel_rfl
theorem run_slice_set {a : Option Addr} {n c k : Nat} (ha : ∀ x, a = some x → x.spot = none) (h1 : k ≤ c) (w : World) : (Instr.slice 33 (.slice a n c) none (some (.int .i64 (k : Int))) none).run Tryd.prog w = .ok (.slice a k c) w := by
  obtain ⟨i, hi, hs⟩ := Option.map_eq_some_iff.1 (show (Tryd.prog.info? 101).map (·.size) = some 2 by kernel_rfl)
  have hm : (if c = 0 then a else a.map (·.add 0)) = a := by
    split
    · rfl
    · cases a with
      | none => rfl
      | some x =>
        obtain ⟨b, o, s⟩ := x
        have := ha _ rfl
        simp only at this
        subst this
        simp [Addr.add_lit]
  simp [Instr.slice, run_underlying Tryd.underlying33, Instr.sliceBounds, Instr.sliceBound, asIntOf, sizeOf, typeInfo, hi, hs, h1]
  simpa using hm
section
variable {w : World} {v : Value} {l : List (Int × Int)}
set_option maxRecDepth 100000 in
set_option maxHeartbeats 4000000 in
theorem twice_any (h : RdP w v l) : Calls Tryd.prog 22 #[v] w (DupEnd w (l.map (·.1))) := by
  obtain ⟨a, c, rfl, hlc, hcm, -⟩ := id h
  unfold maxLen at hcm
  have H := Lib.hid h
  have hids : ∀ k (hk : k < l.length), (l.map (·.1))[k]? = some l[k].1 := fun k hk => by rw [List.getElem?_map, List.getElem?_eq_getElem hk]; rfl
  have HI := Lib.hid hids
  clear h hids
  have hat : ∀ (W : World), Below w.heap.size w W → ∀ k (hk : k < l.length), ∃ b o, a = some ⟨b, o, none⟩ ∧ W.cell? ⟨b, o + 2 * k, none⟩ = some (.int .i64 l[k].1) ∧ W.cell? ⟨b, o + (2 * k + 1), none⟩ = some (.int .u32 l[k].2) := fun W hb k hk => by
    obtain ⟨_, _, e, -, -, q⟩ := H.out.below hb
    cases e
    exact q k _ (List.getElem?_eq_getElem hk)
  have HAT := Lib.hid hat
  clear hat
  go_enter Tryd.func22, Tryd.ntmps22
  go_wp2
  go_loopw [9] (fun x wr => ∃ k : Nat, k ≤ l.length ∧ x = .int .i64 k ∧ (∀ (i j : Nat) (x : Int), j < k → i < j → (l.map (·.1))[i]? = some x → (l.map (·.1))[j]? ≠ some x) ∧ Below w.heap.size w wr) (fun x _ => l.length - (intOf x).toNat)
  case atStart => exact ⟨0, Nat.zero_le _, rfl, fun i j x h => absurd h (Nat.not_lt_zero _), Below.refl _ _⟩
  case round =>
    obtain ⟨k, hk, rfl, hno, hbl⟩ := hrel
    have HNO := Lib.hid hno
    clear hno
    by_cases hlt : k < l.length
    · obtain ⟨b, o, rfl, d1, d2⟩ := HAT.out wr hbl k hlt
      have HIK := Lib.hid (HI.out k hlt)
      have hsl := run_slice_set (a := some ⟨b, o, none⟩) (n := l.length) (c := c) (k := k) (fun x e => by cases e; rfl) (by omega)
      generalize l[k].1 = x at *
      generalize l[k].2 = y at *
      have hb1 : Below w.heap.size w (wr.alloc (.cells #[.int .i64 x, .int .u32 y] 101)) := stepD hbl (((Kept.refl (· < wr.heap.size) wr).alloc _).below (Nat.le_refl _))
      go_wp2_with (refine wpList_load_at rfl _ _ rfl b _ rfl #[.int .i64 x, .int .u32 y] (two_at d1 d2 (by simp; omega)) Tryd.underlying101 infoTw ?_)
      go_loopw [18] (fun z w2 => ∃ j : Nat, j ≤ k ∧ z = .int .i64 j ∧ (∀ j' : Nat, j' < j → (l.map (·.1))[j']? ≠ some x) ∧ Below w.heap.size w w2 ∧ w2.cell? ⟨wr.heap.size, 0, none⟩ = some (.int .i64 x)) (fun z _ => k - (intOf z).toNat)
      case atStart => exact ⟨0, Nat.zero_le _, rfl, fun j' h => absurd h (Nat.not_lt_zero _), hb1, blk_cell (blk_new wr _) 0⟩
      case round =>
        obtain ⟨j, hj, rfl, hnj, hb2, hcx⟩ := hrel
        have HNJ := Lib.hid hnj
        clear hnj hb1
        by_cases hlj : j < k
        · obtain ⟨b', o', e', q1, q2⟩ := HAT.out _ hb2 j (by omega)
          cases e'
          have HIJ := Lib.hid (HI.out j (by omega))
          generalize l[j].1 = x2 at *
          generalize l[j].2 = y2 at *
          have hcx' := cell_alloc hcx (.cells #[.int .i64 x2, .int .u32 y2] 101)
          by_cases hx : x = x2
          · subst hx
            go_wp2_with (refine wpList_load_at rfl _ _ rfl b _ rfl #[.int .i64 x, .int .u32 y2] (two_at q1 q2 (by simp; omega)) Tryd.underlying101 infoTw ?_)
            go_ret
            exact DupEnd.yes hlj HIJ.out HIK.out (stepD hb2 (((Kept.refl (· < _) _).alloc _).below (Nat.le_refl _)))
          · have hxb : (x == x2) = false := beq_false_of_ne hx
            have HX := Lib.hid hx
            clear hx
            go_wp2_with (refine wpList_load_at rfl _ _ rfl b _ rfl #[.int .i64 x2, .int .u32 y2] (two_at q1 q2 (by simp; omega)) Tryd.underlying101 infoTw ?_)
            go_roundw
            case rel =>
              refine ⟨j + 1, by omega, by go_num, fun j' h1 => ?_, stepD hb2 (((Kept.refl (· < _) _).alloc _).below (Nat.le_refl _)), cell_alloc hcx _⟩
              rcases Nat.lt_or_ge j' j with h3 | h3
              · exact HNJ.out j' h3
              · obtain rfl : j' = j := by omega
                rw [HIJ.out]
                exact fun e => HX.out (Option.some.inj e).symm
            case measure => simp [intOf]; omega
        · have hjN : j = k := by omega
          subst hjN
          go_wp2
          go_roundw
          case rel =>
            refine ⟨j + 1, by omega, by go_num, fun p q z h1 h2 h3 h4 => ?_, hb2⟩
            rcases Nat.lt_or_ge q j with h5 | h5
            · exact HNO.out p q z h5 h2 h3 h4
            · obtain rfl : q = j := by omega
              rw [HIK.out] at h4
              cases h4
              exact HNJ.out p h2 h3
          case measure => simp [intOf]; omega
    · have hkl : k = l.length := by omega
      subst hkl
      go_wp2
      go_ret
      exact DupEnd.no (fun i j z h1 h2 h3 => by
        have h7 := (List.getElem?_eq_some_iff.1 h3).1
        rw [List.length_map] at h7
        exact HNO.out i j z h7 h1 h2 h3) hbl
end
end Go.Proofs.YtfdlbjibninakaaDoor
