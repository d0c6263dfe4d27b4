/- SettingsFrame.HasDuplicates: two parameters have one identifier. -/
import Derived.Test.YtfdlbjibninakaaDoorQPs8
import Derived.Test.YtfdlbjibninakaaDoorQMap
import Derived.Outline
set_option linter.unusedVariables false
set_option linter.unusedSimpArgs false
namespace Go.Proofs.YtfdlbjibninakaaDoor
open Go.RowKit Go.Maps
/-- Two of the numbers are the same. -/
def Dup (l : List Int) : Prop := ∃ (i j : Nat) (x : Int), i < j ∧ l[i]? = some x ∧ l[j]? = some x
/-- What is told of numbers: whether two are the same. -/
def DupEnd (w : World) (l : List Int) (e : Ending) (w' : World) : Prop := ∃ r : Bool, e = .returned (.bool r) ∧ (r = true ↔ Dup l) ∧ Below w.heap.size w w'
theorem DupEnd.no {w w' : World} {l : List Int} (h : ∀ (i j : Nat) (x : Int), i < j → l[i]? = some x → l[j]? ≠ some x) (hb : Below w.heap.size w w') : DupEnd w l (.returned (.bool false)) w' :=
  ⟨false, rfl, ⟨fun e => (by cases e), fun ⟨i, j, x, h1, h2, h3⟩ => absurd h3 (h i j x h1 h2)⟩, hb⟩
theorem DupEnd.yes {w w' : World} {l : List Int} {i j : Nat} {x : Int} (h1 : i < j) (h2 : l[i]? = some x) (h3 : l[j]? = some x) (hb : Below w.heap.size w w') : DupEnd w l (.returned (.bool true)) w' :=
  ⟨true, rfl, ⟨fun _ => ⟨i, j, x, h1, h2, h3⟩, fun _ => rfl⟩, hb⟩
theorem stepD {w w1 w2 : World} (h : Below w.heap.size w w1) (g : Below w1.heap.size w1 w2) : Below w.heap.size w w2 := Below.then h (Nat.le_refl _) g
theorem keyU : Keyed Tryd.prog 83 := int_keyed Tryd.underlying83
theorem zeroB (w : World) : (zeroValue 4).run Tryd.prog w = .ok (.bool false) w := by kernel_rfl
theorem keyUat {k : Int} (h : (Lit.int .u16 k).wf = true) : keyOf Tryd.prog 83 (.int .u16 k) = some (.int .u16 k) := keyOf_int_mk Tryd.underlying83 h
theorem ownsMap_below {P : Program} {k : TypeId} {R : Value → Option (DataW Unit × List MemPlace)} {w w' : World} {b n : Nat} {D : DataW Unit} (h : w.ownsMap P k R b n D) (hb : Below w.heap.size w w') : w'.ownsMap P k R b n D := by
  obtain ⟨es, clock, h1, h2⟩ := h
  exact ⟨es, clock, blk_below h1 hb, h2⟩
theorem wf_u16 {x : Int} (h0 : 0 ≤ x) (h1 : x < 65536) : (Lit.int .u16 x).wf = true := by
  simp [Lit.wf, IntKind.min, IntKind.max, IntKind.signed, IntKind.bits]
  omega
theorem keyLits (l : List Int) : ∀ x ∈ l.map (Lit.int .u16), WideAt.IsKeyLit x := by
  intro x hx
  obtain ⟨y, -, rfl⟩ := List.mem_map.1 hx
  trivial
theorem mem_lits {l : List Int} {x : Int} : Lit.int .u16 x ∈ l.map (Lit.int .u16) ↔ x ∈ l := by
  rw [List.mem_map]
  exact ⟨fun ⟨y, h, e⟩ => by cases e; exact h, fun h => ⟨x, h, rfl⟩⟩
theorem fieldId (x y : Int) (w : World) : (Instr.field 85 (.agg #[.int .u16 x, .int .u32 y]) 0).run Tryd.prog w = .ok (.int .u16 x) w := by kernel_rfl
section
variable {w : World} {p : Nat} {a : Option Addr} {c : Nat} {b : List Int}
set_option maxRecDepth 100000 in
set_option maxHeartbeats 2000000 in
theorem hasDup_small (N n : Nat) (hn : n = 6 * N) (hc : w.cell? ⟨p, 5, none⟩ = some (.slice a n c)) (h : RdB w (.slice a n c) b) (hb : Bs b) (ids : List Int) (hl : ids.length = N) (hids : ∀ k, k < N → ids[k]? = some (n16 b (6 * k))) (h0 : 0 < N) (h10 : N < 10) :
    Calls Tryd.prog 41 #[.pointer (some ⟨p, 0, none⟩)] w (DupEnd w ids) := by
  have hns := numSettings_any hc (by omega)
  have e6 : n / 6 = N := by omega
  rw [e6] at hns
  have hN0 : ((N : Int) == 0) = false := beq_false_of_ne (by omega)
  have hd10 : decide ((N : Int) < 10) = true := decide_eq_true (by omega)
  have hst : ∀ (wr : World), Below w.heap.size w wr → ∀ i, i < N → Calls Tryd.prog 73 #[.pointer (some ⟨p, 0, none⟩), .int .i64 (i : Int)] wr fun e w' => e = .returned (.agg #[.int .u16 (n16 b (6 * i)), .int .u32 (n32 b (6 * i + 2))]) ∧ Below wr.heap.size wr w' :=
    fun wr hw i hi => setting_any (cell_below hc hw) (h.below hw) hb i (by omega)
  have hfd := fieldId
  have HI := Lib.hid hids
  have HL := Lib.hid hl
  have HS := Lib.hid hst
  clear hc h hids hl hst hn e6
  go_enter Tryd.func41, Tryd.ntmps41
  go_wp2_with (go_at_call 72; refine hns.mono ?_; rintro e w' ⟨rfl, rfl⟩)
  clear hns hN0
  go_loopw [18] (fun x wr => ∃ k : Nat, k ≤ N ∧ x = .int .i64 k ∧ (∀ (i j : Nat) (x : Int), i < k → i < j → ids[i]? = some x → ids[j]? ≠ some x) ∧ Below w.heap.size w wr) (fun x _ => N - (intOf x).toNat)
  case atStart => exact ⟨0, Nat.zero_le _, rfl, fun i j x h => absurd h (Nat.not_lt_zero _), Below.refl _ _⟩
  case round =>
    obtain ⟨k, hk, rfl, hno, hbl⟩ := hrel
    have HNO := Lib.hid hno
    clear hno
    by_cases hlt : k < N
    · have hs1 := HS.out wr hbl k hlt
      have hi1 := HI.out k hlt
      have HI1 := Lib.hid hi1
      clear hi1
      generalize n16 b (6 * k) = x at *
      generalize n32 b (6 * k + 2) = y at *
      go_wp2_with (go_at_call 73; (with_reducible refine hs1.mono ?_); rintro e w1 ⟨rfl, b1⟩)
      clear hs1
      have hbl1 := stepD hbl b1
      go_loopw [6] (fun z w2 => ∃ j : Nat, k < j ∧ j ≤ N ∧ z = .int .i64 j ∧ (∀ j' : Nat, k < j' → j' < j → ids[j']? ≠ some x) ∧ Below w.heap.size w w2) (fun z _ => N - (intOf z).toNat)
      case atStart => exact ⟨k + 1, by omega, by omega, by go_num, fun j' h1 h2 => by omega, hbl1⟩
      case round =>
        obtain ⟨j, hj0, hj, rfl, hnj, hb2⟩ := hrel
        have HNJ := Lib.hid hnj
        clear hnj hbl1 hbl b1
        by_cases hlj : j < N
        · have hs2 := HS.out _ hb2 j hlj
          have hi2 := HI.out j hlj
          have HI2 := Lib.hid hi2
          clear hi2
          generalize n16 b (6 * j) = x2 at *
          generalize n32 b (6 * j + 2) = y2 at *
          by_cases hx : x = x2
          · subst hx
            go_wp2_with (go_at_call 73; (with_reducible refine hs2.mono ?_); rintro e w3 ⟨rfl, b3⟩)
            go_ret
            exact DupEnd.yes hj0 HI1.out HI2.out (stepD hb2 b3)
          · have hxb : (x == x2) = false := beq_false_of_ne hx
            have HX := Lib.hid hx
            clear hx
            go_wp2_with (go_at_call 73; (with_reducible refine hs2.mono ?_); rintro e w3 ⟨rfl, b3⟩)
            go_roundw
            case rel =>
              refine ⟨j + 1, by omega, by omega, by go_num, fun j' h1 h2 => ?_, stepD hb2 b3⟩
              rcases Nat.lt_or_ge j' j with h3 | h3
              · exact HNJ.out j' h1 h3
              · obtain rfl : j' = j := by omega
                rw [HI2.out]
                exact fun e => HX.out (Option.some.inj e).symm
            case measure => simp [intOf]; omega
        · have hjN : j = N := by omega
          subst hjN
          go_wp2
          go_roundw
          case rel =>
            refine ⟨k + 1, by omega, by go_num, fun i j' z h1 h2 h3 h4 => ?_, hb2⟩
            rcases Nat.lt_or_ge i k with h5 | h5
            · exact HNO.out i j' z h5 h2 h3 h4
            · obtain rfl : i = k := by omega
              have h6 := HI1.out.symm.trans h3
              cases h6
              have h7 := (List.getElem?_eq_some_iff.1 h4).1
              exact HNJ.out j' h2 (by rw [← HL.out]; exact h7) h4
          case measure => simp [intOf]; omega
    · have hkN : k = N := by omega
      subst hkN
      go_wp2
      go_ret
      exact DupEnd.no (fun i j x h1 h2 h3 => by
        have h7 := (List.getElem?_eq_some_iff.1 h2).1
        exact HNO.out i j x (by rw [← HL.out]; exact h7) h1 h2 h3) hbl
set_option maxRecDepth 100000 in
set_option maxHeartbeats 2000000 in
theorem hasDup_large (N n : Nat) (hn : n = 6 * N) (hN : N ≤ 1000000000) (hc : w.cell? ⟨p, 5, none⟩ = some (.slice a n c)) (h : RdB w (.slice a n c) b) (hb : Bs b) (ids : List Int) (hl : ids.length = N) (hids : ∀ k, k < N → ids[k]? = some (n16 b (6 * k))) (h10 : 10 ≤ N) :
    Calls Tryd.prog 41 #[.pointer (some ⟨p, 0, none⟩)] w (DupEnd w ids) := by
  have hns := numSettings_any hc (by omega)
  have e6 : n / 6 = N := by omega
  rw [e6] at hns
  have hN0 : ((N : Int) == 0) = false := beq_false_of_ne (by omega)
  have hst : ∀ (wr : World), Below w.heap.size w wr → ∀ i, i < N → Calls Tryd.prog 73 #[.pointer (some ⟨p, 0, none⟩), .int .i64 (i : Int)] wr fun e w' => e = .returned (.agg #[.int .u16 (n16 b (6 * i)), .int .u32 (n32 b (6 * i + 2))]) ∧ Below wr.heap.size wr w' :=
    fun wr hw i hi => setting_any (cell_below hc hw) (h.below hw) hb i (by omega)
  have hbd : ∀ i, 0 ≤ n16 b i ∧ n16 b i < 65536 := fun i => by have := hb.at i; have := hb.at (i + 1); unfold n16; omega
  have hfd := fieldId
  have HI := Lib.hid hids
  have HL := Lib.hid hl
  have HS := Lib.hid hst
  have HBD := Lib.hid hbd
  clear hc h hids hl hst hn e6 hbd
  have hmm := @run_makeMap Tryd.prog
  go_enter Tryd.func41, Tryd.ntmps41
  go_wp2_with (go_at_call 72; refine hns.mono ?_; rintro e w' ⟨rfl, rfl⟩)
  clear hns hN0 hmm
  go_loopw [42] (fun x wr => ∃ k : Nat, k ≤ N ∧ x = .int .i64 k ∧ (∀ (i j : Nat) (x : Int), i < j → j < k → ids[i]? = some x → ids[j]? ≠ some x) ∧ wr.ownsMap Tryd.prog 83 (plainElem (H := Unit) Tryd.prog 4) w.heap.size k (setOf (.lit (.bool true)) ((ids.take k).map (Lit.int .u16))) ∧ Below w.heap.size w wr) (fun x _ => N - (intOf x).toNat)
  case atStart => exact ⟨0, Nat.zero_le _, rfl, fun i j x h h2 => absurd h2 (Nat.not_lt_zero _), World.ownsMap_made _ _ _ _, (Below.refl _ _).alloc (Nat.le_refl _) _⟩
  case round =>
    obtain ⟨k, hk, rfl, hno, hown, hbl⟩ := hrel
    have HNO := Lib.hid hno
    have HO := Lib.hid hown
    clear hno hown
    by_cases hlt : k < N
    · have hs1 := HS.out wr hbl k hlt
      have hi1 := HI.out k hlt
      obtain ⟨hx0, hx1⟩ := HBD.out (6 * k)
      have HI1 := Lib.hid hi1
      clear hi1
      generalize n16 b (6 * k) = x at *
      generalize n32 b (6 * k + 2) = y at *
      have htk : ids.take (k + 1) = ids.take k ++ [x] := by
        obtain ⟨h1, h2⟩ := List.getElem?_eq_some_iff.1 HI1.out
        rw [List.take_succ_eq_append_getElem h1, h2]
      have hat := setOf_at (H := Unit) (.lit (.bool true)) (.lit (.bool false)) (.int .u16 x) ((ids.take k).map (Lit.int .u16)) (keyLits _)
      rw [mem_lits] at hat
      have HK := Lib.hid (keyUat (wf_u16 hx0 hx1))
      by_cases hm : x ∈ ids.take k
      · have HAT := Lib.hid (hat.1 hm)
        have HM := Lib.hid hm
        clear hat hm htk
        go_wp2_with (first
          | (go_at_call 73; (with_reducible refine hs1.mono ?_); rintro e w1 ⟨rfl, b1⟩)
          | (at_lookup; refine wpList_lookup_own_bool _ rfl _ _ 155 rfl 83 4 keyU Tryd.underlying155 Tryd.underlying4 (zeroB _) w.heap.size k _ rfl (ownsMap_below HO.out b1) _ _ rfl HK.out ?_; intro cc hcc; rw [HAT.out] at hcc; cases hcc))
        go_ret
        obtain ⟨i, hi, hie⟩ := List.mem_iff_getElem.1 HM.out
        rw [List.length_take] at hi
        rw [List.getElem_take] at hie
        exact DupEnd.yes (i := i) (j := k) (x := x) (by omega) (by rw [← hie]; exact List.getElem?_eq_getElem (by omega)) HI1.out (stepD hbl b1)
      · have HAT := Lib.hid (hat.2 hm)
        have HM := Lib.hid hm
        have HTK := Lib.hid htk
        clear hat hm htk
        go_wp2_with (first
          | (go_at_call 73; (with_reducible refine hs1.mono ?_); rintro e w1 ⟨rfl, b1⟩)
          | (at_lookup; refine wpList_lookup_own_bool _ rfl _ _ 155 rfl 83 4 keyU Tryd.underlying155 Tryd.underlying4 (zeroB _) w.heap.size k _ rfl (ownsMap_below HO.out b1) _ _ rfl HK.out ?_; intro cc hcc; rw [HAT.out] at hcc; cases hcc)
          | (at_mapUpdate; refine wpList_mapUpdate_own _ rfl _ _ _ 155 rfl 83 4 keyU Tryd.underlying155 (plainElem (H := Unit) Tryd.prog 4) w.heap.size k _ rfl (ownsMap_below HO.out b1) (by unfold maxLen; omega) _ _ _ rfl rfl HK.out _ [] (plainElem_bool Tryd.underlying4 true) ?_; intro w2 own2 g2))
        go_roundw
        case rel =>
          refine ⟨k + 1, by omega, by go_num, fun i j z h1 h2 h3 h4 => ?_, ?_, ?_⟩
          · rcases Nat.lt_or_ge j k with h5 | h5
            · exact HNO.out i j z h1 h5 h3 h4
            · obtain rfl : j = k := by omega
              have h6 := HI1.out.symm.trans h4
              cases h6
              refine HM.out (List.mem_iff_getElem?.2 ⟨i, ?_⟩)
              rw [List.getElem?_take_of_lt h1]
              exact h3
          · rw [HTK.out, List.map_append, List.map_cons, List.map_nil, setOf_snoc]
            exact own2
          · exact (stepD hbl b1).grown g2 (stepD hbl b1).size (fun q e => by cases e; exact Nat.le_refl _)
        case measure => simp [intOf]; omega
    · have hkN : k = N := by omega
      subst hkN
      go_wp2
      go_ret
      exact DupEnd.no (fun i j x h1 h2 h3 => by
        have h7 := (List.getElem?_eq_some_iff.1 h3).1
        exact HNO.out i j x h1 (by rw [← HL.out]; exact h7) h2 h3) hbl
theorem hasDup_any (N n : Nat) (hn : n = 6 * N) (hN : N ≤ 1000000000) (hc : w.cell? ⟨p, 5, none⟩ = some (.slice a n c)) (h : RdB w (.slice a n c) b) (hb : Bs b) (ids : List Int) (hl : ids.length = N) (hids : ∀ k, k < N → ids[k]? = some (n16 b (6 * k))) :
    Calls Tryd.prog 41 #[.pointer (some ⟨p, 0, none⟩)] w (DupEnd w ids) := by
  by_cases h0 : N = 0
  · have hns := numSettings_any hc (by omega)
    have e6 : n / 6 = 0 := by omega
    rw [e6] at hns
    subst h0
    have hnil : ids = [] := List.eq_nil_of_length_eq_zero hl
    subst hnil
    clear hids hl hn hc h e6
    go_enter Tryd.func41, Tryd.ntmps41
    go_wp2_with (go_at_call 72; refine hns.mono ?_; rintro e w' ⟨rfl, rfl⟩)
    go_ret
    exact DupEnd.no (fun i j x h1 h2 => by simp at h2) (Below.refl _ _)
  · by_cases h10 : N < 10
    · exact hasDup_small N n hn hc h hb ids hl hids (by omega) h10
    · exact hasDup_large N n hn hN hc h hb ids hl hids (by omega)
end
end Go.Proofs.YtfdlbjibninakaaDoor
