/- The laws of reading, over the plain models alone. No program stands here. -/
import Derived.Test.YtfdlbjibninakaaDoorMs
set_option linter.unusedVariables false
set_option linter.unusedSimpArgs false
namespace Go.Proofs.YtfdlbjibninakaaDoor.Pl

/-! ## Bytes -/
theorem gb_bd {b : List Int} (hb : Byt b) (i : Nat) : 0 ≤ gb b i ∧ gb b i < 256 := by
  unfold gb
  rw [List.getD_eq_getElem?_getD]
  cases h : b[i]? with
  | none => simp
  | some x => exact hb x (List.mem_of_getElem? h)
theorem n16_bd {b : List Int} (hb : Byt b) (i : Nat) : 0 ≤ n16 b i ∧ n16 b i < 65536 := by
  have h0 := gb_bd hb i
  have h1 := gb_bd hb (i + 1)
  unfold n16
  omega
theorem n32_bd {b : List Int} (hb : Byt b) (i : Nat) : 0 ≤ n32 b i ∧ n32 b i < 4294967296 := by
  have h0 := gb_bd hb i
  have h1 := gb_bd hb (i + 1)
  have h2 := gb_bd hb (i + 2)
  have h3 := gb_bd hb (i + 3)
  unfold n32
  omega
theorem n31_bd {b : List Int} (i : Nat) : 0 ≤ n31 b i ∧ n31 b i < 2147483648 := by unfold n31; omega
theorem Byt.take {b : List Int} (h : Byt b) (n : Nat) : Byt (b.take n) := fun x hx => h x (List.mem_of_mem_take hx)
theorem Byt.drop {b : List Int} (h : Byt b) (n : Nat) : Byt (b.drop n) := fun x hx => h x (List.mem_of_mem_drop hx)
theorem Byt.app {a b : List Int} (h : Byt a) (g : Byt b) : Byt (a ++ b) := fun x hx => (List.mem_append.1 hx).elim (h x) (g x)
theorem Byt.tail {p : Int} {b : List Int} (h : Byt (p :: b)) : Byt b := fun x hx => h x (List.mem_cons_of_mem _ hx)
theorem gb_take (b : List Int) {k i : Nat} (h : i < k) : gb (b.take k) i = gb b i := by
  unfold gb
  rw [List.getD_eq_getElem?_getD, List.getD_eq_getElem?_getD, List.getElem?_take, if_pos h]
theorem gb_app (a b : List Int) {i : Nat} (h : i < a.length) : gb (a ++ b) i = gb a i := by
  unfold gb
  rw [List.getD_eq_getElem?_getD, List.getD_eq_getElem?_getD, List.getElem?_append_left h]
theorem n32_take (b : List Int) {k i : Nat} (h : i + 3 < k) : n32 (b.take k) i = n32 b i := by
  unfold n32
  rw [gb_take b (by omega), gb_take b (by omega), gb_take b (by omega), gb_take b h]
theorem n31_take (b : List Int) {k i : Nat} (h : i + 3 < k) : n31 (b.take k) i = n31 b i := by unfold n31; rw [n32_take b h]
theorem hdOf_app (a b : List Int) (h : 9 ≤ a.length) : hdOf (a ++ b) = hdOf a := by
  unfold hdOf n31 n32
  rw [gb_app a b (by omega), gb_app a b (by omega), gb_app a b (by omega), gb_app a b (by omega), gb_app a b (by omega), gb_app a b (by omega), gb_app a b (by omega), gb_app a b (by omega), gb_app a b (by omega)]
theorem hdOf_bd {b : List Int} (hb : Byt b) : (0 ≤ (hdOf b).ty ∧ (hdOf b).ty < 256) ∧ (0 ≤ (hdOf b).fl ∧ (hdOf b).fl < 256) ∧ (0 ≤ (hdOf b).ln ∧ (hdOf b).ln < 16777216) ∧ (0 ≤ (hdOf b).st ∧ (hdOf b).st < 2147483648) := by
  have h0 := gb_bd hb 0
  have h1 := gb_bd hb 1
  have h2 := gb_bd hb 2
  refine ⟨gb_bd hb 3, gb_bd hb 4, ?_, n31_bd 5⟩
  show 0 ≤ gb b 0 * 65536 + gb b 1 * 256 + gb b 2 ∧ gb b 0 * 65536 + gb b 1 * 256 + gb b 2 < 16777216
  omega

/-! ## One payload, by the framer and by the reference -/
/-- The framer's result of a payload is what the reference wants. -/
def Fits (s p : Rs) : Prop := s.f = -1 ∨ (s.f = 7 ∧ p.f ≠ 0) ∨ (s.f ≠ 7 ∧ s.f ≠ -1 ∧ s = p)
theorem Fits.any {p : Rs} (h : p.f ≠ 0) : Fits (.bad 7 0 0) p := .inr (.inl ⟨rfl, h⟩)
theorem Fits.same {p : Rs} (h : p.f ≠ 7) (h1 : p.f ≠ -1) : Fits p p := .inr (.inr ⟨h, h1, rfl⟩)
theorem Fits.ok (x : Fr) : Fits (.ok x) (.ok x) := .same (show (0 : Int) ≠ 7 by decide) (show (0 : Int) ≠ -1 by decide)
theorem Fits.bad4 (c : Int) : Fits (.bad 4 c 0) (.bad 4 c 0) := .same (show (4 : Int) ≠ 7 by decide) (show (4 : Int) ≠ -1 by decide)
theorem b2 : (Rs.bad 2 0 0).f ≠ 0 := show (2 : Int) ≠ 0 by decide
theorem b4 (c : Int) : (Rs.bad 4 c 0).f ≠ 0 := show (4 : Int) ≠ 0 by decide
theorem b5 (s : Int) : (Rs.bad 5 1 s).f ≠ 0 := show (5 : Int) ≠ 0 by decide
theorem headEnd_bad {h : Hd} {x : Fr} {pad : Int} {b : List Int} (hp : (b.length : Int) < pad) : (headEnd h x pad b).f ≠ 0 := by
  unfold headEnd
  rw [if_pos hp]
  exact b5 _
theorem fits_headers (h : Hd) (b : List Int) (hb : Byt b) (h1 : h.ty = 1) : Fits (sHead h b) (parseHeaders h b) := by
  unfold sHead parseHeaders
  by_cases hs : h.st = 0
  · rw [if_pos hs, if_pos hs]; exact .bad4 1
  rw [if_neg hs, if_neg hs]
  unfold sFrag sUnpad
  have h5 : ¬ h.ty = 5 := by omega
  cases h8 : bitOf h.fl 8 with
  | false =>
    simp only [Bool.false_eq_true, if_false]
    rw [if_neg h5]
    unfold headPrio
    cases h32 : bitOf h.fl 32 with
    | false =>
      simp only [Bool.false_eq_true, if_false]
      unfold headEnd
      rw [if_neg (by omega)]
      simp only [Int.toNat_zero, Nat.sub_zero, List.take_length]
      exact .ok _
    | true =>
      simp only [if_true]
      by_cases hl : b.length < 5
      · rw [if_pos hl, if_pos hl]; exact .any b2
      rw [if_neg hl, if_neg hl]
      unfold headEnd
      rw [if_neg (by omega)]
      simp only [Int.toNat_zero, Nat.sub_zero, List.take_length]
      exact .ok _
  | true =>
    simp only [if_true]
    cases b with
    | nil => exact .any b2
    | cons p b =>
      have hp := hb p (List.mem_cons_self ..)
      simp only
      by_cases hpl : (b.length : Int) < p
      · rw [if_pos hpl]
        refine .any ?_
        unfold headPrio
        cases h32 : bitOf h.fl 32 with
        | false =>
          simp only [Bool.false_eq_true, if_false]
          exact headEnd_bad hpl
        | true =>
          simp only [if_true]
          by_cases hl : b.length < 5
          · rw [if_pos hl]; exact b2
          · rw [if_neg hl]; exact headEnd_bad (by rw [List.length_drop]; omega)
      rw [if_neg hpl]
      simp only
      rw [if_neg h5]
      unfold headPrio
      cases h32 : bitOf h.fl 32 with
      | false =>
        simp only [Bool.false_eq_true, if_false]
        unfold headEnd
        rw [if_neg hpl]
        exact .ok _
      | true =>
        simp only [if_true]
        have htl : (b.take (b.length - p.toNat)).length = b.length - p.toNat := by rw [List.length_take]; omega
        by_cases hl : b.length - p.toNat < 5
        · rw [if_pos (by rw [htl]; exact hl)]
          refine .any ?_
          by_cases hl2 : b.length < 5
          · rw [if_pos hl2]; exact b2
          · rw [if_neg hl2]; exact headEnd_bad (by rw [List.length_drop]; omega)
        rw [if_neg (by rw [htl]; exact hl), if_neg (by omega)]
        unfold headEnd
        rw [if_neg (by rw [List.length_drop]; omega), n32_take b (by omega), n31_take b (by omega), gb_take b (by omega)]
        have e : (b.take (b.length - p.toNat)).drop 5 = (b.drop 5).take ((b.drop 5).length - p.toNat) := by
          rw [List.drop_take, List.length_drop]
          congr 1
          omega
        rw [e]
        exact .ok _
theorem fits_push (h : Hd) (b : List Int) (hb : Byt b) (h5 : h.ty = 5) : Fits (sHead h b) (parsePush h b) := by
  unfold sHead parsePush
  by_cases hs : h.st = 0
  · rw [if_pos hs, if_pos hs]; exact .bad4 1
  rw [if_neg hs, if_neg hs]
  unfold sFrag sUnpad
  cases h8 : bitOf h.fl 8 with
  | false =>
    simp only [Bool.false_eq_true, if_false]
    rw [if_pos h5]
    unfold pushEnd
    by_cases hl : b.length < 4
    · rw [if_pos hl, if_pos hl]; exact .any b2
    rw [if_neg hl, if_neg hl, if_neg (by omega)]
    have e : (b.drop 4).take (b.length - 4 - (0 : Int).toNat) = b.drop 4 := by
      rw [List.take_of_length_le (by rw [List.length_drop]; simp)]
    rw [e]
    exact .ok _
  | true =>
    simp only [if_true]
    cases b with
    | nil => exact .any b2
    | cons p b =>
      have hp := hb p (List.mem_cons_self ..)
      simp only
      unfold pushEnd
      by_cases hpl : (b.length : Int) < p
      · rw [if_pos hpl]
        refine .any ?_
        by_cases hl : b.length < 4
        · rw [if_pos hl]; exact b2
        · rw [if_neg hl, if_pos (by omega)]; exact b4 1
      rw [if_neg hpl]
      simp only
      rw [if_pos h5]
      have htl : (b.take (b.length - p.toNat)).length = b.length - p.toNat := by rw [List.length_take]; omega
      by_cases hl : b.length - p.toNat < 4
      · rw [if_pos (by rw [htl]; exact hl)]
        refine .any ?_
        by_cases hl2 : b.length < 4
        · rw [if_pos hl2]; exact b2
        · rw [if_neg hl2, if_pos (by omega)]; exact b4 1
      rw [if_neg (by rw [htl]; exact hl), if_neg (by omega), if_neg (by omega), n31_take b (by omega)]
      have e : (b.take (b.length - p.toNat)).drop 4 = (b.drop 4).take (b.length - 4 - p.toNat) := by
        rw [List.drop_take]
        congr 1
        omega
      rw [e]
      exact .ok _
theorem fits_data (h : Hd) (b : List Int) : Fits (sDat h b) (parseData h b) := by
  unfold sDat parseData
  by_cases hs : h.st = 0
  · rw [if_pos hs, if_pos hs]; exact .bad4 1
  rw [if_neg hs, if_neg hs]
  unfold sData sUnpad
  cases h8 : bitOf h.fl 8 with
  | false => exact .ok _
  | true =>
    simp only [if_true]
    cases b with
    | nil => exact .any b2
    | cons p b =>
      simp only
      by_cases hpl : (b.length : Int) < p
      · rw [if_pos hpl, if_pos hpl]
        simp only
        rw [if_neg (by simp)]
        exact .bad4 1
      · rw [if_neg hpl, if_neg hpl]
        exact .ok _
theorem firstOf_big {l : List (Int × Int)} : 2147483647 < firstOf 4 l → l.any big4 = true := by
  unfold firstOf
  induction l with
  | nil => intro h; simp at h
  | cons p l ih =>
    intro h
    rw [List.find?_cons] at h
    rw [List.any_cons, Bool.or_eq_true]
    by_cases hp : p.1 = 4
    · have e : (p.1 == 4) = true := by simp [hp]
      rw [e] at h
      simp only [Option.map_some, Option.getD_some] at h
      left
      unfold big4
      rw [e]
      simpa using h
    · have e : (p.1 == 4) = false := by simp [hp]
      rw [e] at h
      exact .inr (ih h)
theorem big_firstOf {l : List (Int × Int)} : l.any big4 = true → ¬ 1 < wins l → 2147483647 < firstOf 4 l := by
  unfold firstOf wins
  induction l with
  | nil => intro h; simp at h
  | cons p l ih =>
    intro h hw
    rw [List.find?_cons]
    rw [List.any_cons, Bool.or_eq_true] at h
    by_cases hp : p.1 = 4
    · have e : (p.1 == 4) = true := by simp [hp]
      rw [List.filter_cons, if_pos e, List.length_cons] at hw
      rw [e]
      simp only [Option.map_some, Option.getD_some]
      rcases h with h | h
      · unfold big4 at h
        rw [e] at h
        simpa using h
      · exfalso
        rw [List.any_eq_true] at h
        obtain ⟨q, hq, hb⟩ := h
        have hqf : q ∈ l.filter (fun p => p.1 == 4) := List.mem_filter.2 ⟨hq, by unfold big4 at hb; simp at hb; simp [hb.1]⟩
        have := List.length_pos_of_mem hqf
        omega
    · have e : (p.1 == 4) = false := by simp [hp]
      rw [List.filter_cons, if_neg (by simp [e])] at hw
      rw [e]
      rcases h with h | h
      · unfold big4 at h
        rw [e] at h
        simp at h
      · exact ih h hw
theorem fits_settings (h : Hd) (b : List Int) (hl : (b.length : Int) = h.ln) : Fits (sSettings h b) (parseSettings h b) := by
  unfold sSettings parseSettings
  by_cases ha : bitOf h.fl 1 = true ∧ 0 < h.ln
  · have e : sAck h b = true := by unfold sAck; rw [ha.1]; simp; omega
    rw [if_pos (by simp [e]), if_pos ha, e]
    unfold eitherR
    by_cases hs : h.st = 0
    · simp [hs]; exact .bad4 6
    · simp [hs]; exact .any (by decide)
  have e : sAck h b = false := by
    unfold sAck
    cases h1 : bitOf h.fl 1 with
    | false => rfl
    | true => have : ¬ 0 < h.ln := fun h2 => ha ⟨h1, h2⟩; rw [Bool.true_and]; exact decide_eq_false (by omega)
  rw [if_neg ha, e]
  by_cases hs : h.st = 0
  · have d1 : decide (h.st ≠ 0) = false := by simp [hs]
    rw [d1, if_neg (show ¬ h.st ≠ 0 by simp [hs])]
    by_cases hm : b.length % 6 ≠ 0
    · have d2 : sMod b = true := by unfold sMod; simpa using hm
      rw [d2, if_pos hm]
      simp only [Bool.or_true, if_true]
      unfold eitherR
      simp only [Bool.false_and, Bool.false_eq_true, if_false]
      exact .bad4 6
    · have d2 : sMod b = false := by unfold sMod; simpa using hm
      rw [d2, if_neg hm]
      simp only [Bool.or_false, Bool.false_eq_true, if_false]
      by_cases hb : (pairs (b.length / 6) b).any big4 = true
      · rw [if_pos hb]
        by_cases hw : 1 < wins (pairs (b.length / 6) b)
        · rw [if_pos hw]; exact .inl rfl
        · rw [if_neg hw, if_pos (big_firstOf hb hw)]; exact .bad4 3
      · rw [if_neg hb, if_neg (fun hf => hb (firstOf_big hf))]
        exact .ok _
  · have d1 : decide (h.st ≠ 0) = true := by simp [hs]
    rw [d1, if_pos (show h.st ≠ 0 from hs)]
    simp only [Bool.true_or, if_true, Bool.false_or]
    unfold eitherR
    cases d2 : sMod b with
    | true => simp only [Bool.and_self, if_true]; exact .any (by decide)
    | false => simp only [Bool.and_false, Bool.false_eq_true, if_false, if_true]; exact .bad4 1
theorem fits_prio (h : Hd) (b : List Int) : Fits (sPrio h b) (parsePriority h b) := by
  unfold sPrio parsePriority
  by_cases h5 : b.length ≠ 5
  · rw [if_pos h5]
    refine .any ?_
    by_cases hs : h.st = 0
    · rw [if_pos hs]; exact b4 1
    · rw [if_neg hs, if_pos h5]; exact b4 6
  · rw [if_neg h5]
    by_cases hs : h.st = 0
    · rw [if_pos hs, if_pos hs]; exact .bad4 1
    · rw [if_neg hs, if_neg hs, if_neg h5]; exact .ok _
theorem fits_rst (h : Hd) (b : List Int) : Fits (sRst h b) (parseRst h b) := by
  unfold sRst parseRst eitherR
  by_cases h5 : b.length = 4 <;> by_cases hs : h.st = 0 <;> simp [h5, hs]
  · exact .bad4 1
  · exact .ok _
  · exact .any (b4 6)
  · exact .bad4 6
theorem fits_ping (h : Hd) (b : List Int) : Fits (sPing h b) (parsePing h b) := by
  unfold sPing parsePing eitherR
  by_cases h5 : b.length = 8 <;> by_cases hs : h.st = 0 <;> simp [h5, hs]
  · exact .ok _
  · exact .bad4 1
  · exact .bad4 6
  · exact .any (b4 6)
theorem fits_win (h : Hd) (b : List Int) : Fits (sWin h b) (parseWindow h b) := by
  unfold sWin parseWindow sWindow
  by_cases h5 : b.length = 4 <;> simp [h5]
  · by_cases hi : n31 b 0 = 0 <;> by_cases hs : h.st = 0 <;> simp [hi, hs]
    · exact .bad4 1
    · exact .same (show (5 : Int) ≠ 7 by decide) (show (5 : Int) ≠ -1 by decide)
    · exact .ok _
    · exact .ok _
  · exact .bad4 6
theorem fits_go (h : Hd) (b : List Int) : Fits (sGo h b) (parseGoAway h b) := by
  unfold sGo parseGoAway eitherR
  by_cases hl5 : b.length < 8 <;> by_cases hs : h.st = 0 <;> simp [hl5, hs]
  · exact .bad4 6
  · exact .any (b4 1)
  · exact .ok _
  · exact .bad4 1
theorem fits_upd (h : Hd) (b : List Int) : Fits (sUpd h b) (parseUpdate h b) := by
  unfold sUpd parseUpdate eitherR
  by_cases hl5 : b.length < 4 <;> by_cases hs : h.st = 0 <;> simp [hl5, hs]
  · exact .bad4 6
  · exact .any (b4 1)
  · by_cases hi : n31 b 0 = 0 <;> simp [hi]
    · exact .bad4 1
    · exact .ok _
  · exact .bad4 1
theorem fits_cont (h : Hd) (b : List Int) : Fits (sCont h b) (parseCont h b) := by
  unfold sCont parseCont
  by_cases hs : h.st = 0
  · rw [if_pos hs]; exact .bad4 1
  · rw [if_neg hs]; exact .ok _
theorem fits_payload (h : Hd) (b : List Int) (hb : Byt b) (hl : (b.length : Int) = h.ln) : Fits (sPayload h b) (parse h b) := by
  unfold sPayload parse
  by_cases h4 : h.ty = 4
  · simp only [h4]; exact fits_settings h b hl
  by_cases h2 : h.ty = 2
  · simp only [h2]; exact fits_prio h b
  by_cases h3 : h.ty = 3
  · simp only [h3]; exact fits_rst h b
  by_cases h6 : h.ty = 6
  · simp only [h6]; exact fits_ping h b
  by_cases h8 : h.ty = 8
  · simp only [h8]; exact fits_win h b
  by_cases h0 : h.ty = 0
  · simp only [h0]; exact fits_data h b
  by_cases h1 : h.ty = 1
  · have := fits_headers h b hb h1; simp only [h1]; exact this
  by_cases h5 : h.ty = 5
  · have := fits_push h b hb h5; simp only [h5]; exact this
  by_cases h9 : h.ty = 9
  · simp only [h9]; exact fits_cont h b
  by_cases h7 : h.ty = 7
  · simp only [h7]; exact fits_go h b
  by_cases h16 : h.ty = 16
  · simp only [h16]; exact fits_upd h b
  simp only [h0, h1, h2, h3, h4, h5, h6, h7, h8, h9, h16, if_false, or_self]
  exact .ok _
end Go.Proofs.YtfdlbjibninakaaDoor.Pl
