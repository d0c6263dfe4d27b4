/- The laws of reading, over the plain models alone: what is read is what is wanted; frames behind others; the reserved bit; unknown frames. No program stands here. -/
import Derived.Test.YtfdlbjibninakaaDoorMl
set_option linter.unusedVariables false
set_option linter.unusedSimpArgs false
namespace Go.Proofs.YtfdlbjibninakaaDoor.Pl

def okF (r : Rs) : Prop := r.f = 0 ∨ r.f = 2 ∨ r.f = 4 ∨ r.f = 5
theorem okF_ok (x : Fr) : okF (.ok x) := .inl rfl
theorem okF_2 : okF (.bad 2 0 0) := .inr (.inl rfl)
theorem okF_4 (c : Int) : okF (.bad 4 c 0) := .inr (.inr (.inl rfl))
theorem okF_5 (s : Int) : okF (.bad 5 1 s) := .inr (.inr (.inr rfl))
theorem okF_ite {c : Prop} [Decidable c] {a b : Rs} (h : okF a) (g : okF b) : okF (if c then a else b) := by split <;> assumption
theorem headEnd_f (h : Hd) (x : Fr) (p : Int) (b : List Int) : okF (headEnd h x p b) := okF_ite (okF_5 _) (okF_ok _)
theorem headPrio_f (h : Hd) (p : Int) (b : List Int) : okF (headPrio h p b) := okF_ite (okF_ite okF_2 (headEnd_f ..)) (headEnd_f ..)
theorem pushEnd_f (h : Hd) (p : Int) (b : List Int) : okF (pushEnd h p b) := okF_ite okF_2 (okF_ite (okF_4 _) (okF_ok _))
theorem parse_f (h : Hd) (b : List Int) : okF (parse h b) := by
  unfold parse
  refine okF_ite (okF_ite (okF_4 _) (okF_ite ?_ (okF_ok _))) (okF_ite (okF_ite (okF_4 _) (okF_ite ?_ (headPrio_f ..))) (okF_ite (okF_ite (okF_4 _) (okF_ite (okF_4 _) (okF_ok _))) (okF_ite (okF_ite (okF_4 _) (okF_ite (okF_4 _) (okF_ok _)))
    (okF_ite (okF_ite (okF_4 _) (okF_ite (okF_4 _) (okF_ite (okF_4 _) (okF_ite (okF_4 _) (okF_ok _))))) (okF_ite (okF_ite (okF_4 _) (okF_ite ?_ (pushEnd_f ..))) (okF_ite (okF_ite (okF_4 _) (okF_ite (okF_4 _) (okF_ok _)))
    (okF_ite (okF_ite (okF_4 _) (okF_ite (okF_4 _) (okF_ok _))) (okF_ite (okF_ite (okF_4 _) (okF_ite (okF_ite (okF_4 _) (okF_5 _)) (okF_ok _))) (okF_ite (okF_ite (okF_4 _) (okF_ok _)) (okF_ite (okF_ite (okF_4 _) (okF_ite (okF_4 _) (okF_ite (okF_4 _) (okF_ok _)))) (okF_ok _)))))))))))
  · cases b with
    | nil => exact okF_2
    | cons p b => exact okF_ite (okF_4 _) (okF_ok _)
  · cases b with
    | nil => exact okF_2
    | cons p b => exact headPrio_f ..
  · cases b with
    | nil => exact okF_2
    | cons p b => exact pushEnd_f ..
/-- What the reference makes of a payload. -/
def sF (h : Hd) (r : Rs) : Prop := (r.f = 0 ∧ r.c = 0 ∧ r.s = 0 ∧ r.x.ty = h.ty ∧ r.x.fl = h.fl ∧ (h.ty = 1 ∨ h.ty = 9 → h.st ≠ 0)) ∨ r.f = 4 ∨ r.f = 7 ∨ r.f = -1 ∨ (r.f = 5 ∧ h.ty = 8)
theorem sF_bad4 (h : Hd) (c : Int) : sF h (.bad 4 c 0) := .inr (.inl rfl)
theorem sF_bad7 (h : Hd) : sF h (.bad 7 0 0) := .inr (.inr (.inl rfl))
theorem sF_ok {h : Hd} {x : Fr} (h1 : x.ty = h.ty) (h2 : x.fl = h.fl) (h3 : h.ty = 1 ∨ h.ty = 9 → h.st ≠ 0) : sF h (.ok x) := .inl ⟨rfl, rfl, rfl, h1, h2, h3⟩
theorem sF_either (h : Hd) (p q : Bool) : sF h (eitherR p q) := by
  unfold eitherR
  cases p <;> cases q
  · exact sF_bad4 h 6
  · exact sF_bad4 h 6
  · exact sF_bad4 h 1
  · exact sF_bad7 h
theorem sPayload_sF (h : Hd) (b : List Int) : sF h (sPayload h b) := by
  unfold sPayload
  by_cases h4 : h.ty = 4
  · rw [if_pos h4]
    unfold sSettings
    split
    · exact sF_either ..
    split
    · split
      · exact .inr (.inr (.inr (.inl rfl)))
      · exact sF_bad4 h 3
    · exact sF_ok rfl rfl (by omega)
  rw [if_neg h4]
  by_cases h2 : h.ty = 2
  · rw [if_pos h2]
    unfold sPrio
    split
    · exact sF_bad7 h
    split
    · exact sF_bad4 h 1
    · exact sF_ok rfl rfl (by omega)
  rw [if_neg h2]
  by_cases h3 : h.ty = 3
  · rw [if_pos h3]
    unfold sRst
    split
    · exact sF_either ..
    · exact sF_ok rfl rfl (by omega)
  rw [if_neg h3]
  by_cases h6 : h.ty = 6
  · rw [if_pos h6]
    unfold sPing
    split
    · exact sF_either ..
    · exact sF_ok rfl rfl (by omega)
  rw [if_neg h6]
  by_cases h8 : h.ty = 8
  · rw [if_pos h8]
    unfold sWin
    split
    · exact sF_bad4 h 6
    unfold sWindow
    split
    · split
      · exact sF_bad4 h 1
      · exact .inr (.inr (.inr (.inr ⟨rfl, h8⟩)))
    · exact sF_ok rfl rfl (by omega)
  rw [if_neg h8]
  by_cases h0 : h.ty = 0
  · rw [if_pos h0]
    unfold sDat
    split
    · exact sF_bad4 h 1
    unfold sData
    split
    · split
      · exact sF_bad7 h
      · exact sF_bad4 h 1
    · exact sF_ok rfl rfl (by omega)
  rw [if_neg h0]
  by_cases h1 : h.ty = 1 ∨ h.ty = 5
  · rw [if_pos h1]
    unfold sHead
    split
    · exact sF_bad4 h 1
    rename_i hs
    unfold sFrag
    split
    · exact sF_bad7 h
    split
    · split
      · exact sF_bad7 h
      · exact sF_ok rfl rfl (fun _ => hs)
    split
    · split
      · exact sF_bad7 h
      · exact sF_ok rfl rfl (fun _ => hs)
    · exact sF_ok rfl rfl (fun _ => hs)
  rw [if_neg h1]
  by_cases h9 : h.ty = 9
  · rw [if_pos h9]
    unfold sCont
    split
    · exact sF_bad4 h 1
    rename_i hs
    exact sF_ok rfl rfl (fun _ => hs)
  rw [if_neg h9]
  by_cases h7 : h.ty = 7
  · rw [if_pos h7]
    unfold sGo
    split
    · exact sF_either ..
    · exact sF_ok rfl rfl (by omega)
  rw [if_neg h7]
  by_cases h16 : h.ty = 16
  · rw [if_pos h16]
    unfold sUpd
    split
    · exact sF_either ..
    split
    · exact sF_bad4 h 1
    · exact sF_ok rfl rfl (by omega)
  rw [if_neg h16]
  exact sF_ok rfl rfl (by omega)

/-! ## One frame -/
theorem cutOff_f (b : List Int) : ((cutOff b).f = 1 ∧ b = []) ∨ (cutOff b).f = 2 := by
  unfold cutOff
  by_cases h : b.length = 0
  · rw [if_pos h]; exact .inl ⟨rfl, List.eq_nil_of_length_eq_zero h⟩
  · rw [if_neg h]; exact .inr rfl
theorem one_short {m o : Int} {b : List Int} (h : b.length < 9) : readAll m o b = [cutOff b] := by
  have e : one m o b = (cutOff b, o, []) := by unfold one; rw [if_pos h]
  rw [readAll_stop (by rw [e]; exact cutOff_stops b), e]
theorem one_large {m o : Int} {b : List Int} (h : 9 ≤ b.length) (hm : m < (hdOf b).ln) : readAll m o b = [.bad 3 0 0] := by
  have e : one m o b = (.bad 3 0 0, o, b.drop 9) := by unfold one; rw [if_neg (by omega), if_pos hm]
  rw [readAll_stop (by rw [e]; rfl), e]
theorem one_ord {m o : Int} {b : List Int} (h : 9 ≤ b.length) (hm : (hdOf b).ln ≤ m) (ho : ordBad o (hdOf b) = true) : readAll m o b = [.bad 4 1 0] := by
  have e : one m o b = (.bad 4 1 0, o, b.drop 9) := by unfold one; rw [if_neg (by omega), if_neg (by omega), if_pos ho]
  rw [readAll_stop (by rw [e]; rfl), e]
theorem one_cut {m o : Int} {b : List Int} (h : 9 ≤ b.length) (hm : (hdOf b).ln ≤ m) (ho : ordBad o (hdOf b) = false) (hl : ((b.drop 9).length : Int) < (hdOf b).ln) : readAll m o b = [cutOff (b.drop 9)] := by
  have e : one m o b = (cutOff (b.drop 9), nextO o (hdOf b), []) := by unfold one; rw [if_neg (by omega), if_neg (by omega), if_neg (by simp [ho]), if_pos hl]
  rw [readAll_stop (by rw [e]; exact cutOff_stops _), e]
theorem one_parse {m o : Int} {b : List Int} (h : 9 ≤ b.length) (hm : (hdOf b).ln ≤ m) (ho : ordBad o (hdOf b) = false) (hl : (hdOf b).ln ≤ ((b.drop 9).length : Int)) :
    one m o b = (parse (hdOf b) ((b.drop 9).take (hdOf b).ln.toNat), nextO o (hdOf b), (b.drop 9).drop (hdOf b).ln.toNat) := by
  unfold one; rw [if_neg (by omega), if_neg (by omega), if_neg (by simp [ho]), if_neg (by omega)]
theorem one_stop {m o : Int} {b : List Int} (h : 9 ≤ b.length) (hm : (hdOf b).ln ≤ m) (ho : ordBad o (hdOf b) = false) (hl : (hdOf b).ln ≤ ((b.drop 9).length : Int)) {p : Rs} (hp : parse (hdOf b) ((b.drop 9).take (hdOf b).ln.toNat) = p) (hg : p.going = false) :
    readAll m o b = [p] := by
  have e := one_parse h hm ho hl
  rw [readAll_stop (by rw [e, hp]; exact hg), e, hp]
theorem one_go {m o : Int} {b : List Int} (h : 9 ≤ b.length) (hm : (hdOf b).ln ≤ m) (ho : ordBad o (hdOf b) = false) (hl : (hdOf b).ln ≤ ((b.drop 9).length : Int)) {p : Rs} (hp : parse (hdOf b) ((b.drop 9).take (hdOf b).ln.toNat) = p) (hg : p.going = true) :
    readAll m o b = p :: readAll m (nextO o (hdOf b)) ((b.drop 9).drop (hdOf b).ln.toNat) := by
  have e := one_parse h hm ho hl
  rw [readAll_go (by rw [e, hp]; exact hg), e, hp]
/-- Anything but the first result is left open. -/
theorem one_any {m o : Int} {b : List Int} (h : 9 ≤ b.length) (hm : (hdOf b).ln ≤ m) (ho : ordBad o (hdOf b) = false) (hl : (hdOf b).ln ≤ ((b.drop 9).length : Int)) {p : Rs} (hp : parse (hdOf b) ((b.drop 9).take (hdOf b).ln.toNat) = p) : ∃ gs, readAll m o b = p :: gs := by
  cases hg : p.going with
  | false => exact ⟨_, one_stop h hm ho hl hp hg⟩
  | true => exact ⟨_, one_go h hm ho hl hp hg⟩
theorem pay_len {b : List Int} (h0 : 0 ≤ (hdOf b).ln) (hl : (hdOf b).ln ≤ ((b.drop 9).length : Int)) : (((b.drop 9).take (hdOf b).ln.toNat).length : Int) = (hdOf b).ln := by
  rw [List.length_take]
  omega
theorem ln_bd {b : List Int} (hb : Byt b) : 0 ≤ (hdOf b).ln ∧ (hdOf b).ln ≤ 16777215 := by have := (hdOf_bd hb).2.2.1; omega

/-! ## FnRead: what is read is what is wanted -/
/-- The framer's greatest length, by the reference's. -/
def MaxOk (m M : Int) : Prop := (0 < m ∧ M = m) ∨ (¬ 0 < m ∧ 16777215 ≤ M)
theorem going_of {p : Rs} (h : p.f = 0 ∨ p.f = 5) : p.going = true := by unfold Rs.going; exact decide_eq_true h
theorem stops_of {p : Rs} (h : p.f ≠ 0) (h5 : p.f ≠ 5) : p.going = false := by unfold Rs.going; exact decide_eq_false (by omega)
theorem nextO_keep {o : Int} {h : Hd} (h8 : h.ty = 8) : nextO o h = o := by unfold nextO; rw [if_neg (by omega)]
theorem read_mat {m M : Int} (hM : MaxOk m M) (n : Nat) : ∀ (b : List Int), b.length = n → Byt b → ∀ o, Mat (sRead m o b).2 (sRead m o b).1 (readAll M o b) := by
  induction n using Nat.strongRecOn with
  | _ n ih =>
    intro b hn hb o
    have hln := ln_bd hb
    cases hS : sStep m o b with
    | stop l q =>
      rw [sRead_stop hS]
      show Mat q l _
      unfold sStep at hS
      by_cases h1 : b.length < 9
      · rw [if_pos h1] at hS; cases hS
        rw [one_short h1]
        exact Mat.stop1 (by rcases cutOff_f b with h | h <;> omega)
      rw [if_neg h1] at hS
      by_cases h2 : 0 < m ∧ m < (hdOf b).ln
      · rw [if_pos h2] at hS
        have hm : M = m := by rcases hM with h | h <;> omega
        rw [one_large (by omega) (by omega)]
        split at hS
        · cases hS; exact Mat.stop7 (by decide)
        · cases hS; exact Mat.stop1 (by decide)
      rw [if_neg h2] at hS
      have hlM : (hdOf b).ln ≤ M := by rcases hM with h | h <;> omega
      by_cases h3 : ((b.drop 9).length : Int) < (hdOf b).ln
      · rw [if_pos h3] at hS; cases hS
        cases ho : ordBad o (hdOf b) with
        | true => rw [one_ord (by omega) hlM ho]; exact Mat.stop7 (by decide)
        | false => rw [one_cut (by omega) hlM ho h3]; exact Mat.stop7 (by rcases cutOff_f (b.drop 9) with h | h <;> omega)
      rw [if_neg h3] at hS
      have hfit := fits_payload (hdOf b) ((b.drop 9).take (hdOf b).ln.toNat) ((hb.drop 9).take _) (pay_len hln.1 (by omega))
      unfold sAfter at hS
      by_cases h4 : (sPayload (hdOf b) ((b.drop 9).take (hdOf b).ln.toNat)).f < 0
      · rw [if_pos h4] at hS; cases hS; exact Mat.more _
      rw [if_neg h4] at hS
      cases ho : ordBad o (hdOf b) with
      | true =>
        rw [one_ord (by omega) hlM ho]
        rw [ho, if_pos rfl] at hS
        split at hS
        · cases hS; exact Mat.stop1 (by decide)
        · cases hS; exact Mat.stop7 (by decide)
      | false =>
        rw [ho, if_neg (by decide)] at hS
        generalize hp : parse (hdOf b) ((b.drop 9).take (hdOf b).ln.toNat) = p at hfit
        by_cases h7 : (sPayload (hdOf b) ((b.drop 9).take (hdOf b).ln.toNat)).f = 7
        · rw [if_pos h7] at hS; cases hS
          obtain ⟨gs, hg⟩ := one_any (m := M) (o := o) (by omega) hlM ho (by omega) hp
          rw [hg]
          refine .cons _ _ _ _ _ (.inl ⟨h7, ?_⟩) (.more _)
          rcases hfit with h | h | h
          · omega
          · exact h.2
          · omega
        rw [if_neg h7] at hS
        have hsp : sPayload (hdOf b) ((b.drop 9).take (hdOf b).ln.toNat) = p := by
          rcases hfit with h | h | h
          · omega
          · omega
          · exact h.2.2
        rw [hsp] at hS h7 h4
        by_cases h5 : p.f = 4
        · rw [if_pos h5] at hS; cases hS
          rw [one_stop (by omega) hlM ho (by omega) hp (stops_of (by omega) (by omega))]
          exact Mat.stop1 h7
        rw [if_neg h5] at hS
        split at hS
        · cases hS
          rename_i hq
          rw [one_go (by omega) hlM ho (by omega) hp (going_of (.inl hq.1))]
          exact .cons _ _ _ _ _ (.same h7) (.more _)
        · cases hS
    | go r o' b' =>
      rw [sRead_go hS]
      have hless := sStep_less hS
      obtain ⟨h1, h2, h3, hA⟩ := sStep_go hS
      obtain ⟨hr, rfl, ho', ho, hf0, hf7, hf4, -⟩ := sAfter_go hA
      have hlM : (hdOf b).ln ≤ M := by rcases hM with h | h <;> omega
      have hfit := fits_payload (hdOf b) ((b.drop 9).take (hdOf b).ln.toNat) ((hb.drop 9).take _) (pay_len hln.1 h3)
      have hsF := sPayload_sF (hdOf b) ((b.drop 9).take (hdOf b).ln.toNat)
      rw [← hr] at hfit hsF hf0 hf7 hf4 ho'
      have hp : parse (hdOf b) ((b.drop 9).take (hdOf b).ln.toNat) = r := by
        rcases hfit with h | h | h
        · omega
        · omega
        · exact h.2.2.symm
      have hf : r.f = 0 ∨ (r.f = 5 ∧ (hdOf b).ty = 8) := by
        rcases hsF with h | h | h | h | h
        · exact .inl h.1
        · omega
        · omega
        · omega
        · exact .inr h
      have hoo : o' = nextO o (hdOf b) := by
        rcases hf with h | h
        · rw [ho', if_pos h]
        · rw [ho', if_neg (by omega), nextO_keep h.2]
      rw [one_go h1 hlM ho h3 hp (going_of (by omega)), ← hoo]
      exact .cons _ _ _ _ _ (.same hf7) (ih _ (by omega) _ rfl ((hb.drop 9).drop _) o')
/-- What holds of one result, and of what follows where reading goes on. -/
theorem readAll_all {m : Int} {Q : Rs → Prop} (hc : ∀ b, Q (cutOff b)) (hl : Q (.bad 3 0 0)) (ho : Q (.bad 4 1 0)) (hp : ∀ h b, Q (parse h b)) (n : Nat) : ∀ (b : List Int), b.length = n → ∀ o, ∀ r ∈ readAll m o b, Q r := by
  induction n using Nat.strongRecOn with
  | _ n ih =>
    intro b hn o r hr
    have h1 : Q (one m o b).1 := by
      unfold one
      split
      · exact hc b
      split
      · exact hl
      split
      · exact ho
      split
      · exact hc _
      · exact hp _ _
    cases hg : (one m o b).1.going with
    | true =>
      rw [readAll_go hg] at hr
      rcases List.mem_cons.1 hr with rfl | hr
      · exact h1
      · exact ih _ (by have := one_less hg; omega) _ rfl _ r hr
    | false =>
      rw [readAll_stop hg] at hr
      rcases List.mem_cons.1 hr with rfl | hr
      · exact h1
      · cases hr
theorem readAll_f {m o : Int} {b : List Int} : ∀ r ∈ readAll m o b, r.f ≠ 7 :=
  readAll_all (Q := fun r => r.f ≠ 7) (fun b => by rcases cutOff_f b with h | h <;> omega) (by decide) (by decide) (fun h b => by rcases parse_f h b with h | h | h | h <;> omega) _ b rfl o
theorem readAll_ne {m o : Int} {b : List Int} : readAll m o b ≠ [] := by
  cases hg : (one m o b).1.going with
  | true => rw [readAll_go hg]; simp
  | false => rw [readAll_stop hg]; simp
theorem read_same {m o : Int} {b : List Int} {q : Bool} : Mat q (readAll m o b) (readAll m o b) := Mat.same readAll_f

/-! ## FnEnds: all but the last go on -/
theorem read_ends {m : Int} (n : Nat) : ∀ (b : List Int), b.length = n → ∀ o i r, (readAll m o b)[i]? = some r → (r.going = true ↔ i + 1 ≠ (readAll m o b).length) := by
  induction n using Nat.strongRecOn with
  | _ n ih =>
    intro b hn o i r hr
    cases hg : (one m o b).1.going with
    | true =>
      have hne := readAll_ne (m := m) (o := (one m o b).2.1) (b := (one m o b).2.2)
      have hl : 0 < (readAll m (one m o b).2.1 (one m o b).2.2).length := List.length_pos_iff.2 hne
      rw [readAll_go hg] at hr ⊢
      rw [List.length_cons]
      cases i with
      | zero => simp at hr; subst hr; rw [hg]; simp; omega
      | succ i =>
        simp at hr
        rw [ih _ (by have := one_less hg; omega) _ rfl _ i r hr]
        omega
    | false =>
      rw [readAll_stop hg] at hr ⊢
      cases i with
      | zero => simp at hr; subst hr; rw [hg]; simp
      | succ i => simp at hr

/-! ## FnBehind -/
/-- A header block goes on behind some results. -/
def openB : Bool → List Rs → Bool
  | q, [] => q
  | q, r :: l => openB (if r.f = 0 ∧ (r.x.ty = 1 ∨ r.x.ty = 9) then !(bitOf r.x.fl 4) else q) l
theorem drop9_app {a b : List Int} (h : 9 ≤ a.length) : (a ++ b).drop 9 = a.drop 9 ++ b := List.drop_append_of_le_length h
theorem pay_app {a b : List Int} (h : 9 ≤ a.length) (h0 : 0 ≤ (hdOf a).ln) (hl : (hdOf a).ln ≤ ((a.drop 9).length : Int)) :
    ((a ++ b).drop 9).take (hdOf (a ++ b)).ln.toNat = (a.drop 9).take (hdOf a).ln.toNat ∧ ((a ++ b).drop 9).drop (hdOf (a ++ b)).ln.toNat = (a.drop 9).drop (hdOf a).ln.toNat ++ b ∧ (hdOf (a ++ b)).ln ≤ (((a ++ b).drop 9).length : Int) := by
  rw [hdOf_app a b h, drop9_app h]
  refine ⟨List.take_append_of_le_length (by omega), List.drop_append_of_le_length (by omega), ?_⟩
  rw [List.length_append]
  omega
theorem last_cons {α : Type} {r : α} {l : List α} {x : α} (h : (r :: l).getLast? = some x) : (l = [] ∧ x = r) ∨ l.getLast? = some x := by
  cases l with
  | nil => simp at h; exact .inl ⟨rfl, h.symm⟩
  | cons y l => rw [List.getLast?_cons_cons] at h; exact .inr h
theorem read_behind {m M : Int} (hM : MaxOk m M) (b : List Int) (n : Nat) : ∀ (a : List Int), a.length = n → Byt a → ∀ o, (sRead m o a).2 = true → ∀ r, (sRead m o a).1.getLast? = some r → r.f = 1 → openB (decide (o ≠ 0)) (sRead m o a).1 = false →
    readAll M o (a ++ b) = (readAll M o a).dropLast ++ readAll M 0 b := by
  induction n using Nat.strongRecOn with
  | _ n ih =>
    intro a hn hb o hw r hr hf hop
    have hln := ln_bd hb
    cases hS : sStep m o a with
    | stop l q =>
      rw [sRead_stop hS] at hw hr hop
      have hw' : q = true := hw
      subst hw'
      have hr' : l.getLast? = some r := hr
      have hop' : openB (decide (o ≠ 0)) l = false := hop
      unfold sStep at hS
      by_cases h1 : a.length < 9
      · rw [if_pos h1] at hS; cases hS
        simp at hr'
        subst hr'
        have ha : a = [] := by rcases cutOff_f a with h | h; exact h.2; omega
        subst ha
        have ho : o = 0 := by simpa [openB, cutOff, Rs.bad] using hop'
        subst ho
        have e0 : readAll M 0 [] = [cutOff []] := one_short (by simp)
        rw [e0]
        rfl
      rw [if_neg h1] at hS
      by_cases h2 : 0 < m ∧ m < (hdOf a).ln
      · rw [if_pos h2] at hS
        split at hS
        · cases hS
        · cases hS; simp at hr'; subst hr'; simp [Rs.bad] at hf
      rw [if_neg h2] at hS
      by_cases h3 : ((a.drop 9).length : Int) < (hdOf a).ln
      · rw [if_pos h3] at hS; cases hS
      rw [if_neg h3] at hS
      unfold sAfter at hS
      split at hS
      · cases hS
      split at hS
      · split at hS
        · cases hS; simp at hr'; subst hr'; simp [Rs.bad] at hf
        · cases hS
      split at hS
      · cases hS
      split at hS
      · rename_i h4; cases hS; simp at hr'; subst hr'; omega
      split at hS
      · cases hS
      · cases hS
    | go r0 o' a' =>
      rw [sRead_go hS] at hw hr hop
      have hless := sStep_less hS
      obtain ⟨h1, h2, h3, hA⟩ := sStep_go hS
      obtain ⟨hr0, rfl, ho', ho, hf0, hf7, hf4, -⟩ := sAfter_go hA
      have hlM : (hdOf a).ln ≤ M := by rcases hM with h | h <;> omega
      have hfit := fits_payload (hdOf a) ((a.drop 9).take (hdOf a).ln.toNat) ((hb.drop 9).take _) (pay_len hln.1 h3)
      have hsF := sPayload_sF (hdOf a) ((a.drop 9).take (hdOf a).ln.toNat)
      rw [← hr0] at hfit hsF hf0 hf7 hf4 ho'
      have hp : parse (hdOf a) ((a.drop 9).take (hdOf a).ln.toNat) = r0 := by
        rcases hfit with h | h | h
        · omega
        · omega
        · exact h.2.2.symm
      have hf' : (r0.f = 0 ∧ r0.x.ty = (hdOf a).ty ∧ r0.x.fl = (hdOf a).fl ∧ ((hdOf a).ty = 1 ∨ (hdOf a).ty = 9 → (hdOf a).st ≠ 0)) ∨ (r0.f = 5 ∧ (hdOf a).ty = 8) := by
        rcases hsF with h | h | h | h | h
        · exact .inl ⟨h.1, h.2.2.2⟩
        · omega
        · omega
        · omega
        · exact .inr h
      have hoo : o' = nextO o (hdOf a) := by
        rcases hf' with h | h
        · rw [ho', if_pos h.1]
        · rw [ho', if_neg (by omega), nextO_keep h.2]
      have hopen : (if r0.f = 0 ∧ (r0.x.ty = 1 ∨ r0.x.ty = 9) then !(bitOf r0.x.fl 4) else decide (o ≠ 0)) = decide (o' ≠ 0) := by
        rw [hoo]
        unfold nextO
        rcases hf' with ⟨e0, e1, e2, e3⟩ | ⟨e0, e1⟩
        · rw [e1, e2]
          by_cases ht : (hdOf a).ty = 1 ∨ (hdOf a).ty = 9
          · rw [if_pos ⟨e0, ht⟩, if_pos ht]
            have := e3 ht
            cases bitOf (hdOf a).fl 4 <;> simp [this]
          · rw [if_neg (fun h => ht h.2), if_neg ht]
        · rw [if_neg (by omega), if_neg (by omega)]
      have hop2 : openB (decide (o' ≠ 0)) (sRead m o' ((a.drop 9).drop (hdOf a).ln.toNat)).1 = false := by
        rw [← hopen]; exact hop
      obtain ⟨e1, e2, e3⟩ := pay_app (b := b) h1 hln.1 h3
      have hgo : r0.going = true := going_of (by omega)
      have hh := hdOf_app a b h1
      rw [one_go h1 hlM ho h3 hp hgo, one_go (b := a ++ b) (by rw [List.length_append]; omega) (by rw [hh]; exact hlM) (by rw [hh]; exact ho) e3 (by rw [e1, hh]; exact hp) hgo, e2, hh, ← hoo]
      rw [List.dropLast_cons_of_ne_nil readAll_ne, List.cons_append]
      congr 1
      have hr2 : (sRead m o' ((a.drop 9).drop (hdOf a).ln.toNat)).1.getLast? = some r := by
        rcases last_cons hr with ⟨-, e⟩ | e
        · subst e; omega
        · exact e
      exact ih _ (by omega) _ rfl ((hb.drop 9).drop _) o' hw r hr2 hf hop2

/-! ## FnUnknown -/
theorem read_unknown {M : Int} (h : Hd) (a p data : List Int) (ha : a.length = 9) (hh : hdOf a = h) (ht : 17 ≤ h.ty) (hl : (p.length : Int) = h.ln) (hM : h.ln ≤ M) : readAll M 0 (a ++ (p ++ data)) = .ok { Fr.of h with data := p } :: readAll M 0 data := by
  have hd := (hdOf_app a (p ++ data) (by omega)).trans hh
  have h9 : (a ++ (p ++ data)).drop 9 = p ++ data := by rw [← ha]; exact List.drop_left
  have hn : h.ln.toNat = p.length := by omega
  have ho : ordBad 0 h = false := by unfold ordBad; simp; omega
  have hnx : nextO 0 h = 0 := by unfold nextO; rw [if_neg (by omega)]
  have hp : parse h p = .ok { Fr.of h with data := p } := by
    unfold parse
    rw [if_neg (by omega), if_neg (by omega), if_neg (by omega), if_neg (by omega), if_neg (by omega), if_neg (by omega), if_neg (by omega), if_neg (by omega), if_neg (by omega), if_neg (by omega), if_neg (by omega)]
    rfl
  have := one_go (m := M) (o := 0) (b := a ++ (p ++ data)) (by simp; omega) (by rw [hd]; exact hM) (by rw [hd]; exact ho) (by rw [hd, h9, List.length_append]; omega) (p := .ok { Fr.of h with data := p })
    (by rw [hd, h9, hn, List.take_left]; exact hp) (going_of (.inl rfl))
  rw [this, hd, h9, hn, List.drop_left, hnx]

/-! ## FnIgnored -/
/-- The fifth byte with the reserved bit turned k times. -/
def turned (x : Int) (k : Nat) : Int := if k % 2 = 1 then (x + 128) % 256 else x
theorem turned_31 {x : Int} (k : Nat) (y : Int) : (turned x k * 16777216 + y) % 2147483648 = (x * 16777216 + y) % 2147483648 := by
  unfold turned
  split <;> omega
/-- Data with the reserved bits of some headers turned; c: how often a header's bit is turned. -/
def resB (c : Nat → Nat) (i : Nat) (b : List Int) : List Int :=
  if h : b.length < 9 then b else (b.set 5 (turned (gb b 5) (c i))).take (9 + (hdOf b).ln.toNat) ++ resB c (i + 1) (b.drop (9 + (hdOf b).ln.toNat))
termination_by b.length
decreasing_by simp only [List.length_drop]; omega
theorem resB_short {c : Nat → Nat} {i : Nat} {b : List Int} (h : b.length < 9) : resB c i b = b := by rw [resB, dif_pos h]
theorem resB_long {c : Nat → Nat} {i : Nat} {b : List Int} (h : ¬ b.length < 9) : resB c i b = (b.set 5 (turned (gb b 5) (c i))).take (9 + (hdOf b).ln.toNat) ++ resB c (i + 1) (b.drop (9 + (hdOf b).ln.toNat)) := by
  rw [resB, dif_neg h]
theorem gb_set (b : List Int) (y : Int) {j : Nat} (h : j ≠ 5) : gb (b.set 5 y) j = gb b j := by
  unfold gb
  rw [List.getD_eq_getElem?_getD, List.getD_eq_getElem?_getD, List.getElem?_set_ne (by omega)]
theorem gb_set5 (b : List Int) (y : Int) (h : 5 < b.length) : gb (b.set 5 y) 5 = y := by
  unfold gb
  rw [List.getD_eq_getElem?_getD, List.getElem?_set_self h]
  rfl
theorem resB_len {c : Nat → Nat} (n : Nat) : ∀ (b : List Int), b.length = n → ∀ i, (resB c i b).length = b.length := by
  induction n using Nat.strongRecOn with
  | _ n ih =>
    intro b hn i
    by_cases h : b.length < 9
    · rw [resB_short h]
    · rw [resB_long h, List.length_append, ih _ (by simp only [List.length_drop]; omega) _ rfl, List.length_take, List.length_set, List.length_drop]
      omega
theorem resB_hd {c : Nat → Nat} {i : Nat} {b : List Int} (h : ¬ b.length < 9) : hdOf (resB c i b) = hdOf b := by
  have hx : ∀ j, j < 9 → gb (resB c i b) j = gb (b.set 5 (turned (gb b 5) (c i))) j := by
    intro j hj
    rw [resB_long h, gb_app _ _ (by rw [List.length_take, List.length_set]; omega), gb_take _ (by omega)]
  unfold hdOf n31 n32
  rw [hx 0 (by omega), hx 1 (by omega), hx 2 (by omega), hx 3 (by omega), hx 4 (by omega), hx 5 (by omega), hx 6 (by omega), hx 7 (by omega), hx 8 (by omega)]
  rw [gb_set _ _ (by omega), gb_set _ _ (by omega), gb_set _ _ (by omega), gb_set _ _ (by omega), gb_set _ _ (by omega), gb_set5 _ _ (by omega), gb_set _ _ (by omega), gb_set _ _ (by omega), gb_set _ _ (by omega)]
  have := turned_31 (x := gb b 5) (c i) (gb b 6 * 65536 + gb b 7 * 256 + gb b 8)
  rw [show turned (gb b 5) (c i) * 16777216 + gb b 6 * 65536 + gb b 7 * 256 + gb b 8 = turned (gb b 5) (c i) * 16777216 + (gb b 6 * 65536 + gb b 7 * 256 + gb b 8) by omega, this]
  rw [show gb b 5 * 16777216 + gb b 6 * 65536 + gb b 7 * 256 + gb b 8 = gb b 5 * 16777216 + (gb b 6 * 65536 + gb b 7 * 256 + gb b 8) by omega]
theorem resB_rest {c : Nat → Nat} {i : Nat} {b : List Int} (h : ¬ b.length < 9) (hl : (hdOf b).ln ≤ ((b.drop 9).length : Int)) :
    ((resB c i b).drop 9).take (hdOf b).ln.toNat = (b.drop 9).take (hdOf b).ln.toNat ∧ ((resB c i b).drop 9).drop (hdOf b).ln.toNat = resB c (i + 1) ((b.drop 9).drop (hdOf b).ln.toNat) := by
  rw [List.length_drop] at hl
  have e1 : ((b.set 5 (turned (gb b 5) (c i))).take (9 + (hdOf b).ln.toNat)).length = 9 + (hdOf b).ln.toNat := by rw [List.length_take, List.length_set]; omega
  have e2 : ((b.set 5 (turned (gb b 5) (c i))).take (9 + (hdOf b).ln.toNat)).drop 9 = (b.drop 9).take (hdOf b).ln.toNat := by
    rw [List.drop_take, List.drop_set_of_lt (by omega)]
    congr 1
    omega
  have e3 : ((b.drop 9).take (hdOf b).ln.toNat).length = (hdOf b).ln.toNat := by rw [List.length_take, List.length_drop]; omega
  rw [resB_long h, List.drop_append_of_le_length (by omega), e2, List.drop_drop]
  exact ⟨by rw [List.take_append_of_le_length (by omega), List.take_of_length_le (by omega)], by rw [List.drop_append_of_le_length (by omega), List.drop_of_length_le (by omega)]; rfl⟩
theorem resB_empty {c : Nat → Nat} {i : Nat} : resB c i [] = [] := resB_short (by simp)
theorem cutOff_len {a b : List Int} (h : a.length = b.length) : cutOff a = cutOff b := by unfold cutOff; rw [h]
theorem read_ignored {M : Int} {c : Nat → Nat} (n : Nat) : ∀ (b : List Int), b.length = n → Byt b → ∀ o i, readAll M o (resB c i b) = readAll M o b := by
  induction n using Nat.strongRecOn with
  | _ n ih =>
    intro b hn hb o i
    by_cases h : b.length < 9
    · rw [resB_short h]
    have hh := resB_hd (c := c) (i := i) h
    have hlen := resB_len (c := c) _ b rfl i
    by_cases hM : M < (hdOf b).ln
    · rw [one_large (by omega) (by rw [hh]; exact hM), one_large (by omega) hM]
    cases ho : ordBad o (hdOf b) with
    | true => rw [one_ord (by omega) (by rw [hh]; omega) (by rw [hh]; exact ho), one_ord (by omega) (by omega) ho]
    | false =>
      have hd : ((resB c i b).drop 9).length = (b.drop 9).length := by simp only [List.length_drop]; omega
      by_cases hl : ((b.drop 9).length : Int) < (hdOf b).ln
      · rw [one_cut (by omega) (by rw [hh]; omega) (by rw [hh]; exact ho) (by rw [hh, hd]; exact hl), one_cut (by omega) (by omega) ho hl, cutOff_len hd]
      · obtain ⟨e1, e2⟩ := resB_rest (c := c) (i := i) h (by omega)
        generalize hp : parse (hdOf b) ((b.drop 9).take (hdOf b).ln.toNat) = p
        cases hg : p.going with
        | false => rw [one_stop (by omega) (by rw [hh]; omega) (by rw [hh]; exact ho) (by rw [hh, hd]; omega) (by rw [hh, e1]; exact hp) hg, one_stop (by omega) (by omega) ho (by omega) hp hg]
        | true =>
          rw [one_go (by omega) (by rw [hh]; omega) (by rw [hh]; exact ho) (by rw [hh, hd]; omega) (by rw [hh, e1]; exact hp) hg, one_go (by omega) (by omega) ho (by omega) hp hg, hh, e2]
          rw [ih _ (by simp only [List.length_drop]; omega) _ rfl ((hb.drop 9).drop _) _ _]
end Go.Proofs.YtfdlbjibninakaaDoor.Pl
