/- The plain model of writing: the bytes of a frame; what is written is read back. No program stands here. -/
import Derived.Test.YtfdlbjibninakaaDoorQMl2
set_option linter.unusedVariables false
set_option linter.unusedSimpArgs false
namespace Go.Proofs.YtfdlbjibninakaaDoor.Pl

def w16 (v : Int) : List Int := [v / 256, v % 256]
def w32 (v : Int) : List Int := [v / 16777216, v / 65536 % 256, v / 256 % 256, v % 256]
/-- The bytes of settings. -/
def wSet : List (Int × Int) → List Int
  | [] => []
  | p :: l => w16 p.1 ++ w32 p.2 ++ wSet l
def wDep (f : Fr) : List Int := w32 (f.dep + if f.ex then 2147483648 else 0) ++ [f.wt]
/-- The payload of a frame. -/
def wPay (f : Fr) (pad : List Int) (pd : Bool) : List Int :=
  if f.ty = 0 ∨ f.ty = 1 ∨ f.ty = 5 then
    (if pd then [(pad.length : Int)] else []) ++ ((if f.ty = 5 then w32 f.pr else []) ++ ((if f.ty = 1 ∧ f.hp = true then wDep f else []) ++ (f.data ++ (if pd then pad else []))))
  else if f.ty = 2 then wDep f
  else if f.ty = 3 then w32 f.co
  else if f.ty = 4 then wSet f.set
  else if f.ty = 7 then w32 f.la ++ (w32 f.co ++ f.data)
  else if f.ty = 8 then w32 f.inc
  else if f.ty = 16 then w32 f.pr ++ f.data
  else f.data
/-- The flags of a frame. -/
def wFl (f : Fr) (pd : Bool) : Int :=
  if f.ty = 0 ∨ f.ty = 1 ∨ f.ty = 5 then f.fl + (if pd then 8 else 0) + (if f.ty = 1 ∧ f.hp = true then 32 else 0) else f.fl
def wHd (ln ty fl st : Int) : List Int := [ln / 65536 % 256, ln / 256 % 256, ln % 256, ty, fl] ++ w32 st
def wBytes (f : Fr) (pad : List Int) (pd : Bool) : List Int := wHd (wPay f pad pd).length f.ty (wFl f pd) f.st ++ wPay f pad pd
def whole (f : Fr) (pad : List Int) (pd : Bool) : Fr := { f with ln := (wPay f pad pd).length, fl := wFl f pd }
/-- A frame with nothing but what its type has. -/
def cleanF (f : Fr) : Fr :=
  if f.ty = 1 then (if f.hp = true then { Fr.zero with ty := f.ty, fl := f.fl, st := f.st, ln := f.ln, data := f.data, hp := true, ex := f.ex, dep := f.dep, wt := f.wt } else { Fr.zero with ty := f.ty, fl := f.fl, st := f.st, ln := f.ln, data := f.data })
  else if f.ty = 2 then { Fr.zero with ty := f.ty, fl := f.fl, st := f.st, ln := f.ln, ex := f.ex, dep := f.dep, wt := f.wt }
  else if f.ty = 3 then { Fr.zero with ty := f.ty, fl := f.fl, st := f.st, ln := f.ln, co := f.co }
  else if f.ty = 4 then { Fr.zero with ty := f.ty, fl := f.fl, st := f.st, ln := f.ln, set := f.set }
  else if f.ty = 5 then { Fr.zero with ty := f.ty, fl := f.fl, st := f.st, ln := f.ln, data := f.data, pr := f.pr }
  else if f.ty = 7 then { Fr.zero with ty := f.ty, fl := f.fl, st := f.st, ln := f.ln, data := f.data, la := f.la, co := f.co }
  else if f.ty = 8 then { Fr.zero with ty := f.ty, fl := f.fl, st := f.st, ln := f.ln, inc := f.inc }
  else if f.ty = 16 then { Fr.zero with ty := f.ty, fl := f.fl, st := f.st, ln := f.ln, data := f.data, pr := f.pr }
  else { Fr.zero with ty := f.ty, fl := f.fl, st := f.st, ln := f.ln, data := f.data }
def flOk (ty fl : Int) : Prop :=
  if ty = 0 then fl = 0 ∨ fl = 1 else if ty = 1 then fl = 0 ∨ fl = 1 ∨ fl = 4 ∨ fl = 5 else if ty = 5 ∨ ty = 9 then fl = 0 ∨ fl = 4 else if ty = 4 ∨ ty = 6 then fl = 0 ∨ fl = 1
  else if ty = 2 ∨ ty = 3 ∨ ty = 7 ∨ ty = 8 ∨ ty = 16 then fl = 0 else 0 ≤ fl ∧ fl < 256
/-- What holds of a frame and its padding that are legal, by type. -/
def tyOk (f : Fr) : Prop :=
  if f.ty = 0 ∨ f.ty = 1 ∨ f.ty = 2 ∨ f.ty = 3 ∨ f.ty = 9 then f.st ≠ 0
  else if f.ty = 5 then f.st ≠ 0 ∧ f.pr ≠ 0
  else if f.ty = 4 then f.st = 0 ∧ (f.fl = 0 ∨ f.set = []) ∧ f.set.length < 1000
  else if f.ty = 6 then f.st = 0 ∧ f.data.length = 8
  else if f.ty = 7 then f.st = 0
  else if f.ty = 8 then 0 < f.inc ∧ f.inc ≤ 2147483647
  else if f.ty = 16 then f.st = 0 ∧ f.pr ≠ 0
  else True
structure Legal (f : Fr) (pad : List Int) (pd : Bool) : Prop where
  ty : 0 ≤ f.ty ∧ f.ty < 256
  fl : flOk f.ty f.fl
  st : 0 ≤ f.st ∧ f.st ≤ 2147483647
  dl : f.data.length ≤ 16084
  db : Byt f.data
  ln : f.ln = 0
  wt : 0 ≤ f.wt ∧ f.wt ≤ 255
  pl : pad.length ≤ 255
  pz : ∀ x ∈ pad, x = 0
  pt : pd = true → f.ty = 0 ∨ f.ty = 1 ∨ f.ty = 5
  pn : pd = false → pad = []
  dep : 0 ≤ f.dep ∧ f.dep ≤ 2147483647
  pr : 0 ≤ f.pr ∧ f.pr ≤ 2147483647
  la : 0 ≤ f.la ∧ f.la ≤ 2147483647
  co : 0 ≤ f.co ∧ f.co < 4294967296
  ic : 0 ≤ f.inc ∧ f.inc < 4294967296
  set : ∀ p ∈ f.set, 0 ≤ p.1 ∧ p.1 < 65536 ∧ 0 ≤ p.2 ∧ p.2 < 4294967296 ∧ (p.1 = 4 → p.2 ≤ 2147483647)
  cl : f = cleanF f
  tk : tyOk f
  hz : f.hp = true → ¬ (f.dep = 0 ∧ f.ex = false ∧ f.wt = 0)
  hd : (f.ty = 2 ∨ f.hp = true) → f.dep ≠ f.st
theorem n32_w {v : Int} (_h0 : 0 ≤ v) (_h1 : v < 4294967296) (b : List Int) : n32 (w32 v ++ b) 0 = v := by
  simp only [n32, w32, gb, List.cons_append, List.nil_append, List.getD_cons_zero, List.getD_cons_succ]
  omega
theorem n16_w {v : Int} (b : List Int) : n16 (w16 v ++ b) 0 = v := by
  simp only [n16, w16, gb, List.cons_append, List.nil_append, List.getD_cons_zero, List.getD_cons_succ]
  omega
theorem n31_w {v : Int} (h0 : 0 ≤ v) (h1 : v < 2147483648) (b : List Int) : n31 (w32 v ++ b) 0 = v := by
  unfold n31
  rw [n32_w h0 (by omega)]
  omega
theorem n32_w0 {v : Int} (h0 : 0 ≤ v) (h1 : v < 4294967296) : n32 (w32 v) 0 = v := by have := n32_w h0 h1 []; simpa using this
theorem n31_w0 {v : Int} (h0 : 0 ≤ v) (h1 : v < 2147483648) : n31 (w32 v) 0 = v := by have := n31_w h0 h1 []; simpa using this
theorem hdOf_w (ln ty fl st : Int) (_h0 : 0 ≤ ln) (_h1 : ln < 16777216) (h2 : 0 ≤ st) (h3 : st < 2147483648) (b : List Int) : hdOf (wHd ln ty fl st ++ b) = ⟨ty, fl, ln, st⟩ := by
  have e : n31 (wHd ln ty fl st ++ b) 5 = st := by
    simp only [n31, n32, wHd, w32, gb, List.cons_append, List.nil_append, List.getD_cons_zero, List.getD_cons_succ]
    omega
  have e2 : gb (wHd ln ty fl st ++ b) 0 * 65536 + gb (wHd ln ty fl st ++ b) 1 * 256 + gb (wHd ln ty fl st ++ b) 2 = ln := by
    simp only [wHd, w32, gb, List.cons_append, List.nil_append, List.getD_cons_zero, List.getD_cons_succ]
    omega
  unfold hdOf
  rw [e, e2]
  rfl
theorem wSet_len (l : List (Int × Int)) : (wSet l).length = l.length * 6 := by
  induction l with
  | nil => rfl
  | cons p l ih => simp only [wSet, List.length_append, ih, w16, w32, List.length_cons, List.length_nil]; omega
theorem pairs_wSet (l : List (Int × Int)) (h : ∀ p ∈ l, 0 ≤ p.1 ∧ p.1 < 65536 ∧ 0 ≤ p.2 ∧ p.2 < 4294967296) : pairs l.length (wSet l) = l := by
  induction l with
  | nil => rfl
  | cons p l ih =>
    have hp := h p (List.mem_cons_self ..)
    have e1 : n16 (w16 p.1 ++ w32 p.2 ++ wSet l) 0 = p.1 := by rw [List.append_assoc]; exact n16_w _
    have e2 : n32 (w16 p.1 ++ w32 p.2 ++ wSet l) 2 = p.2 := by
      have := n32_w hp.2.2.1 hp.2.2.2 (wSet l)
      simpa [n32, w16, gb] using this
    have e3 : (w16 p.1 ++ w32 p.2 ++ wSet l).drop 6 = wSet l := rfl
    show (n16 (w16 p.1 ++ w32 p.2 ++ wSet l) 0, n32 (w16 p.1 ++ w32 p.2 ++ wSet l) 2) :: pairs l.length ((w16 p.1 ++ w32 p.2 ++ wSet l).drop 6) = p :: l
    rw [e1, e2, e3, ih fun q hq => h q (List.mem_cons_of_mem _ hq)]
theorem firstOf_le (l : List (Int × Int)) (h : ∀ p ∈ l, p.1 = 4 → p.2 ≤ 2147483647) : ¬ 2147483647 < firstOf 4 l := by
  unfold firstOf
  cases hf : l.find? (fun p => p.1 == 4) with
  | none => simp
  | some p =>
    have h1 := List.mem_of_find?_eq_some hf
    have h2 := List.find?_some hf
    have := h p h1 (by simpa using h2)
    simp
    omega

/-! ## A legal frame is read back -/
section
variable {f : Fr} {pad : List Int} {pd : Bool}
theorem take_pad (d pad : List Int) : (d ++ pad).take ((d ++ pad).length - ((pad.length : Nat) : Int).toNat) = d := by
  rw [List.length_append, Int.toNat_natCast, Nat.add_sub_cancel, List.take_left]
theorem whole_clean (h : Legal f pad pd) : whole f pad pd = { cleanF f with ln := (wPay f pad pd).length, fl := wFl f pd } := by
  unfold whole
  rw [← h.cl]
theorem parse_w0 (h : Legal f pad pd) (h0 : f.ty = 0) : parseData ⟨f.ty, wFl f pd, (wPay f pad pd).length, f.st⟩ (wPay f pad pd) = .ok (whole f pad pd) := by
  have hst := h.tk
  simp [tyOk, h0] at hst
  have hfl := h.fl
  simp [flOk, h0] at hfl
  rw [whole_clean h]
  unfold parseData
  simp only [hst, if_false]
  cases pd with
  | false =>
    have hp := h.pn rfl
    subst hp
    have e1 : wFl f false = f.fl := by simp [wFl, h0]
    have e2 : wPay f [] false = f.data := by simp [wPay, h0]
    have e3 : bitOf f.fl 8 = false := by rcases hfl with e | e <;> rw [e] <;> rfl
    rw [e1, e2, e3]
    simp [cleanF, h0, Fr.of]
  | true =>
    have e1 : wFl f true = f.fl + 8 := by simp [wFl, h0]
    have e2 : wPay f pad true = (pad.length : Int) :: (f.data ++ pad) := by simp [wPay, h0]
    have e3 : bitOf (f.fl + 8) 8 = true := by rcases hfl with e | e <;> rw [e] <;> rfl
    rw [e1, e2, e3]
    simp only [if_true]
    rw [if_neg (by simp; omega), take_pad]
    simp [cleanF, h0, Fr.of]
theorem parse_w9 (h : Legal f pad pd) (h0 : f.ty = 9) : parseCont ⟨f.ty, wFl f pd, (wPay f pad pd).length, f.st⟩ (wPay f pad pd) = .ok (whole f pad pd) := by
  have hst := h.tk
  simp [tyOk, h0] at hst
  rw [whole_clean h]
  unfold parseCont
  simp only [hst, if_false]
  simp [cleanF, wPay, wFl, h0, Fr.of]
theorem parse_w2 (h : Legal f pad pd) (h0 : f.ty = 2) : parsePriority ⟨f.ty, wFl f pd, (wPay f pad pd).length, f.st⟩ (wPay f pad pd) = .ok (whole f pad pd) := by
  have hst := h.tk
  simp [tyOk, h0] at hst
  have hd := h.dep
  have hw := h.wt
  rw [whole_clean h]
  have e2 : wPay f pad pd = wDep f := by simp [wPay, h0]
  have e3 : n32 (wDep f) 0 = f.dep + if f.ex then 2147483648 else 0 := by unfold wDep; exact n32_w (by split <;> omega) (by split <;> omega) _
  have e4 : n31 (wDep f) 0 = f.dep := by unfold n31; rw [e3]; split <;> omega
  have e5 : gb (wDep f) 4 = f.wt := rfl
  have e6 : decide (2147483648 ≤ f.dep + if f.ex then 2147483648 else 0) = f.ex := by cases f.ex <;> simp <;> omega
  unfold parsePriority
  rw [e2, e3, e4, e5, e6]
  simp only [hst, if_false]
  rw [if_neg (by simp [wDep, w32])]
  simp [cleanF, wFl, h0, Fr.of]
theorem parse_w3 (h : Legal f pad pd) (h0 : f.ty = 3) : parseRst ⟨f.ty, wFl f pd, (wPay f pad pd).length, f.st⟩ (wPay f pad pd) = .ok (whole f pad pd) := by
  have hst := h.tk
  simp [tyOk, h0] at hst
  rw [whole_clean h]
  have e2 : wPay f pad pd = w32 f.co := by simp [wPay, h0]
  unfold parseRst
  rw [e2, n32_w0 h.co.1 h.co.2]
  simp only [hst, if_false]
  rw [if_neg (by simp [w32])]
  simp [cleanF, wFl, h0, Fr.of]
theorem parse_w4 (h : Legal f pad pd) (h0 : f.ty = 4) : parseSettings ⟨f.ty, wFl f pd, (wPay f pad pd).length, f.st⟩ (wPay f pad pd) = .ok (whole f pad pd) := by
  have ht := h.tk
  simp [tyOk, h0] at ht
  rw [whole_clean h]
  have e2 : wPay f pad pd = wSet f.set := by simp [wPay, h0]
  have e1 : wFl f pd = f.fl := by simp [wFl, h0]
  have el := wSet_len f.set
  unfold parseSettings
  rw [e2, e1]
  rw [if_neg (by
    rintro ⟨hb, hl⟩
    rcases ht.2.1 with e | e
    · rw [e] at hb; cases hb
    · rw [e] at hl; cases hl)]
  rw [if_neg (by simp [ht.1]), if_neg (by omega)]
  have e3 : (wSet f.set).length / 6 = f.set.length := by omega
  rw [e3, pairs_wSet _ fun p hp => ⟨(h.set p hp).1, (h.set p hp).2.1, (h.set p hp).2.2.1, (h.set p hp).2.2.2.1⟩, if_neg (firstOf_le _ fun p hp => (h.set p hp).2.2.2.2)]
  simp [cleanF, h0, Fr.of]
theorem parse_w6 (h : Legal f pad pd) (h0 : f.ty = 6) : parsePing ⟨f.ty, wFl f pd, (wPay f pad pd).length, f.st⟩ (wPay f pad pd) = .ok (whole f pad pd) := by
  have ht := h.tk
  simp [tyOk, h0] at ht
  rw [whole_clean h]
  have e2 : wPay f pad pd = f.data := by simp [wPay, h0]
  unfold parsePing
  rw [e2, if_neg (by simp [ht.2]), if_neg (by simp [ht.1])]
  simp [cleanF, wFl, h0, Fr.of]
theorem parse_w7 (h : Legal f pad pd) (h0 : f.ty = 7) : parseGoAway ⟨f.ty, wFl f pd, (wPay f pad pd).length, f.st⟩ (wPay f pad pd) = .ok (whole f pad pd) := by
  have ht := h.tk
  simp [tyOk, h0] at ht
  rw [whole_clean h]
  have e2 : wPay f pad pd = w32 f.la ++ (w32 f.co ++ f.data) := by simp [wPay, h0]
  have e3 : n32 (w32 f.la ++ (w32 f.co ++ f.data)) 4 = f.co := n32_w h.co.1 h.co.2 f.data
  unfold parseGoAway
  rw [e2, e3, n31_w h.la.1 (by have := h.la.2; omega), if_neg (by simp [ht]), if_neg (by simp [w32])]
  simp [cleanF, wFl, h0, Fr.of, w32]
theorem parse_w8 (h : Legal f pad pd) (h0 : f.ty = 8) : parseWindow ⟨f.ty, wFl f pd, (wPay f pad pd).length, f.st⟩ (wPay f pad pd) = .ok (whole f pad pd) := by
  have ht := h.tk
  simp [tyOk, h0] at ht
  rw [whole_clean h]
  have e2 : wPay f pad pd = w32 f.inc := by simp [wPay, h0]
  unfold parseWindow
  rw [e2, n31_w0 h.ic.1 (by omega), if_neg (by simp [w32]), if_neg (by omega)]
  simp [cleanF, wFl, h0, Fr.of]
theorem parse_w16 (h : Legal f pad pd) (h0 : f.ty = 16) : parseUpdate ⟨f.ty, wFl f pd, (wPay f pad pd).length, f.st⟩ (wPay f pad pd) = .ok (whole f pad pd) := by
  have ht := h.tk
  simp [tyOk, h0] at ht
  rw [whole_clean h]
  have e2 : wPay f pad pd = w32 f.pr ++ f.data := by simp [wPay, h0]
  unfold parseUpdate
  rw [e2, n31_w h.pr.1 (by have := h.pr.2; omega), if_neg (by simp [ht.1]), if_neg (by simp [w32]), if_neg ht.2]
  simp [cleanF, wFl, h0, Fr.of, w32]
theorem parse_w5 (h : Legal f pad pd) (h0 : f.ty = 5) : parsePush ⟨f.ty, wFl f pd, (wPay f pad pd).length, f.st⟩ (wPay f pad pd) = .ok (whole f pad pd) := by
  have ht := h.tk
  simp [tyOk, h0] at ht
  have hfl := h.fl
  simp [flOk, h0] at hfl
  rw [whole_clean h]
  unfold parsePush
  simp only [ht.1, if_false]
  have hp1 := h.pr
  cases pd with
  | false =>
    have hp := h.pn rfl
    subst hp
    have e1 : wFl f false = f.fl := by simp [wFl, h0]
    have e2 : wPay f [] false = w32 f.pr ++ f.data := by simp [wPay, h0]
    have e3 : bitOf f.fl 8 = false := by rcases hfl with e | e <;> rw [e] <;> rfl
    rw [e1, e2, e3]
    simp only [Bool.false_eq_true, if_false]
    unfold pushEnd
    rw [if_neg (by simp [w32]), if_neg (by simp [w32]; omega), n31_w hp1.1 (by omega)]
    have e4 : (w32 f.pr ++ f.data).drop 4 = f.data := rfl
    rw [e4, List.take_of_length_le (by simp [w32])]
    simp [cleanF, h0, Fr.of]
  | true =>
    have e1 : wFl f true = f.fl + 8 := by simp [wFl, h0]
    have e2 : wPay f pad true = (pad.length : Int) :: (w32 f.pr ++ (f.data ++ pad)) := by simp [wPay, h0]
    have e3 : bitOf (f.fl + 8) 8 = true := by rcases hfl with e | e <;> rw [e] <;> rfl
    rw [e1, e2, e3]
    simp only [if_true]
    unfold pushEnd
    rw [if_neg (by simp [w32]), if_neg (by simp [w32]; omega), n31_w hp1.1 (by omega)]
    have e4 : (w32 f.pr ++ (f.data ++ pad)).drop 4 = f.data ++ pad := rfl
    have e5 : (w32 f.pr ++ (f.data ++ pad)).length - 4 - ((pad.length : Nat) : Int).toNat = (f.data ++ pad).length - ((pad.length : Nat) : Int).toNat := by simp [w32]
    rw [e4, e5, take_pad]
    simp [cleanF, h0, Fr.of]
theorem parse_w1 (h : Legal f pad pd) (h0 : f.ty = 1) : parseHeaders ⟨f.ty, wFl f pd, (wPay f pad pd).length, f.st⟩ (wPay f pad pd) = .ok (whole f pad pd) := by
  have ht := h.tk
  simp [tyOk, h0] at ht
  have hfl := h.fl
  simp [flOk, h0] at hfl
  have hd := h.dep
  rw [whole_clean h]
  have n3 : ∀ b, n32 (wDep f ++ b) 0 = f.dep + if f.ex then 2147483648 else 0 := fun b => by unfold wDep; rw [List.append_assoc]; exact n32_w (by split <;> omega) (by split <;> omega) _
  have n4 : ∀ b, n31 (wDep f ++ b) 0 = f.dep := fun b => by unfold n31; rw [n3]; split <;> omega
  have n5 : ∀ b, gb (wDep f ++ b) 4 = f.wt := fun b => rfl
  have n6 : decide (2147483648 ≤ f.dep + if f.ex then 2147483648 else 0) = f.ex := by cases f.ex <;> simp <;> omega
  have n7 : ∀ b, (wDep f ++ b).drop 5 = b := fun b => rfl
  unfold parseHeaders
  simp only [ht, if_false]
  cases pd with
  | false =>
    have hp := h.pn rfl
    subst hp
    cases hh : f.hp with
    | false =>
      have e1 : wFl f false = f.fl := by simp [wFl, h0, hh]
      have e2 : wPay f [] false = f.data := by simp [wPay, h0, hh]
      have e3 : bitOf f.fl 8 = false := by rcases hfl with e | e | e | e <;> rw [e] <;> rfl
      have e4 : bitOf f.fl 32 = false := by rcases hfl with e | e | e | e <;> rw [e] <;> rfl
      rw [e1, e2, e3]
      simp only [Bool.false_eq_true, if_false]
      unfold headPrio
      simp only [e4, Bool.false_eq_true, if_false]
      unfold headEnd
      rw [if_neg (by simp), List.take_of_length_le (by simp)]
      simp [cleanF, h0, Fr.of, hh]
    | true =>
      have e1 : wFl f false = f.fl + 32 := by simp [wFl, h0, hh]
      have e2 : wPay f [] false = wDep f ++ f.data := by simp [wPay, h0, hh]
      have e3 : bitOf (f.fl + 32) 8 = false := by rcases hfl with e | e | e | e <;> rw [e] <;> rfl
      have e4 : bitOf (f.fl + 32) 32 = true := by rcases hfl with e | e | e | e <;> rw [e] <;> rfl
      rw [e1, e2, e3]
      simp only [Bool.false_eq_true, if_false]
      unfold headPrio
      simp only [e4, if_true]
      rw [if_neg (by simp [wDep, w32]), n3, n4, n5, n6, n7]
      unfold headEnd
      rw [if_neg (by simp), List.take_of_length_le (by simp)]
      simp [cleanF, h0, Fr.of, hh]
  | true =>
    cases hh : f.hp with
    | false =>
      have e1 : wFl f true = f.fl + 8 := by simp [wFl, h0, hh]
      have e2 : wPay f pad true = (pad.length : Int) :: (f.data ++ pad) := by simp [wPay, h0, hh]
      have e3 : bitOf (f.fl + 8) 8 = true := by rcases hfl with e | e | e | e <;> rw [e] <;> rfl
      have e4 : bitOf (f.fl + 8) 32 = false := by rcases hfl with e | e | e | e <;> rw [e] <;> rfl
      rw [e1, e2, e3]
      simp only [if_true]
      unfold headPrio
      simp only [e4, Bool.false_eq_true, if_false]
      unfold headEnd
      rw [if_neg (by simp; omega), take_pad]
      simp [cleanF, h0, Fr.of, hh]
    | true =>
      have e1 : wFl f true = f.fl + 8 + 32 := by simp [wFl, h0, hh]
      have e2 : wPay f pad true = (pad.length : Int) :: (wDep f ++ (f.data ++ pad)) := by simp [wPay, h0, hh]
      have e3 : bitOf (f.fl + 8 + 32) 8 = true := by rcases hfl with e | e | e | e <;> rw [e] <;> rfl
      have e4 : bitOf (f.fl + 8 + 32) 32 = true := by rcases hfl with e | e | e | e <;> rw [e] <;> rfl
      rw [e1, e2, e3]
      simp only [if_true]
      unfold headPrio
      simp only [e4, if_true]
      rw [if_neg (by simp [wDep, w32]), n3, n4, n5, n6, n7]
      unfold headEnd
      rw [if_neg (by simp; omega), take_pad]
      simp [cleanF, h0, Fr.of, hh]
theorem parse_w (h : Legal f pad pd) : parse ⟨f.ty, wFl f pd, (wPay f pad pd).length, f.st⟩ (wPay f pad pd) = .ok (whole f pad pd) := by
  unfold parse
  simp only []
  by_cases h0 : f.ty = 0
  · rw [if_pos h0]; exact parse_w0 h h0
  rw [if_neg h0]
  by_cases h1 : f.ty = 1
  · rw [if_pos h1]; exact parse_w1 h h1
  rw [if_neg h1]
  by_cases h2 : f.ty = 2
  · rw [if_pos h2]; exact parse_w2 h h2
  rw [if_neg h2]
  by_cases h3 : f.ty = 3
  · rw [if_pos h3]; exact parse_w3 h h3
  rw [if_neg h3]
  by_cases h4 : f.ty = 4
  · rw [if_pos h4]; exact parse_w4 h h4
  rw [if_neg h4]
  by_cases h5 : f.ty = 5
  · rw [if_pos h5]; exact parse_w5 h h5
  rw [if_neg h5]
  by_cases h6 : f.ty = 6
  · rw [if_pos h6]; exact parse_w6 h h6
  rw [if_neg h6]
  by_cases h7 : f.ty = 7
  · rw [if_pos h7]; exact parse_w7 h h7
  rw [if_neg h7]
  by_cases h8 : f.ty = 8
  · rw [if_pos h8]; exact parse_w8 h h8
  rw [if_neg h8]
  by_cases h9 : f.ty = 9
  · rw [if_pos h9]; exact parse_w9 h h9
  rw [if_neg h9]
  by_cases h16 : f.ty = 16
  · rw [if_pos h16]; exact parse_w16 h h16
  rw [if_neg h16]
  unfold parseUnknown
  rw [whole_clean h]
  simp [cleanF, wFl, wPay, h0, h1, h2, h3, h4, h5, h7, h8, h16, Fr.of]
theorem wDep_len (f : Fr) : (wDep f).length = 5 := rfl
theorem wPay_len (h : Legal f pad pd) : (wPay f pad pd).length ≤ 16384 := by
  have h1 := h.dl
  have h2 := h.pl
  have h3 := h.tk
  unfold wPay
  split
  · rename_i ht
    simp only [List.length_append]
    have a1 : (if pd = true then [(pad.length : Int)] else []).length ≤ 1 := by split <;> simp
    have a2 : (if f.ty = 5 then w32 f.pr else []).length ≤ 4 := by split <;> simp [w32]
    have a3 : (if f.ty = 1 ∧ f.hp = true then wDep f else []).length ≤ 5 := by split <;> simp [wDep_len]
    have a4 : (if pd = true then pad else []).length ≤ 255 := by split <;> simp [h2]
    omega
  split
  · rw [wDep_len]; omega
  split
  · simp [w32]
  split
  · rename_i h0 _ _ h4
    have := h.tk
    simp [tyOk, h4] at this
    rw [wSet_len]
    omega
  split
  · simp [w32]; omega
  split
  · simp [w32]
  split
  · simp [w32]; omega
  · omega
end
/-- The bytes of frames, one behind the other. -/
def wAll : List (Fr × List Int × Bool) → List Int
  | [] => []
  | z :: l => wBytes z.1 z.2.1 z.2.2 ++ wAll l
theorem read_written {M : Int} (hM : 16384 ≤ M) : ∀ (l : List (Fr × List Int × Bool)) (o : Int), (∀ z ∈ l, Legal z.1 z.2.1 z.2.2) → (readAll M o (wAll l)).length = l.length + 1 →
    ∀ (i : Nat) (z : Fr × List Int × Bool), l[i]? = some z → (readAll M o (wAll l))[i]? = some (Rs.ok (whole z.1 z.2.1 z.2.2))
  | [], _, _, _ => fun i z h => by simp at h
  | z :: l, o, hl, hn => fun i y hi => by
    have hz := hl z (List.mem_cons_self ..)
    have hlen := wPay_len hz
    have hst := hz.st
    have e0 : wAll (z :: l) = wHd (wPay z.1 z.2.1 z.2.2).length z.1.ty (wFl z.1 z.2.2) z.1.st ++ (wPay z.1 z.2.1 z.2.2 ++ wAll l) := by
      show wBytes z.1 z.2.1 z.2.2 ++ wAll l = _
      unfold wBytes
      rw [List.append_assoc]
    have e1 : hdOf (wAll (z :: l)) = ⟨z.1.ty, wFl z.1 z.2.2, (wPay z.1 z.2.1 z.2.2).length, z.1.st⟩ := by
      rw [e0]; exact hdOf_w _ _ _ _ (by omega) (by omega) hst.1 (by omega) _
    have e2 : (wAll (z :: l)).drop 9 = wPay z.1 z.2.1 z.2.2 ++ wAll l := by rw [e0]; rfl
    have e9 : 9 ≤ (wAll (z :: l)).length := by rw [e0]; simp [wHd, w32]
    have eln : (hdOf (wAll (z :: l))).ln = ((wPay z.1 z.2.1 z.2.2).length : Int) := by rw [e1]
    cases ho : ordBad o (hdOf (wAll (z :: l))) with
    | true =>
      rw [one_ord e9 (by omega) ho] at hn
      simp at hn
    | false =>
      have hp : parse (hdOf (wAll (z :: l))) (((wAll (z :: l)).drop 9).take (hdOf (wAll (z :: l))).ln.toNat) = .ok (whole z.1 z.2.1 z.2.2) := by
        rw [e2, eln, Int.toNat_natCast, List.take_left, e1]
        exact parse_w hz
      have hgo := one_go e9 (m := M) (o := o) (by omega) ho (by rw [e2, eln, List.length_append]; omega) hp (going_of (.inl rfl))
      have hr : ((wAll (z :: l)).drop 9).drop (hdOf (wAll (z :: l))).ln.toNat = wAll l := by rw [e2, eln, Int.toNat_natCast, List.drop_left]
      rw [hr] at hgo
      rw [hgo] at hn ⊢
      cases i with
      | zero => simp at hi; subst hi; rfl
      | succ i =>
        simp at hi hn ⊢
        exact read_written hM l _ (fun y hy => hl y (List.mem_cons_of_mem _ hy)) hn i y hi
end Go.Proofs.YtfdlbjibninakaaDoor.Pl
