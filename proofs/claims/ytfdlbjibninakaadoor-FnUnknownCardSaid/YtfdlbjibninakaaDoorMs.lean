/- The plain model of the reference (package spec): what it reads out of a list of bytes; when two lists of results match. No program stands here. -/
import Derived.Test.YtfdlbjibninakaaDoorMd
set_option linter.unusedVariables false
set_option linter.unusedSimpArgs false
namespace Go.Proofs.YtfdlbjibninakaaDoor.Pl

/-- The list holds bytes. -/
def Byt (b : List Int) : Prop := ∀ x ∈ b, 0 ≤ x ∧ x < 256
def eitherR (stream size : Bool) : Rs := if stream && size then .bad 7 0 0 else if stream then .bad 4 1 0 else .bad 4 6 0
def sAck (h : Hd) (b : List Int) : Bool := bitOf h.fl 1 && decide (0 < b.length)
def sMod (b : List Int) : Bool := decide (b.length % 6 ≠ 0)
def big4 (p : Int × Int) : Bool := p.1 == 4 && decide (2147483647 < p.2)
def wins (l : List (Int × Int)) : Nat := (l.filter (fun p => p.1 == 4)).length
def sSettings (h : Hd) (b : List Int) : Rs :=
  if decide (h.st ≠ 0) || sAck h b || sMod b then eitherR (decide (h.st ≠ 0)) (sAck h b || sMod b)
  else if (pairs (b.length / 6) b).any big4 then (if 1 < wins (pairs (b.length / 6) b) then .bad (-1) 0 0 else .bad 4 3 0)
  else .ok { Fr.of h with set := pairs (b.length / 6) b }
/-- A payload without its padding. -/
def sUnpad (h : Hd) (b : List Int) : Option (List Int) :=
  if bitOf h.fl 8 then
    match b with
    | [] => none
    | p :: b => if (b.length : Int) < p then none else some (b.take (b.length - p.toNat))
  else some b
def sFrag (h : Hd) (b : List Int) : Rs :=
  match sUnpad h b with
  | none => .bad 7 0 0
  | some d =>
    if h.ty = 5 then (if d.length < 4 then .bad 7 0 0 else .ok { Fr.of h with pr := n31 d 0, data := d.drop 4 })
    else if bitOf h.fl 32 then (if d.length < 5 then .bad 7 0 0 else .ok { Fr.of h with hp := true, ex := decide (2147483648 ≤ n32 d 0), dep := n31 d 0, wt := gb d 4, data := d.drop 5 })
    else .ok { Fr.of h with data := d }
def sData (h : Hd) (b : List Int) : Rs :=
  match sUnpad h b with
  | none => if b.length = 0 then .bad 7 0 0 else .bad 4 1 0
  | some d => .ok { Fr.of h with data := d }
def sWindow (h : Hd) (b : List Int) : Rs := if n31 b 0 = 0 then (if h.st = 0 then .bad 4 1 0 else .bad 5 1 h.st) else .ok { Fr.of h with inc := n31 b 0 }
def sPrio (h : Hd) (b : List Int) : Rs :=
  if b.length ≠ 5 then .bad 7 0 0 else if h.st = 0 then .bad 4 1 0
  else .ok { Fr.of h with ex := decide (2147483648 ≤ n32 b 0), dep := n31 b 0, wt := gb b 4 }
def sRst (h : Hd) (b : List Int) : Rs :=
  if decide (h.st = 0) || decide (b.length ≠ 4) then eitherR (decide (h.st = 0)) (decide (b.length ≠ 4)) else .ok { Fr.of h with co := n32 b 0 }
def sPing (h : Hd) (b : List Int) : Rs :=
  if decide (h.st ≠ 0) || decide (b.length ≠ 8) then eitherR (decide (h.st ≠ 0)) (decide (b.length ≠ 8)) else .ok { Fr.of h with data := b }
def sWin (h : Hd) (b : List Int) : Rs := if b.length ≠ 4 then .bad 4 6 0 else sWindow h b
def sDat (h : Hd) (b : List Int) : Rs := if h.st = 0 then .bad 4 1 0 else sData h b
def sHead (h : Hd) (b : List Int) : Rs := if h.st = 0 then .bad 4 1 0 else sFrag h b
def sCont (h : Hd) (b : List Int) : Rs := if h.st = 0 then .bad 4 1 0 else .ok { Fr.of h with data := b }
def sGo (h : Hd) (b : List Int) : Rs :=
  if decide (h.st ≠ 0) || decide (b.length < 8) then eitherR (decide (h.st ≠ 0)) (decide (b.length < 8)) else .ok { Fr.of h with la := n31 b 0, co := n32 b 4, data := b.drop 8 }
def sUpd (h : Hd) (b : List Int) : Rs :=
  if decide (h.st ≠ 0) || decide (b.length < 4) then eitherR (decide (h.st ≠ 0)) (decide (b.length < 4)) else if n31 b 0 = 0 then .bad 4 1 0 else .ok { Fr.of h with pr := n31 b 0, data := b.drop 4 }
def sUnk (h : Hd) (b : List Int) : Rs := .ok { Fr.of h with data := b }
/-- The payload of a frame by the reference. -/
def sPayload (h : Hd) (b : List Int) : Rs :=
  if h.ty = 4 then sSettings h b
  else if h.ty = 2 then sPrio h b
  else if h.ty = 3 then sRst h b
  else if h.ty = 6 then sPing h b
  else if h.ty = 8 then sWin h b
  else if h.ty = 0 then sDat h b
  else if h.ty = 1 ∨ h.ty = 5 then sHead h b
  else if h.ty = 9 then sCont h b
  else if h.ty = 7 then sGo h b
  else if h.ty = 16 then sUpd h b
  else sUnk h b

/-- One round of the reference's reading: it ends, with what it appends and whether it is whole, or it goes on. -/
inductive SSt where
  | stop (l : List Rs) (whole : Bool)
  | go (r : Rs) (o : Int) (b : List Int)
/-- Behind a payload. -/
def sAfter (o : Int) (h : Hd) (r : Rs) (rest : List Int) : SSt :=
  if r.f < 0 then .stop [] false
  else if ordBad o h then (if r.f = 0 then .stop [.bad 4 1 0] true else .stop [.bad 7 0 0] false)
  else if r.f = 7 then .stop [r] false
  else if r.f = 4 then .stop [r] true
  else if r.f = 0 ∧ h.ty = 5 ∧ bitOf h.fl 4 = false then .stop [r] false
  else .go r (if r.f = 0 then nextO o h else o) rest
def sStep (m o : Int) (b : List Int) : SSt :=
  if b.length < 9 then .stop [cutOff b] true
  else if 0 < m ∧ m < (hdOf b).ln then (if ordBad o (hdOf b) then .stop [.bad 7 0 0] false else .stop [.bad 3 0 0] true)
  else if ((b.drop 9).length : Int) < (hdOf b).ln then .stop [.bad 7 0 0] false
  else sAfter o (hdOf b) (sPayload (hdOf b) ((b.drop 9).take (hdOf b).ln.toNat)) ((b.drop 9).drop (hdOf b).ln.toNat)
theorem sAfter_go {o o' : Int} {h : Hd} {r r' : Rs} {rest b' : List Int} (e : sAfter o h r rest = .go r' o' b') : r' = r ∧ b' = rest ∧ o' = (if r.f = 0 then nextO o h else o) ∧ ordBad o h = false ∧ 0 ≤ r.f ∧ r.f ≠ 7 ∧ r.f ≠ 4 ∧ ¬ (r.f = 0 ∧ h.ty = 5 ∧ bitOf h.fl 4 = false) := by
  unfold sAfter at e
  by_cases h1 : r.f < 0
  · rw [if_pos h1] at e; cases e
  rw [if_neg h1] at e
  by_cases h2 : ordBad o h = true
  · rw [if_pos h2] at e; split at e <;> cases e
  rw [if_neg h2] at e
  by_cases h3 : r.f = 7
  · rw [if_pos h3] at e; cases e
  rw [if_neg h3] at e
  by_cases h4 : r.f = 4
  · rw [if_pos h4] at e; cases e
  rw [if_neg h4] at e
  by_cases h5 : r.f = 0 ∧ h.ty = 5 ∧ bitOf h.fl 4 = false
  · rw [if_pos h5] at e; cases e
  rw [if_neg h5] at e
  injection e with e1 e2 e3
  exact ⟨e1.symm, e3.symm, e2.symm, by simpa using h2, by omega, h3, h4, h5⟩
theorem sStep_go {m o o' : Int} {b b' : List Int} {r : Rs} (e : sStep m o b = .go r o' b') : 9 ≤ b.length ∧ ¬ (0 < m ∧ m < (hdOf b).ln) ∧ (hdOf b).ln ≤ ((b.drop 9).length : Int) ∧
    sAfter o (hdOf b) (sPayload (hdOf b) ((b.drop 9).take (hdOf b).ln.toNat)) ((b.drop 9).drop (hdOf b).ln.toNat) = .go r o' b' := by
  unfold sStep at e
  by_cases h1 : b.length < 9
  · rw [if_pos h1] at e; cases e
  rw [if_neg h1] at e
  by_cases h2 : 0 < m ∧ m < (hdOf b).ln
  · rw [if_pos h2] at e; split at e <;> cases e
  rw [if_neg h2] at e
  by_cases h3 : ((b.drop 9).length : Int) < (hdOf b).ln
  · rw [if_pos h3] at e; cases e
  rw [if_neg h3] at e
  exact ⟨by omega, h2, by omega, e⟩
theorem sStep_less {m o o' : Int} {b b' : List Int} {r : Rs} (e : sStep m o b = .go r o' b') : b'.length < b.length := by
  obtain ⟨h1, -, -, h2⟩ := sStep_go e
  obtain ⟨-, rfl, -⟩ := sAfter_go h2
  simp only [List.length_drop]
  omega
/-- All results by the reference. -/
def sRead (m o : Int) (b : List Int) : List Rs × Bool :=
  match h : sStep m o b with
  | .stop l q => (l, q)
  | .go r o' b' => (r :: (sRead m o' b').1, (sRead m o' b').2)
termination_by b.length
decreasing_by all_goals exact sStep_less h
theorem sRead_stop {m o : Int} {b : List Int} {l : List Rs} {q : Bool} (h : sStep m o b = .stop l q) : sRead m o b = (l, q) := by
  rw [sRead]; split
  · rename_i h'; rw [h] at h'; cases h'; rfl
  · rename_i h'; rw [h] at h'; cases h'
theorem sRead_go {m o o' : Int} {b b' : List Int} {r : Rs} (h : sStep m o b = .go r o' b') : sRead m o b = (r :: (sRead m o' b').1, (sRead m o' b').2) := by
  rw [sRead]; split
  · rename_i h'; rw [h] at h'; cases h'
  · rename_i h'; rw [h] at h'; cases h'; rfl

/-- A result that is read is one that is wanted. -/
def EqR (w g : Rs) : Prop := (w.f = 7 ∧ g.f ≠ 0) ∨ (w.f ≠ 7 ∧ w = g)
/-- The results are those that are wanted. -/
inductive Mat : Bool → List Rs → List Rs → Prop
  | nil (q : Bool) : Mat q [] []
  | more (gs : List Rs) : Mat false [] gs
  | cons (q : Bool) (w g : Rs) (ws gs : List Rs) (h : EqR w g) (hs : Mat q ws gs) : Mat q (w :: ws) (g :: gs)
theorem EqR.same {w : Rs} (h : w.f ≠ 7) : EqR w w := .inr ⟨h, rfl⟩
theorem Mat.same {q : Bool} : ∀ {l : List Rs}, (∀ r ∈ l, r.f ≠ 7) → Mat q l l
  | [], _ => .nil q
  | r :: l, h => .cons q r r l l (.same (h r (List.mem_cons_self ..))) (Mat.same fun x hx => h x (List.mem_cons_of_mem _ hx))
theorem Mat.len {q : Bool} {ws gs : List Rs} (h : Mat q ws gs) : ws.length ≤ gs.length ∧ (q = true → gs.length = ws.length) := by
  induction h with
  | nil q => simp
  | more gs => simp
  | cons q w g ws gs h hs ih => simp only [List.length_cons]; exact ⟨by omega, fun e => by have := ih.2 e; omega⟩
theorem Mat.at {q : Bool} {ws gs : List Rs} (h : Mat q ws gs) : ∀ {j : Nat} {w : Rs}, ws[j]? = some w → ∃ g, gs[j]? = some g ∧ EqR w g := by
  induction h with
  | nil q => intro j w hj; simp at hj
  | more gs => intro j w hj; simp at hj
  | cons q w g ws gs h hs ih =>
    intro j w' hj
    cases j with
    | zero => simp at hj; subst hj; exact ⟨g, by simp, h⟩
    | succ j => simp at hj; obtain ⟨g', h1, h2⟩ := ih hj; exact ⟨g', by simpa using h1, h2⟩
theorem Mat.stop7 {g : Rs} {gs : List Rs} (h : g.f ≠ 0) : Mat false [.bad 7 0 0] (g :: gs) := .cons _ _ _ _ _ (.inl ⟨rfl, h⟩) (.more _)
theorem Mat.stop1 {q : Bool} {r : Rs} (h : r.f ≠ 7) : Mat q [r] [r] := .cons _ _ _ _ _ (.same h) (.nil _)
end Go.Proofs.YtfdlbjibninakaaDoor.Pl
