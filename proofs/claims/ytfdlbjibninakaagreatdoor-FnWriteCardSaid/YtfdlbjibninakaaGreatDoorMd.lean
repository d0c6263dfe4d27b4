/- The plain model of reading: what the framer makes of a list of bytes. No program stands here. -/
set_option linter.unusedVariables false
set_option linter.unusedSimpArgs false
namespace Go.Proofs.YtfdlbjibninakaaGreatDoor

/-- A frame as plain data. -/
structure Fr where
  ty : Int
  fl : Int
  st : Int
  ln : Int
  data : List Int
  pr : Int
  la : Int
  co : Int
  inc : Int
  hp : Bool
  ex : Bool
  dep : Int
  wt : Int
  set : List (Int × Int)
def Fr.zero : Fr := ⟨0, 0, 0, 0, [], 0, 0, 0, 0, false, false, 0, 0, []⟩
/-- A result: a fault with its code and stream, or a frame. -/
structure Rs where
  f : Int
  c : Int
  s : Int
  x : Fr
def Rs.bad (f c s : Int) : Rs := ⟨f, c, s, Fr.zero⟩
def Rs.ok (x : Fr) : Rs := ⟨0, 0, 0, x⟩
/-- A header. -/
structure Hd where
  ty : Int
  fl : Int
  ln : Int
  st : Int

def gb (b : List Int) (i : Nat) : Int := b.getD i 0
def n16 (b : List Int) (i : Nat) : Int := gb b i * 256 + gb b (i + 1)
def n32 (b : List Int) (i : Nat) : Int := gb b i * 16777216 + gb b (i + 1) * 65536 + gb b (i + 2) * 256 + gb b (i + 3)
def n31 (b : List Int) (i : Nat) : Int := n32 b i % 2147483648
def hdOf (b : List Int) : Hd := ⟨gb b 3, gb b 4, gb b 0 * 65536 + gb b 1 * 256 + gb b 2, n31 b 5⟩
/-- A flag, by its weight. -/
def bitOf (fl k : Int) : Bool := decide (fl / k % 2 = 1)

def Fr.of (h : Hd) : Fr := { Fr.zero with ty := h.ty, fl := h.fl, st := h.st, ln := h.ln }

def parseData (h : Hd) (b : List Int) : Rs :=
  if h.st = 0 then .bad 4 1 0
  else if bitOf h.fl 8 then
    match b with
    | [] => .bad 2 0 0
    | p :: b => if (b.length : Int) < p then .bad 4 1 0 else .ok { Fr.of h with data := b.take (b.length - p.toNat) }
  else .ok { Fr.of h with data := b }
/-- The end of a HEADERS frame: the padding cut off. -/
def headEnd (h : Hd) (x : Fr) (pad : Int) (b : List Int) : Rs :=
  if (b.length : Int) < pad then .bad 5 1 h.st else .ok { x with data := b.take (b.length - pad.toNat) }
def headPrio (h : Hd) (pad : Int) (b : List Int) : Rs :=
  if bitOf h.fl 32 then
    if b.length < 5 then .bad 2 0 0
    else headEnd h { Fr.of h with hp := true, ex := decide (2147483648 ≤ n32 b 0), dep := n31 b 0, wt := gb b 4 } pad (b.drop 5)
  else headEnd h (Fr.of h) pad b
def parseHeaders (h : Hd) (b : List Int) : Rs :=
  if h.st = 0 then .bad 4 1 0
  else if bitOf h.fl 8 then
    match b with
    | [] => .bad 2 0 0
    | p :: b => headPrio h p b
  else headPrio h 0 b
def parsePriority (h : Hd) (b : List Int) : Rs :=
  if h.st = 0 then .bad 4 1 0
  else if b.length ≠ 5 then .bad 4 6 0
  else .ok { Fr.of h with ex := decide (2147483648 ≤ n32 b 0), dep := n31 b 0, wt := gb b 4 }
def parseRst (h : Hd) (b : List Int) : Rs :=
  if b.length ≠ 4 then .bad 4 6 0 else if h.st = 0 then .bad 4 1 0 else .ok { Fr.of h with co := n32 b 0 }
/-- The parameters of a SETTINGS frame. -/
def pairs : Nat → List Int → List (Int × Int)
  | 0, _ => []
  | n + 1, b => (n16 b 0, n32 b 2) :: pairs n (b.drop 6)
def firstOf (k : Int) (l : List (Int × Int)) : Int := ((l.find? (fun p => p.1 == k)).map (·.2)).getD 0
def parseSettings (h : Hd) (b : List Int) : Rs :=
  if bitOf h.fl 1 ∧ 0 < h.ln then .bad 4 6 0
  else if h.st ≠ 0 then .bad 4 1 0
  else if b.length % 6 ≠ 0 then .bad 4 6 0
  else if 2147483647 < firstOf 4 (pairs (b.length / 6) b) then .bad 4 3 0
  else .ok { Fr.of h with set := pairs (b.length / 6) b }
def pushEnd (h : Hd) (pad : Int) (b : List Int) : Rs :=
  if b.length < 4 then .bad 2 0 0
  else if ((b.length : Int) - 4) < pad then .bad 4 1 0
  else .ok { Fr.of h with pr := n31 b 0, data := (b.drop 4).take (b.length - 4 - pad.toNat) }
def parsePush (h : Hd) (b : List Int) : Rs :=
  if h.st = 0 then .bad 4 1 0
  else if bitOf h.fl 8 then
    match b with
    | [] => .bad 2 0 0
    | p :: b => pushEnd h p b
  else pushEnd h 0 b
def parsePing (h : Hd) (b : List Int) : Rs :=
  if b.length ≠ 8 then .bad 4 6 0 else if h.st ≠ 0 then .bad 4 1 0 else .ok { Fr.of h with data := b }
def parseGoAway (h : Hd) (b : List Int) : Rs :=
  if h.st ≠ 0 then .bad 4 1 0 else if b.length < 8 then .bad 4 6 0 else .ok { Fr.of h with la := n31 b 0, co := n32 b 4, data := b.drop 8 }
def parseWindow (h : Hd) (b : List Int) : Rs :=
  if b.length ≠ 4 then .bad 4 6 0
  else if n31 b 0 = 0 then (if h.st = 0 then .bad 4 1 0 else .bad 5 1 h.st)
  else .ok { Fr.of h with inc := n31 b 0 }
def parseCont (h : Hd) (b : List Int) : Rs :=
  if h.st = 0 then .bad 4 1 0 else .ok { Fr.of h with data := b }
def parseUpdate (h : Hd) (b : List Int) : Rs :=
  if h.st ≠ 0 then .bad 4 1 0
  else if b.length < 4 then .bad 4 6 0
  else if n31 b 0 = 0 then .bad 4 1 0
  else .ok { Fr.of h with pr := n31 b 0, data := b.drop 4 }
def parseUnknown (h : Hd) (b : List Int) : Rs := .ok { Fr.of h with data := b }
/-- The payload of a frame. -/
def parse (h : Hd) (b : List Int) : Rs :=
  if h.ty = 0 then parseData h b
  else if h.ty = 1 then parseHeaders h b
  else if h.ty = 2 then parsePriority h b
  else if h.ty = 3 then parseRst h b
  else if h.ty = 4 then parseSettings h b
  else if h.ty = 5 then parsePush h b
  else if h.ty = 6 then parsePing h b
  else if h.ty = 7 then parseGoAway h b
  else if h.ty = 8 then parseWindow h b
  else if h.ty = 9 then parseCont h b
  else if h.ty = 16 then parseUpdate h b
  else parseUnknown h b

/-- The order of frames is broken; o: the stream whose header block goes on. -/
def ordBad (o : Int) (h : Hd) : Bool := if o = 0 then decide (h.ty = 9) else (decide (h.ty ≠ 9) || decide (h.st ≠ o))
def nextO (o : Int) (h : Hd) : Int := if h.ty = 1 ∨ h.ty = 9 then (if bitOf h.fl 4 then 0 else h.st) else o
/-- Some data that end too early. -/
def cutOff (b : List Int) : Rs := if b.length = 0 then .bad 1 0 0 else .bad 2 0 0
/-- One frame of the data: the result, the stream whose header block goes on, what is left. -/
def one (m o : Int) (b : List Int) : Rs × Int × List Int :=
  if b.length < 9 then (cutOff b, o, [])
  else if m < (hdOf b).ln then (.bad 3 0 0, o, b.drop 9)
  else if ordBad o (hdOf b) then (.bad 4 1 0, o, b.drop 9)
  else if ((b.drop 9).length : Int) < (hdOf b).ln then (cutOff (b.drop 9), nextO o (hdOf b), [])
  else (parse (hdOf b) ((b.drop 9).take (hdOf b).ln.toNat), nextO o (hdOf b), (b.drop 9).drop (hdOf b).ln.toNat)

/-- Reading goes on behind such a result. -/
def Rs.going (r : Rs) : Bool := decide (r.f = 0 ∨ r.f = 5)
theorem cutOff_stops (b : List Int) : (cutOff b).going = false := by unfold cutOff; split <;> rfl
theorem one_going {m o : Int} {b : List Int} (h : (one m o b).1.going = true) : 9 ≤ b.length ∧ (hdOf b).ln ≤ m ∧ ordBad o (hdOf b) = false ∧ (hdOf b).ln ≤ ((b.drop 9).length : Int) ∧
    one m o b = (parse (hdOf b) ((b.drop 9).take (hdOf b).ln.toNat), nextO o (hdOf b), (b.drop 9).drop (hdOf b).ln.toNat) := by
  unfold one at h ⊢
  by_cases h1 : b.length < 9
  · rw [if_pos h1, cutOff_stops] at h; cases h
  rw [if_neg h1] at h ⊢
  by_cases h2 : m < (hdOf b).ln
  · rw [if_pos h2] at h; cases h
  rw [if_neg h2] at h ⊢
  by_cases h3 : ordBad o (hdOf b) = true
  · rw [if_pos h3] at h; cases h
  rw [if_neg h3] at h ⊢
  by_cases h4 : ((b.drop 9).length : Int) < (hdOf b).ln
  · rw [if_pos h4, cutOff_stops] at h; cases h
  rw [if_neg h4] at h ⊢
  exact ⟨by omega, by omega, by simpa using h3, by omega, rfl⟩
theorem one_less {m o : Int} {b : List Int} (h : (one m o b).1.going = true) : (one m o b).2.2.length < b.length := by
  obtain ⟨h1, -, -, -, h2⟩ := one_going h
  rw [h2]
  simp only [List.length_drop]
  omega
/-- All results of the data. -/
def readAll (m o : Int) (b : List Int) : List Rs :=
  if h : (one m o b).1.going = true then (one m o b).1 :: readAll m (one m o b).2.1 (one m o b).2.2 else [(one m o b).1]
termination_by b.length
decreasing_by exact one_less h
theorem readAll_go {m o : Int} {b : List Int} (h : (one m o b).1.going = true) : readAll m o b = (one m o b).1 :: readAll m (one m o b).2.1 (one m o b).2.2 := by
  rw [readAll, dif_pos h]
theorem readAll_stop {m o : Int} {b : List Int} (h : (one m o b).1.going = false) : readAll m o b = [(one m o b).1] := by
  rw [readAll, dif_neg (by simp [h])]
end Go.Proofs.YtfdlbjibninakaaGreatDoor
