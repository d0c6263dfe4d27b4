/- Reading: the parser of a type, and what it leaves, for all types at once. -/
import Derived.Test.YtfdlbjibninakaaDoorPs6b
import Derived.Test.YtfdlbjibninakaaDoorPs7
import Derived.Test.YtfdlbjibninakaaDoorPs3
import Derived.Test.YtfdlbjibninakaaDoorPs4
import Derived.Test.YtfdlbjibninakaaDoorPs5
import Derived.Test.YtfdlbjibninakaaDoorPs8
set_option linter.unusedVariables false
set_option linter.unusedSimpArgs false
namespace Go.Proofs.YtfdlbjibninakaaDoor
open Go.RowKit

/-- The number of a type's parser. -/
def parserF (ty : Int) : Nat :=
  if ty = 0 then 113 else if ty = 1 then 114 else if ty = 2 then 115 else if ty = 3 then 116 else if ty = 4 then 117 else if ty = 5 then 118 else if ty = 6 then 119 else if ty = 7 then 120 else if ty = 8 then 121 else if ty = 9 then 122 else if ty = 16 then 123 else 124
/-- Every parser against the model. -/
theorem parse_any {B : Nat} {aE aU aT : Addr} {w : World} (hV : GV B w aE aU aT) (ty fl ln st : Int) (hf0 : 0 ≤ fl) (hf1 : fl < 256) (a : Option Addr) (n c : Nat) (b : List Int) (h : RdB w (.slice a n c) b) (hb : Bs b) :
    Calls Tryd.prog (parserF ty) #[.pointer none, hdV ty fl ln st, cntV, .slice a n c] w (Parsed aU w (parse ⟨ty, fl, ln, st⟩ b)) := by
  unfold parserF parse
  by_cases h0 : ty = 0
  · subst h0
    exact parseData_any hV _ fl ln st hf0 hf1 a n c b h hb
  rw [if_neg h0, if_neg h0]
  by_cases h1 : ty = 1
  · subst h1
    exact parseHeaders_any hV _ fl ln st hf0 hf1 a n c b h hb
  rw [if_neg h1, if_neg h1]
  by_cases h2 : ty = 2
  · subst h2
    exact parsePriority_any hV _ fl ln st hf0 hf1 a n c b h hb
  rw [if_neg h2, if_neg h2]
  by_cases h3 : ty = 3
  · subst h3
    exact parseRst_any hV _ fl ln st hf0 hf1 a n c b h hb
  rw [if_neg h3, if_neg h3]
  by_cases h4 : ty = 4
  · subst h4
    exact parseSettings_any hV _ fl ln st hf0 hf1 a n c b h hb
  rw [if_neg h4, if_neg h4]
  by_cases h5 : ty = 5
  · subst h5
    exact parsePush_any hV _ fl ln st hf0 hf1 a n c b h hb
  rw [if_neg h5, if_neg h5]
  by_cases h6 : ty = 6
  · subst h6
    exact parsePing_any hV _ fl ln st hf0 hf1 a n c b h hb
  rw [if_neg h6, if_neg h6]
  by_cases h7 : ty = 7
  · subst h7
    exact parseGoAway_any hV _ fl ln st hf0 hf1 a n c b h hb
  rw [if_neg h7, if_neg h7]
  by_cases h8 : ty = 8
  · subst h8
    exact parseWindow_any hV _ fl ln st hf0 hf1 a n c b h hb
  rw [if_neg h8, if_neg h8]
  by_cases h9 : ty = 9
  · subst h9
    exact parseCont_any hV _ fl ln st hf0 hf1 a n c b h hb
  rw [if_neg h9, if_neg h9]
  by_cases h16 : ty = 16
  · subst h16
    exact parseUpdate_any hV _ fl ln st hf0 hf1 a n c b h hb
  rw [if_neg h16, if_neg h16]
  exact parseUnknown_any hV ty fl ln st hf0 hf1 a n c b h hb
theorem typeParser_any (ty : Int) (w : World) : Calls Tryd.prog 104 #[.int .u8 ty] w fun e w' => e = .returned (.func (.func (parserF ty)) #[] #[]) ∧ w = w' := by
  unfold parserF
  by_cases h0 : ty = 0
  · subst h0
    go_enter Tryd.func104, Tryd.ntmps104
    go_wp2
    go_ret
    exact ⟨rfl, rfl⟩
  rw [if_neg h0]
  have b0 : (ty == 0) = false := beq_false_of_ne h0
  by_cases h1 : ty = 1
  · subst h1
    go_enter Tryd.func104, Tryd.ntmps104
    go_wp2
    go_ret
    exact ⟨rfl, rfl⟩
  rw [if_neg h1]
  have b1 : (ty == 1) = false := beq_false_of_ne h1
  by_cases h2 : ty = 2
  · subst h2
    go_enter Tryd.func104, Tryd.ntmps104
    go_wp2
    go_ret
    exact ⟨rfl, rfl⟩
  rw [if_neg h2]
  have b2 : (ty == 2) = false := beq_false_of_ne h2
  by_cases h3 : ty = 3
  · subst h3
    go_enter Tryd.func104, Tryd.ntmps104
    go_wp2
    go_ret
    exact ⟨rfl, rfl⟩
  rw [if_neg h3]
  have b3 : (ty == 3) = false := beq_false_of_ne h3
  by_cases h4 : ty = 4
  · subst h4
    go_enter Tryd.func104, Tryd.ntmps104
    go_wp2
    go_ret
    exact ⟨rfl, rfl⟩
  rw [if_neg h4]
  have b4 : (ty == 4) = false := beq_false_of_ne h4
  by_cases h5 : ty = 5
  · subst h5
    go_enter Tryd.func104, Tryd.ntmps104
    go_wp2
    go_ret
    exact ⟨rfl, rfl⟩
  rw [if_neg h5]
  have b5 : (ty == 5) = false := beq_false_of_ne h5
  by_cases h6 : ty = 6
  · subst h6
    go_enter Tryd.func104, Tryd.ntmps104
    go_wp2
    go_ret
    exact ⟨rfl, rfl⟩
  rw [if_neg h6]
  have b6 : (ty == 6) = false := beq_false_of_ne h6
  by_cases h7 : ty = 7
  · subst h7
    go_enter Tryd.func104, Tryd.ntmps104
    go_wp2
    go_ret
    exact ⟨rfl, rfl⟩
  rw [if_neg h7]
  have b7 : (ty == 7) = false := beq_false_of_ne h7
  by_cases h8 : ty = 8
  · subst h8
    go_enter Tryd.func104, Tryd.ntmps104
    go_wp2
    go_ret
    exact ⟨rfl, rfl⟩
  rw [if_neg h8]
  have b8 : (ty == 8) = false := beq_false_of_ne h8
  by_cases h9 : ty = 9
  · subst h9
    go_enter Tryd.func104, Tryd.ntmps104
    go_wp2
    go_ret
    exact ⟨rfl, rfl⟩
  rw [if_neg h9]
  have b9 : (ty == 9) = false := beq_false_of_ne h9
  by_cases h16 : ty = 16
  · subst h16
    go_enter Tryd.func104, Tryd.ntmps104
    go_wp2
    go_ret
    exact ⟨rfl, rfl⟩
  rw [if_neg h16]
  have b16 : (ty == 16) = false := beq_false_of_ne h16
  clear h0 h1 h2 h3 h4 h5 h6 h7 h8 h9 h16
  go_enter Tryd.func104, Tryd.ntmps104
  go_wp2
  go_ret
  exact ⟨rfl, rfl⟩
end Go.Proofs.YtfdlbjibninakaaDoor
