/-
  DERIVED. GIVEN WITH THE SEED: THE CARDS: each row of YtfdlbjibninakaaGreatDoorRows.lean that lists a variable, with what it lists TIED to the program's text (the seventh form; the later family's looks); each row that meets fmt, with fmt's text TOLD by the authors' own Lean function (tested against real Go, not proved from fmt's source: count such statements apart). THE CARD IS WHAT COUNTS. Prove the row's statement (the work); the ties are given (YtfdlbjibninakaaGreatDoorTie.lean); close each card by the builder's one call (the guide's Derived/Test/ToyasCard.lean, 'card_holds'). Laid BY PROGRAM, IN A SANDBOX (cutbox-door.mjs). By AI agents, Wed Nov 11 2026. No macro, syntax, notation, axiom, sorry.
-/
import Derived.Test.YtfdlbjibninakaaGreatDoorRows
import GoSem.ClaimSeven
namespace Go.Proofs.YtfdlbjibninakaaGreatDoor
namespace Rows

/-- THE TIED CARD OF 'laws.FnBehind'. -/
def fnBehindCard : Claim7 := { stood := { row := fnBehindRow, standIns := [], harness := (true, "c4c4e3a6939063e62af734fe5dc72cdf184305581a6aa58cb5a8b595203b07d5"), looks := true }, kinds := [], alts := [], laidByText := true, laidKinds := [.handle, .sentinel, .sentinel, .sentinel, .sentinel], laidTests := true, laidLooks := .later }
def FnBehindCardSaid : Prop := Claim7.holds Tryz.pinned (.plain (OpenSpec.ofChange fnBehindSpec)) fnBehindCard

/-- THE TIED CARD OF 'laws.FnRead'. -/
def fnReadCard : Claim7 := { stood := { row := fnReadRow, standIns := [], harness := (true, "c4c4e3a6939063e62af734fe5dc72cdf184305581a6aa58cb5a8b595203b07d5"), looks := true }, kinds := [], alts := [], laidByText := true, laidKinds := [.handle, .sentinel, .sentinel, .sentinel, .sentinel], laidTests := true, laidLooks := .later }
def FnReadCardSaid : Prop := Claim7.holds Tryz.pinned (.plain (OpenSpec.ofChange fnReadSpec)) fnReadCard

/-- THE TIED CARD OF 'laws.FnWrite'. -/
def fnWriteCard : Claim7 := { stood := { row := fnWriteRow, standIns := [], harness := (true, "c4c4e3a6939063e62af734fe5dc72cdf184305581a6aa58cb5a8b595203b07d5"), looks := true }, kinds := [], alts := [], laidByText := true, laidKinds := [.handle, .sentinel, .sentinel, .sentinel, .sentinel, .sentinel, .sentinel, .sentinel, .sentinel, .sentinel], laidTests := true, laidLooks := .later }
def FnWriteCardSaid : Prop := Claim7.holds Tryz.pinned (.plain (OpenSpec.ofChange fnWriteSpec)) fnWriteCard

/-- THE TIED CARD OF 'laws.FnWriteRead'. -/
def fnWriteReadCard : Claim7 := { stood := { row := fnWriteReadRow, standIns := [], harness := (true, "c4c4e3a6939063e62af734fe5dc72cdf184305581a6aa58cb5a8b595203b07d5"), looks := true }, kinds := [], alts := [], laidByText := true, laidKinds := [.handle, .sentinel, .sentinel, .sentinel, .sentinel, .sentinel, .sentinel, .sentinel, .sentinel, .sentinel], laidTests := true, laidLooks := .later }
def FnWriteReadCardSaid : Prop := Claim7.holds Tryz.pinned (.plain (OpenSpec.ofChange fnWriteReadSpec)) fnWriteReadCard

/-- THE SECOND FORM's CARD OF 'laws.FnBehind'. -/
def fnBehindUptoCard : Claim7 := { stood := { row := fnBehindUptoRow, standIns := [], harness := (true, "c4c4e3a6939063e62af734fe5dc72cdf184305581a6aa58cb5a8b595203b07d5"), looks := true }, kinds := [], alts := [], laidByText := true, laidKinds := [.handle, .sentinel, .sentinel, .sentinel, .sentinel], laidTests := true, laidLooks := .later }
def FnBehindUptoCardSaid : Prop := Claim7.holds Tryz.pinned (.plain (OpenSpec.upto fnBehindSpec)) fnBehindUptoCard

/-- THE SECOND FORM's CARD OF 'laws.FnRead'. -/
def fnReadUptoCard : Claim7 := { stood := { row := fnReadUptoRow, standIns := [], harness := (true, "c4c4e3a6939063e62af734fe5dc72cdf184305581a6aa58cb5a8b595203b07d5"), looks := true }, kinds := [], alts := [], laidByText := true, laidKinds := [.handle, .sentinel, .sentinel, .sentinel, .sentinel], laidTests := true, laidLooks := .later }
def FnReadUptoCardSaid : Prop := Claim7.holds Tryz.pinned (.plain (OpenSpec.upto fnReadSpec)) fnReadUptoCard

/-- THE SECOND FORM's CARD OF 'laws.FnWrite'. -/
def fnWriteUptoCard : Claim7 := { stood := { row := fnWriteUptoRow, standIns := [], harness := (true, "c4c4e3a6939063e62af734fe5dc72cdf184305581a6aa58cb5a8b595203b07d5"), looks := true }, kinds := [], alts := [], laidByText := true, laidKinds := [.handle, .sentinel, .sentinel, .sentinel, .sentinel, .sentinel, .sentinel, .sentinel, .sentinel, .sentinel], laidTests := true, laidLooks := .later }
def FnWriteUptoCardSaid : Prop := Claim7.holds Tryz.pinned (.plain (OpenSpec.upto fnWriteSpec)) fnWriteUptoCard

/-- THE SECOND FORM's CARD OF 'laws.FnWriteRead'. -/
def fnWriteReadUptoCard : Claim7 := { stood := { row := fnWriteReadUptoRow, standIns := [], harness := (true, "c4c4e3a6939063e62af734fe5dc72cdf184305581a6aa58cb5a8b595203b07d5"), looks := true }, kinds := [], alts := [], laidByText := true, laidKinds := [.handle, .sentinel, .sentinel, .sentinel, .sentinel, .sentinel, .sentinel, .sentinel, .sentinel, .sentinel], laidTests := true, laidLooks := .later }
def FnWriteReadUptoCardSaid : Prop := Claim7.holds Tryz.pinned (.plain (OpenSpec.upto fnWriteReadSpec)) fnWriteReadUptoCard
end Rows
end Go.Proofs.YtfdlbjibninakaaGreatDoor
