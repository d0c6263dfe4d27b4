/-
  DERIVED. GIVEN WITH THE SEED: THE CARDS: each row of YtfdlbjibninakaaDoorRows.lean that lists a variable, with what it lists TIED to the program's text (the seventh form; the later family's looks); each row that meets fmt, with fmt's text TOLD by the authors' own Lean function (tested against real Go, not proved from fmt's source: count such statements apart). THE CARD IS WHAT COUNTS. Prove the row's statement (the work); the ties are given (YtfdlbjibninakaaDoorTie.lean); close each card by the builder's one call (the guide's Derived/Test/ToyasCard.lean, 'card_holds'). Laid BY PROGRAM, IN A SANDBOX (cutbox-door.mjs). By AI agents, Wed Nov 11 2026. No macro, syntax, notation, axiom, sorry.
-/
import Derived.Test.YtfdlbjibninakaaDoorRows
import GoSem.ClaimSeven
namespace Go.Proofs.YtfdlbjibninakaaDoor
namespace Rows

/-- THE TIED CARD OF 'laws.FnHeaderBytes'. -/
def fnHeaderBytesCard : Claim7 := { stood := { row := fnHeaderBytesRow, standIns := [], harness := (true, "7fd5e4322c34cb7f406908f774d545feee3687fabe0984e94a99b8828a2214e2"), looks := true }, kinds := [], alts := [], laidByText := true, laidKinds := [.sentinel, .sentinel], laidTests := true, laidLooks := .later }
def FnHeaderBytesCardSaid : Prop := Claim7.holds Tryd.pinned (.plain (OpenSpec.ofChange fnHeaderBytesSpec)) fnHeaderBytesCard

/-- THE TIED CARD OF 'laws.FnValid'. -/
def fnValidCard : Claim7 := { stood := { row := fnValidRow, standIns := [], harness := (true, "7fd5e4322c34cb7f406908f774d545feee3687fabe0984e94a99b8828a2214e2"), looks := true }, kinds := [], alts := [], laidByText := true, laidKinds := [.handle, .sentinel, .sentinel, .sentinel], laidTests := true, laidLooks := .later }
def FnValidCardSaid : Prop := Claim7.holds Tryd.pinned (.plain (OpenSpec.ofChange fnValidSpec)) fnValidCard

/-- THE TIED CARD OF 'laws.FnRefused'. -/
def fnRefusedCard : Claim7 := { stood := { row := fnRefusedRow, standIns := [], harness := (true, "7fd5e4322c34cb7f406908f774d545feee3687fabe0984e94a99b8828a2214e2"), looks := true }, kinds := [], alts := [], laidByText := true, laidKinds := [.sentinel, .sentinel, .sentinel, .sentinel, .sentinel, .sentinel], laidTests := true, laidLooks := .later }
def FnRefusedCardSaid : Prop := Claim7.holds Tryd.pinned (.plain (OpenSpec.ofChange fnRefusedSpec)) fnRefusedCard

/-- THE TIED CARD OF 'laws.FnDuplicates'. -/
def fnDuplicatesCard : Claim7 := { stood := { row := fnDuplicatesRow, standIns := [], harness := (true, "7fd5e4322c34cb7f406908f774d545feee3687fabe0984e94a99b8828a2214e2"), looks := true }, kinds := [], alts := [], laidByText := true, laidKinds := [.sentinel, .sentinel, .sentinel, .sentinel], laidTests := true, laidLooks := .later }
def FnDuplicatesCardSaid : Prop := Claim7.holds Tryd.pinned (.plain (OpenSpec.ofChange fnDuplicatesSpec)) fnDuplicatesCard

/-- THE TIED CARD OF 'laws.FnEnds'. -/
def fnEndsCard : Claim7 := { stood := { row := fnEndsRow, standIns := [], harness := (true, "7fd5e4322c34cb7f406908f774d545feee3687fabe0984e94a99b8828a2214e2"), looks := true }, kinds := [], alts := [], laidByText := true, laidKinds := [.handle, .sentinel, .sentinel, .sentinel, .sentinel], laidTests := true, laidLooks := .later }
def FnEndsCardSaid : Prop := Claim7.holds Tryd.pinned (.plain (OpenSpec.ofChange fnEndsSpec)) fnEndsCard

/-- THE TIED CARD OF 'laws.FnIgnored'. -/
def fnIgnoredCard : Claim7 := { stood := { row := fnIgnoredRow, standIns := [], harness := (true, "7fd5e4322c34cb7f406908f774d545feee3687fabe0984e94a99b8828a2214e2"), looks := true }, kinds := [], alts := [], laidByText := true, laidKinds := [.handle, .sentinel, .sentinel, .sentinel, .sentinel], laidTests := true, laidLooks := .later }
def FnIgnoredCardSaid : Prop := Claim7.holds Tryd.pinned (.plain (OpenSpec.ofChange fnIgnoredSpec)) fnIgnoredCard

/-- THE TIED CARD OF 'laws.FnPieces'. -/
def fnPiecesCard : Claim7 := { stood := { row := fnPiecesRow, standIns := [], harness := (true, "7fd5e4322c34cb7f406908f774d545feee3687fabe0984e94a99b8828a2214e2"), looks := true }, kinds := [], alts := [], laidByText := true, laidKinds := [.handle, .sentinel, .sentinel, .sentinel, .sentinel], laidTests := true, laidLooks := .later }
def FnPiecesCardSaid : Prop := Claim7.holds Tryd.pinned (.plain (OpenSpec.ofChange fnPiecesSpec)) fnPiecesCard

/-- THE TIED CARD OF 'laws.FnUnknown'. -/
def fnUnknownCard : Claim7 := { stood := { row := fnUnknownRow, standIns := [], harness := (true, "7fd5e4322c34cb7f406908f774d545feee3687fabe0984e94a99b8828a2214e2"), looks := true }, kinds := [], alts := [], laidByText := true, laidKinds := [.handle, .sentinel, .sentinel, .sentinel, .sentinel], laidTests := true, laidLooks := .later }
def FnUnknownCardSaid : Prop := Claim7.holds Tryd.pinned (.plain (OpenSpec.ofChange fnUnknownSpec)) fnUnknownCard

/-- THE TIED CARD OF 'laws.FnHeader'. -/
def fnHeaderCard : Claim7 := { stood := { row := fnHeaderRow, standIns := [], harness := (true, "7fd5e4322c34cb7f406908f774d545feee3687fabe0984e94a99b8828a2214e2"), looks := true }, kinds := [], alts := [], laidByText := true, laidKinds := [.handle, .sentinel, .sentinel, .sentinel, .sentinel], laidTests := true, laidLooks := .later }
def FnHeaderCardSaid : Prop := Claim7.holds Tryd.pinned (.plain (OpenSpec.ofChange fnHeaderSpec)) fnHeaderCard

/-- THE SECOND FORM's CARD OF 'laws.FnHeaderBytes'. -/
def fnHeaderBytesUptoCard : Claim7 := { stood := { row := fnHeaderBytesUptoRow, standIns := [], harness := (true, "7fd5e4322c34cb7f406908f774d545feee3687fabe0984e94a99b8828a2214e2"), looks := true }, kinds := [], alts := [], laidByText := true, laidKinds := [.sentinel, .sentinel], laidTests := true, laidLooks := .later }
def FnHeaderBytesUptoCardSaid : Prop := Claim7.holds Tryd.pinned (.plain (OpenSpec.upto fnHeaderBytesSpec)) fnHeaderBytesUptoCard

/-- THE SECOND FORM's CARD OF 'laws.FnValid'. -/
def fnValidUptoCard : Claim7 := { stood := { row := fnValidUptoRow, standIns := [], harness := (true, "7fd5e4322c34cb7f406908f774d545feee3687fabe0984e94a99b8828a2214e2"), looks := true }, kinds := [], alts := [], laidByText := true, laidKinds := [.handle, .sentinel, .sentinel, .sentinel], laidTests := true, laidLooks := .later }
def FnValidUptoCardSaid : Prop := Claim7.holds Tryd.pinned (.plain (OpenSpec.upto fnValidSpec)) fnValidUptoCard

/-- THE SECOND FORM's CARD OF 'laws.FnRefused'. -/
def fnRefusedUptoCard : Claim7 := { stood := { row := fnRefusedUptoRow, standIns := [], harness := (true, "7fd5e4322c34cb7f406908f774d545feee3687fabe0984e94a99b8828a2214e2"), looks := true }, kinds := [], alts := [], laidByText := true, laidKinds := [.sentinel, .sentinel, .sentinel, .sentinel, .sentinel, .sentinel], laidTests := true, laidLooks := .later }
def FnRefusedUptoCardSaid : Prop := Claim7.holds Tryd.pinned (.plain (OpenSpec.upto fnRefusedSpec)) fnRefusedUptoCard

/-- THE SECOND FORM's CARD OF 'laws.FnDuplicates'. -/
def fnDuplicatesUptoCard : Claim7 := { stood := { row := fnDuplicatesUptoRow, standIns := [], harness := (true, "7fd5e4322c34cb7f406908f774d545feee3687fabe0984e94a99b8828a2214e2"), looks := true }, kinds := [], alts := [], laidByText := true, laidKinds := [.sentinel, .sentinel, .sentinel, .sentinel], laidTests := true, laidLooks := .later }
def FnDuplicatesUptoCardSaid : Prop := Claim7.holds Tryd.pinned (.plain (OpenSpec.upto fnDuplicatesSpec)) fnDuplicatesUptoCard

/-- THE SECOND FORM's CARD OF 'laws.FnEnds'. -/
def fnEndsUptoCard : Claim7 := { stood := { row := fnEndsUptoRow, standIns := [], harness := (true, "7fd5e4322c34cb7f406908f774d545feee3687fabe0984e94a99b8828a2214e2"), looks := true }, kinds := [], alts := [], laidByText := true, laidKinds := [.handle, .sentinel, .sentinel, .sentinel, .sentinel], laidTests := true, laidLooks := .later }
def FnEndsUptoCardSaid : Prop := Claim7.holds Tryd.pinned (.plain (OpenSpec.upto fnEndsSpec)) fnEndsUptoCard

/-- THE SECOND FORM's CARD OF 'laws.FnIgnored'. -/
def fnIgnoredUptoCard : Claim7 := { stood := { row := fnIgnoredUptoRow, standIns := [], harness := (true, "7fd5e4322c34cb7f406908f774d545feee3687fabe0984e94a99b8828a2214e2"), looks := true }, kinds := [], alts := [], laidByText := true, laidKinds := [.handle, .sentinel, .sentinel, .sentinel, .sentinel], laidTests := true, laidLooks := .later }
def FnIgnoredUptoCardSaid : Prop := Claim7.holds Tryd.pinned (.plain (OpenSpec.upto fnIgnoredSpec)) fnIgnoredUptoCard

/-- THE SECOND FORM's CARD OF 'laws.FnPieces'. -/
def fnPiecesUptoCard : Claim7 := { stood := { row := fnPiecesUptoRow, standIns := [], harness := (true, "7fd5e4322c34cb7f406908f774d545feee3687fabe0984e94a99b8828a2214e2"), looks := true }, kinds := [], alts := [], laidByText := true, laidKinds := [.handle, .sentinel, .sentinel, .sentinel, .sentinel], laidTests := true, laidLooks := .later }
def FnPiecesUptoCardSaid : Prop := Claim7.holds Tryd.pinned (.plain (OpenSpec.upto fnPiecesSpec)) fnPiecesUptoCard

/-- THE SECOND FORM's CARD OF 'laws.FnUnknown'. -/
def fnUnknownUptoCard : Claim7 := { stood := { row := fnUnknownUptoRow, standIns := [], harness := (true, "7fd5e4322c34cb7f406908f774d545feee3687fabe0984e94a99b8828a2214e2"), looks := true }, kinds := [], alts := [], laidByText := true, laidKinds := [.handle, .sentinel, .sentinel, .sentinel, .sentinel], laidTests := true, laidLooks := .later }
def FnUnknownUptoCardSaid : Prop := Claim7.holds Tryd.pinned (.plain (OpenSpec.upto fnUnknownSpec)) fnUnknownUptoCard

/-- THE SECOND FORM's CARD OF 'laws.FnHeader'. -/
def fnHeaderUptoCard : Claim7 := { stood := { row := fnHeaderUptoRow, standIns := [], harness := (true, "7fd5e4322c34cb7f406908f774d545feee3687fabe0984e94a99b8828a2214e2"), looks := true }, kinds := [], alts := [], laidByText := true, laidKinds := [.handle, .sentinel, .sentinel, .sentinel, .sentinel], laidTests := true, laidLooks := .later }
def FnHeaderUptoCardSaid : Prop := Claim7.holds Tryd.pinned (.plain (OpenSpec.upto fnHeaderSpec)) fnHeaderUptoCard
end Rows
end Go.Proofs.YtfdlbjibninakaaDoor
