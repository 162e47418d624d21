/-
  DERIVED. GIVEN WITH THE SEED: THE CARDS: each row of YtkafojdjadnfaaaDoorRows.lean that lists a variable, with what it lists TIED to the program's text (the seventh form; the later family's looks); each row that meets fmt, with fmt's text TOLD by the authors' own Lean function (tested against real Go, not proved from fmt's source: count such statements apart). THE CARD IS WHAT COUNTS. Prove the row's statement (the work); the ties are given (YtkafojdjadnfaaaDoorTie.lean); close each card by the builder's one call (the guide's Derived/Test/ToyasCard.lean, 'card_holds'). Laid BY PROGRAM, IN A SANDBOX (cutbox-door.mjs). By AI agents, Wed Nov 11 2026. No macro, syntax, notation, axiom, sorry.
-/
import Derived.Test.YtkafojdjadnfaaaDoorRows
import GoSem.ClaimSeven
namespace Go.Proofs.YtkafojdjadnfaaaDoor
namespace Rows

/-- THE TIED CARD OF 'laws.FnLinesBut'. -/
def fnLinesButCard : Claim7 := { stood := { row := fnLinesButRow, standIns := [], harness := (true, "e61fb1f090193e5c17115ce0a6a746a4f6322da1e912ac36ffe6a35d5e1a92da"), looks := true }, kinds := [], alts := [], laidByText := true, laidKinds := [.sentinel, .sentinel, .sentinel, .sentinel, .sentinel, .sentinel, .sentinel, .sentinel], laidTests := true, laidLooks := .later }
def FnLinesButCardSaid : Prop := Claim7.holds Tryd.pinned (.plain (OpenSpec.ofChange fnLinesButSpec)) fnLinesButCard

/-- THE TIED CARD OF 'laws.FnLinesWithin'. -/
def fnLinesWithinCard : Claim7 := { stood := { row := fnLinesWithinRow, standIns := [], harness := (true, "e61fb1f090193e5c17115ce0a6a746a4f6322da1e912ac36ffe6a35d5e1a92da"), looks := true }, kinds := [], alts := [], laidByText := true, laidKinds := [.sentinel, .sentinel, .sentinel, .sentinel, .sentinel, .sentinel, .sentinel, .sentinel], laidTests := true, laidLooks := .later }
def FnLinesWithinCardSaid : Prop := Claim7.holds Tryd.pinned (.plain (OpenSpec.ofChange fnLinesWithinSpec)) fnLinesWithinCard

/-- THE TIED CARD OF 'laws.FnLinesErr'. -/
def fnLinesErrCard : Claim7 := { stood := { row := fnLinesErrRow, standIns := [], harness := (true, "e61fb1f090193e5c17115ce0a6a746a4f6322da1e912ac36ffe6a35d5e1a92da"), looks := true }, kinds := [], alts := [], laidByText := true, laidKinds := [.sentinel, .sentinel, .sentinel, .sentinel, .sentinel, .sentinel, .sentinel, .sentinel, .sentinel], laidTests := true, laidLooks := .later }
def FnLinesErrCardSaid : Prop := Claim7.holds Tryd.pinned (.plain (OpenSpec.ofChange fnLinesErrSpec)) fnLinesErrCard

/-- THE TIED CARD OF 'laws.FnLineStepMore'. -/
def fnLineStepMoreCard : Claim7 := { stood := { row := fnLineStepMoreRow, standIns := [], harness := (true, "e61fb1f090193e5c17115ce0a6a746a4f6322da1e912ac36ffe6a35d5e1a92da"), looks := true }, kinds := [], alts := [], laidByText := true, laidKinds := [.sentinel, .sentinel, .sentinel, .sentinel, .sentinel, .sentinel, .sentinel, .sentinel, .sentinel], laidTests := true, laidLooks := .later }
def FnLineStepMoreCardSaid : Prop := Claim7.holds Tryd.pinned (.plain (OpenSpec.ofChange fnLineStepMoreSpec)) fnLineStepMoreCard

/-- THE TIED CARD OF 'laws.FnLineSteps'. -/
def fnLineStepsCard : Claim7 := { stood := { row := fnLineStepsRow, standIns := [], harness := (true, "e61fb1f090193e5c17115ce0a6a746a4f6322da1e912ac36ffe6a35d5e1a92da"), looks := true }, kinds := [], alts := [], laidByText := true, laidKinds := [.sentinel, .sentinel, .sentinel, .sentinel, .sentinel, .sentinel, .sentinel, .sentinel, .sentinel], laidTests := true, laidLooks := .later }
def FnLineStepsCardSaid : Prop := Claim7.holds Tryd.pinned (.plain (OpenSpec.ofChange fnLineStepsSpec)) fnLineStepsCard

/-- THE TIED CARD OF 'laws.FnLinesPieces'. -/
def fnLinesPiecesCard : Claim7 := { stood := { row := fnLinesPiecesRow, standIns := [], harness := (true, "e61fb1f090193e5c17115ce0a6a746a4f6322da1e912ac36ffe6a35d5e1a92da"), looks := true }, kinds := [], alts := [], laidByText := true, laidKinds := [.sentinel, .sentinel, .sentinel, .sentinel, .sentinel, .sentinel, .sentinel, .sentinel, .sentinel], laidTests := true, laidLooks := .later }
def FnLinesPiecesCardSaid : Prop := Claim7.holds Tryd.pinned (.plain (OpenSpec.ofChange fnLinesPiecesSpec)) fnLinesPiecesCard

/-- THE TIED CARD OF 'laws.FnWordsPieces'. -/
def fnWordsPiecesCard : Claim7 := { stood := { row := fnWordsPiecesRow, standIns := [], harness := (true, "e61fb1f090193e5c17115ce0a6a746a4f6322da1e912ac36ffe6a35d5e1a92da"), looks := true }, kinds := [], alts := [], laidByText := true, laidKinds := [.data, .sentinel, .sentinel, .sentinel, .sentinel, .sentinel, .sentinel, .sentinel, .sentinel, .sentinel, .pinned], laidTests := true, laidLooks := .later }
def FnWordsPiecesCardSaid : Prop := Claim7.holds Tryd.pinned (.plain (OpenSpec.ofChange fnWordsPiecesSpec)) fnWordsPiecesCard

/-- THE TIED CARD OF 'laws.FnWordsTooLong'. -/
def fnWordsTooLongCard : Claim7 := { stood := { row := fnWordsTooLongRow, standIns := [], harness := (true, "e61fb1f090193e5c17115ce0a6a746a4f6322da1e912ac36ffe6a35d5e1a92da"), looks := true }, kinds := [], alts := [], laidByText := true, laidKinds := [.data, .sentinel, .sentinel, .sentinel, .sentinel, .sentinel, .sentinel, .sentinel, .sentinel, .sentinel, .pinned], laidTests := true, laidLooks := .later }
def FnWordsTooLongCardSaid : Prop := Claim7.holds Tryd.pinned (.plain (OpenSpec.ofChange fnWordsTooLongSpec)) fnWordsTooLongCard

/-- THE TIED CARD OF 'laws.FnWords'. -/
def fnWordsCard : Claim7 := { stood := { row := fnWordsRow, standIns := [], harness := (true, "e61fb1f090193e5c17115ce0a6a746a4f6322da1e912ac36ffe6a35d5e1a92da"), looks := true }, kinds := [], alts := [], laidByText := true, laidKinds := [.data, .sentinel, .sentinel, .sentinel, .sentinel, .sentinel, .sentinel, .sentinel, .sentinel, .pinned], laidTests := true, laidLooks := .later }
def FnWordsCardSaid : Prop := Claim7.holds Tryd.pinned (.plain (OpenSpec.ofChange fnWordsSpec)) fnWordsCard

/-- THE TIED CARD OF 'laws.FnWordsErr'. -/
def fnWordsErrCard : Claim7 := { stood := { row := fnWordsErrRow, standIns := [], harness := (true, "e61fb1f090193e5c17115ce0a6a746a4f6322da1e912ac36ffe6a35d5e1a92da"), looks := true }, kinds := [], alts := [], laidByText := true, laidKinds := [.data, .sentinel, .sentinel, .sentinel, .sentinel, .sentinel, .sentinel, .sentinel, .sentinel, .sentinel, .pinned], laidTests := true, laidLooks := .later }
def FnWordsErrCardSaid : Prop := Claim7.holds Tryd.pinned (.plain (OpenSpec.ofChange fnWordsErrSpec)) fnWordsErrCard

/-- THE TIED CARD OF 'laws.FnWordsBroken'. -/
def fnWordsBrokenCard : Claim7 := { stood := { row := fnWordsBrokenRow, standIns := [], harness := (true, "e61fb1f090193e5c17115ce0a6a746a4f6322da1e912ac36ffe6a35d5e1a92da"), looks := true }, kinds := [], alts := [], laidByText := true, laidKinds := [.data, .sentinel, .sentinel, .sentinel, .sentinel, .sentinel, .sentinel, .sentinel, .sentinel, .sentinel, .pinned], laidTests := true, laidLooks := .later }
def FnWordsBrokenCardSaid : Prop := Claim7.holds Tryd.pinned (.plain (OpenSpec.ofChange fnWordsBrokenSpec)) fnWordsBrokenCard

/-- THE TIED CARD OF 'laws.FnWordsFrom'. -/
def fnWordsFromCard : Claim7 := { stood := { row := fnWordsFromRow, standIns := [], harness := (true, "e61fb1f090193e5c17115ce0a6a746a4f6322da1e912ac36ffe6a35d5e1a92da"), looks := true }, kinds := [], alts := [], laidByText := true, laidKinds := [.data, .sentinel, .sentinel, .sentinel, .sentinel, .sentinel, .sentinel, .sentinel, .sentinel, .sentinel, .pinned], laidTests := true, laidLooks := .later }
def FnWordsFromCardSaid : Prop := Claim7.holds Tryd.pinned (.plain (OpenSpec.ofChange fnWordsFromSpec)) fnWordsFromCard

/-- THE SECOND FORM's CARD OF 'laws.FnLinesBut'. -/
def fnLinesButUptoCard : Claim7 := { stood := { row := fnLinesButUptoRow, standIns := [], harness := (true, "e61fb1f090193e5c17115ce0a6a746a4f6322da1e912ac36ffe6a35d5e1a92da"), looks := true }, kinds := [], alts := [], laidByText := true, laidKinds := [.sentinel, .sentinel, .sentinel, .sentinel, .sentinel, .sentinel, .sentinel, .sentinel], laidTests := true, laidLooks := .later }
def FnLinesButUptoCardSaid : Prop := Claim7.holds Tryd.pinned (.plain (OpenSpec.upto fnLinesButSpec)) fnLinesButUptoCard

/-- THE SECOND FORM's CARD OF 'laws.FnLinesWithin'. -/
def fnLinesWithinUptoCard : Claim7 := { stood := { row := fnLinesWithinUptoRow, standIns := [], harness := (true, "e61fb1f090193e5c17115ce0a6a746a4f6322da1e912ac36ffe6a35d5e1a92da"), looks := true }, kinds := [], alts := [], laidByText := true, laidKinds := [.sentinel, .sentinel, .sentinel, .sentinel, .sentinel, .sentinel, .sentinel, .sentinel], laidTests := true, laidLooks := .later }
def FnLinesWithinUptoCardSaid : Prop := Claim7.holds Tryd.pinned (.plain (OpenSpec.upto fnLinesWithinSpec)) fnLinesWithinUptoCard

/-- THE SECOND FORM's CARD OF 'laws.FnLinesErr'. -/
def fnLinesErrUptoCard : Claim7 := { stood := { row := fnLinesErrUptoRow, standIns := [], harness := (true, "e61fb1f090193e5c17115ce0a6a746a4f6322da1e912ac36ffe6a35d5e1a92da"), looks := true }, kinds := [], alts := [], laidByText := true, laidKinds := [.sentinel, .sentinel, .sentinel, .sentinel, .sentinel, .sentinel, .sentinel, .sentinel, .sentinel], laidTests := true, laidLooks := .later }
def FnLinesErrUptoCardSaid : Prop := Claim7.holds Tryd.pinned (.plain (OpenSpec.upto fnLinesErrSpec)) fnLinesErrUptoCard

/-- THE SECOND FORM's CARD OF 'laws.FnLineStepMore'. -/
def fnLineStepMoreUptoCard : Claim7 := { stood := { row := fnLineStepMoreUptoRow, standIns := [], harness := (true, "e61fb1f090193e5c17115ce0a6a746a4f6322da1e912ac36ffe6a35d5e1a92da"), looks := true }, kinds := [], alts := [], laidByText := true, laidKinds := [.sentinel, .sentinel, .sentinel, .sentinel, .sentinel, .sentinel, .sentinel, .sentinel, .sentinel], laidTests := true, laidLooks := .later }
def FnLineStepMoreUptoCardSaid : Prop := Claim7.holds Tryd.pinned (.plain (OpenSpec.upto fnLineStepMoreSpec)) fnLineStepMoreUptoCard

/-- THE SECOND FORM's CARD OF 'laws.FnLineSteps'. -/
def fnLineStepsUptoCard : Claim7 := { stood := { row := fnLineStepsUptoRow, standIns := [], harness := (true, "e61fb1f090193e5c17115ce0a6a746a4f6322da1e912ac36ffe6a35d5e1a92da"), looks := true }, kinds := [], alts := [], laidByText := true, laidKinds := [.sentinel, .sentinel, .sentinel, .sentinel, .sentinel, .sentinel, .sentinel, .sentinel, .sentinel], laidTests := true, laidLooks := .later }
def FnLineStepsUptoCardSaid : Prop := Claim7.holds Tryd.pinned (.plain (OpenSpec.upto fnLineStepsSpec)) fnLineStepsUptoCard

/-- THE SECOND FORM's CARD OF 'laws.FnLinesPieces'. -/
def fnLinesPiecesUptoCard : Claim7 := { stood := { row := fnLinesPiecesUptoRow, standIns := [], harness := (true, "e61fb1f090193e5c17115ce0a6a746a4f6322da1e912ac36ffe6a35d5e1a92da"), looks := true }, kinds := [], alts := [], laidByText := true, laidKinds := [.sentinel, .sentinel, .sentinel, .sentinel, .sentinel, .sentinel, .sentinel, .sentinel, .sentinel], laidTests := true, laidLooks := .later }
def FnLinesPiecesUptoCardSaid : Prop := Claim7.holds Tryd.pinned (.plain (OpenSpec.upto fnLinesPiecesSpec)) fnLinesPiecesUptoCard

/-- THE SECOND FORM's CARD OF 'laws.FnWordsPieces'. -/
def fnWordsPiecesUptoCard : Claim7 := { stood := { row := fnWordsPiecesUptoRow, standIns := [], harness := (true, "e61fb1f090193e5c17115ce0a6a746a4f6322da1e912ac36ffe6a35d5e1a92da"), looks := true }, kinds := [], alts := [], laidByText := true, laidKinds := [.data, .sentinel, .sentinel, .sentinel, .sentinel, .sentinel, .sentinel, .sentinel, .sentinel, .sentinel, .pinned], laidTests := true, laidLooks := .later }
def FnWordsPiecesUptoCardSaid : Prop := Claim7.holds Tryd.pinned (.plain (OpenSpec.upto fnWordsPiecesSpec)) fnWordsPiecesUptoCard

/-- THE SECOND FORM's CARD OF 'laws.FnWordsTooLong'. -/
def fnWordsTooLongUptoCard : Claim7 := { stood := { row := fnWordsTooLongUptoRow, standIns := [], harness := (true, "e61fb1f090193e5c17115ce0a6a746a4f6322da1e912ac36ffe6a35d5e1a92da"), looks := true }, kinds := [], alts := [], laidByText := true, laidKinds := [.data, .sentinel, .sentinel, .sentinel, .sentinel, .sentinel, .sentinel, .sentinel, .sentinel, .sentinel, .pinned], laidTests := true, laidLooks := .later }
def FnWordsTooLongUptoCardSaid : Prop := Claim7.holds Tryd.pinned (.plain (OpenSpec.upto fnWordsTooLongSpec)) fnWordsTooLongUptoCard

/-- THE SECOND FORM's CARD OF 'laws.FnWords'. -/
def fnWordsUptoCard : Claim7 := { stood := { row := fnWordsUptoRow, standIns := [], harness := (true, "e61fb1f090193e5c17115ce0a6a746a4f6322da1e912ac36ffe6a35d5e1a92da"), looks := true }, kinds := [], alts := [], laidByText := true, laidKinds := [.data, .sentinel, .sentinel, .sentinel, .sentinel, .sentinel, .sentinel, .sentinel, .sentinel, .pinned], laidTests := true, laidLooks := .later }
def FnWordsUptoCardSaid : Prop := Claim7.holds Tryd.pinned (.plain (OpenSpec.upto fnWordsSpec)) fnWordsUptoCard

/-- THE SECOND FORM's CARD OF 'laws.FnWordsErr'. -/
def fnWordsErrUptoCard : Claim7 := { stood := { row := fnWordsErrUptoRow, standIns := [], harness := (true, "e61fb1f090193e5c17115ce0a6a746a4f6322da1e912ac36ffe6a35d5e1a92da"), looks := true }, kinds := [], alts := [], laidByText := true, laidKinds := [.data, .sentinel, .sentinel, .sentinel, .sentinel, .sentinel, .sentinel, .sentinel, .sentinel, .sentinel, .pinned], laidTests := true, laidLooks := .later }
def FnWordsErrUptoCardSaid : Prop := Claim7.holds Tryd.pinned (.plain (OpenSpec.upto fnWordsErrSpec)) fnWordsErrUptoCard

/-- THE SECOND FORM's CARD OF 'laws.FnWordsBroken'. -/
def fnWordsBrokenUptoCard : Claim7 := { stood := { row := fnWordsBrokenUptoRow, standIns := [], harness := (true, "e61fb1f090193e5c17115ce0a6a746a4f6322da1e912ac36ffe6a35d5e1a92da"), looks := true }, kinds := [], alts := [], laidByText := true, laidKinds := [.data, .sentinel, .sentinel, .sentinel, .sentinel, .sentinel, .sentinel, .sentinel, .sentinel, .sentinel, .pinned], laidTests := true, laidLooks := .later }
def FnWordsBrokenUptoCardSaid : Prop := Claim7.holds Tryd.pinned (.plain (OpenSpec.upto fnWordsBrokenSpec)) fnWordsBrokenUptoCard

/-- THE SECOND FORM's CARD OF 'laws.FnWordsFrom'. -/
def fnWordsFromUptoCard : Claim7 := { stood := { row := fnWordsFromUptoRow, standIns := [], harness := (true, "e61fb1f090193e5c17115ce0a6a746a4f6322da1e912ac36ffe6a35d5e1a92da"), looks := true }, kinds := [], alts := [], laidByText := true, laidKinds := [.data, .sentinel, .sentinel, .sentinel, .sentinel, .sentinel, .sentinel, .sentinel, .sentinel, .sentinel, .pinned], laidTests := true, laidLooks := .later }
def FnWordsFromUptoCardSaid : Prop := Claim7.holds Tryd.pinned (.plain (OpenSpec.upto fnWordsFromSpec)) fnWordsFromUptoCard
end Rows
end Go.Proofs.YtkafojdjadnfaaaDoor
