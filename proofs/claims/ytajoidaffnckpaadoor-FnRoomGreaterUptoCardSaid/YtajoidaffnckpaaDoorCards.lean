/-
  DERIVED. GIVEN WITH THE SEED: THE CARDS: each row of YtajoidaffnckpaaDoorRows.lean that lists a variable, with what it lists TIED to the program's text (the seventh form; the later family's looks); each row that meets fmt, with fmt's text TOLD by the authors' own Lean function (tested against real Go, not proved from fmt's source: count such statements apart). THE CARD IS WHAT COUNTS. Prove the row's statement (the work); the ties are given (YtajoidaffnckpaaDoorTie.lean); close each card by the builder's one call (the guide's Derived/Test/ToyasCard.lean, 'card_holds'). Laid BY PROGRAM, IN A SANDBOX (cutbox-door.mjs). By AI agents, Wed Nov 11 2026. No macro, syntax, notation, axiom, sorry.
-/
import Derived.Test.YtajoidaffnckpaaDoorRows
import GoSem.ClaimSeven
namespace Go.Proofs.YtajoidaffnckpaaDoor
namespace Rows

/-- THE TIED CARD OF 'laws.FnLinesBut'. -/
def fnLinesButCard : Claim7 := { stood := { row := fnLinesButRow, standIns := [], harness := (true, "95403620ac1e28585a3e5dca2f92673a1a846b036d606de837118608ddd0ba64"), looks := true }, kinds := [], alts := [], laidByText := true, laidKinds := [.sentinel, .sentinel, .sentinel, .sentinel, .sentinel, .sentinel, .sentinel, .sentinel], laidTests := true, laidLooks := .later }
def FnLinesButCardSaid : Prop := Claim7.holds Tryd.pinned (.plain (OpenSpec.ofChange fnLinesButSpec)) fnLinesButCard

/-- THE TIED CARD OF 'laws.FnLinesWithin'. -/
def fnLinesWithinCard : Claim7 := { stood := { row := fnLinesWithinRow, standIns := [], harness := (true, "95403620ac1e28585a3e5dca2f92673a1a846b036d606de837118608ddd0ba64"), looks := true }, kinds := [], alts := [], laidByText := true, laidKinds := [.sentinel, .sentinel, .sentinel, .sentinel, .sentinel, .sentinel, .sentinel, .sentinel], laidTests := true, laidLooks := .later }
def FnLinesWithinCardSaid : Prop := Claim7.holds Tryd.pinned (.plain (OpenSpec.ofChange fnLinesWithinSpec)) fnLinesWithinCard

/-- THE TIED CARD OF 'laws.FnLinesSplit'. -/
def fnLinesSplitCard : Claim7 := { stood := { row := fnLinesSplitRow, standIns := [], harness := (true, "95403620ac1e28585a3e5dca2f92673a1a846b036d606de837118608ddd0ba64"), looks := true }, kinds := [], alts := [], laidByText := true, laidKinds := [.sentinel, .sentinel, .sentinel, .sentinel, .sentinel, .sentinel, .sentinel, .sentinel], laidTests := true, laidLooks := .later }
def FnLinesSplitCardSaid : Prop := Claim7.holds Tryd.pinned (.plain (OpenSpec.ofChange fnLinesSplitSpec)) fnLinesSplitCard

/-- THE TIED CARD OF 'laws.FnLinesErr'. -/
def fnLinesErrCard : Claim7 := { stood := { row := fnLinesErrRow, standIns := [], harness := (true, "95403620ac1e28585a3e5dca2f92673a1a846b036d606de837118608ddd0ba64"), looks := true }, kinds := [], alts := [], laidByText := true, laidKinds := [.sentinel, .sentinel, .sentinel, .sentinel, .sentinel, .sentinel, .sentinel, .sentinel, .sentinel], laidTests := true, laidLooks := .later }
def FnLinesErrCardSaid : Prop := Claim7.holds Tryd.pinned (.plain (OpenSpec.ofChange fnLinesErrSpec)) fnLinesErrCard

/-- THE TIED CARD OF 'laws.FnLineStepMore'. -/
def fnLineStepMoreCard : Claim7 := { stood := { row := fnLineStepMoreRow, standIns := [], harness := (true, "95403620ac1e28585a3e5dca2f92673a1a846b036d606de837118608ddd0ba64"), looks := true }, kinds := [], alts := [], laidByText := true, laidKinds := [.sentinel, .sentinel, .sentinel, .sentinel, .sentinel, .sentinel, .sentinel, .sentinel, .sentinel], laidTests := true, laidLooks := .later }
def FnLineStepMoreCardSaid : Prop := Claim7.holds Tryd.pinned (.plain (OpenSpec.ofChange fnLineStepMoreSpec)) fnLineStepMoreCard

/-- THE TIED CARD OF 'laws.FnLineSteps'. -/
def fnLineStepsCard : Claim7 := { stood := { row := fnLineStepsRow, standIns := [], harness := (true, "95403620ac1e28585a3e5dca2f92673a1a846b036d606de837118608ddd0ba64"), looks := true }, kinds := [], alts := [], laidByText := true, laidKinds := [.sentinel, .sentinel, .sentinel, .sentinel, .sentinel, .sentinel, .sentinel, .sentinel, .sentinel], laidTests := true, laidLooks := .later }
def FnLineStepsCardSaid : Prop := Claim7.holds Tryd.pinned (.plain (OpenSpec.ofChange fnLineStepsSpec)) fnLineStepsCard

/-- THE TIED CARD OF 'laws.FnLinesAllOfBroken'. -/
def fnLinesAllOfBrokenCard : Claim7 := { stood := { row := fnLinesAllOfBrokenRow, standIns := [], harness := (true, "95403620ac1e28585a3e5dca2f92673a1a846b036d606de837118608ddd0ba64"), looks := true }, kinds := [], alts := [], laidByText := true, laidKinds := [.sentinel, .sentinel, .sentinel, .sentinel, .sentinel, .sentinel, .sentinel, .sentinel, .sentinel], laidTests := true, laidLooks := .later }
def FnLinesAllOfBrokenCardSaid : Prop := Claim7.holds Tryd.pinned (.plain (OpenSpec.ofChange fnLinesAllOfBrokenSpec)) fnLinesAllOfBrokenCard

/-- THE TIED CARD OF 'laws.FnLinesBroken'. -/
def fnLinesBrokenCard : Claim7 := { stood := { row := fnLinesBrokenRow, standIns := [], harness := (true, "95403620ac1e28585a3e5dca2f92673a1a846b036d606de837118608ddd0ba64"), looks := true }, kinds := [], alts := [], laidByText := true, laidKinds := [.sentinel, .sentinel, .sentinel, .sentinel, .sentinel, .sentinel, .sentinel, .sentinel, .sentinel], laidTests := true, laidLooks := .later }
def FnLinesBrokenCardSaid : Prop := Claim7.holds Tryd.pinned (.plain (OpenSpec.ofChange fnLinesBrokenSpec)) fnLinesBrokenCard

/-- THE TIED CARD OF 'laws.FnLinesFrom'. -/
def fnLinesFromCard : Claim7 := { stood := { row := fnLinesFromRow, standIns := [], harness := (true, "95403620ac1e28585a3e5dca2f92673a1a846b036d606de837118608ddd0ba64"), looks := true }, kinds := [], alts := [], laidByText := true, laidKinds := [.sentinel, .sentinel, .sentinel, .sentinel, .sentinel, .sentinel, .sentinel, .sentinel, .sentinel], laidTests := true, laidLooks := .later }
def FnLinesFromCardSaid : Prop := Claim7.holds Tryd.pinned (.plain (OpenSpec.ofChange fnLinesFromSpec)) fnLinesFromCard

/-- THE TIED CARD OF 'laws.FnLinesPieces'. -/
def fnLinesPiecesCard : Claim7 := { stood := { row := fnLinesPiecesRow, standIns := [], harness := (true, "95403620ac1e28585a3e5dca2f92673a1a846b036d606de837118608ddd0ba64"), looks := true }, kinds := [], alts := [], laidByText := true, laidKinds := [.sentinel, .sentinel, .sentinel, .sentinel, .sentinel, .sentinel, .sentinel, .sentinel, .sentinel], laidTests := true, laidLooks := .later }
def FnLinesPiecesCardSaid : Prop := Claim7.holds Tryd.pinned (.plain (OpenSpec.ofChange fnLinesPiecesSpec)) fnLinesPiecesCard

/-- THE TIED CARD OF 'laws.FnLinesTooLong'. -/
def fnLinesTooLongCard : Claim7 := { stood := { row := fnLinesTooLongRow, standIns := [], harness := (true, "95403620ac1e28585a3e5dca2f92673a1a846b036d606de837118608ddd0ba64"), looks := true }, kinds := [], alts := [], laidByText := true, laidKinds := [.sentinel, .sentinel, .sentinel, .sentinel, .sentinel, .sentinel, .sentinel, .sentinel, .sentinel], laidTests := true, laidLooks := .later }
def FnLinesTooLongCardSaid : Prop := Claim7.holds Tryd.pinned (.plain (OpenSpec.ofChange fnLinesTooLongSpec)) fnLinesTooLongCard

/-- THE TIED CARD OF 'laws.FnRoomGreater'. -/
def fnRoomGreaterCard : Claim7 := { stood := { row := fnRoomGreaterRow, standIns := [], harness := (true, "95403620ac1e28585a3e5dca2f92673a1a846b036d606de837118608ddd0ba64"), looks := true }, kinds := [], alts := [], laidByText := true, laidKinds := [.sentinel, .sentinel, .sentinel, .sentinel, .sentinel, .sentinel, .sentinel, .sentinel, .sentinel], laidTests := true, laidLooks := .later }
def FnRoomGreaterCardSaid : Prop := Claim7.holds Tryd.pinned (.plain (OpenSpec.ofChange fnRoomGreaterSpec)) fnRoomGreaterCard

/-- THE SECOND FORM's CARD OF 'laws.FnLinesBut'. -/
def fnLinesButUptoCard : Claim7 := { stood := { row := fnLinesButUptoRow, standIns := [], harness := (true, "95403620ac1e28585a3e5dca2f92673a1a846b036d606de837118608ddd0ba64"), looks := true }, kinds := [], alts := [], laidByText := true, laidKinds := [.sentinel, .sentinel, .sentinel, .sentinel, .sentinel, .sentinel, .sentinel, .sentinel], laidTests := true, laidLooks := .later }
def FnLinesButUptoCardSaid : Prop := Claim7.holds Tryd.pinned (.plain (OpenSpec.upto fnLinesButSpec)) fnLinesButUptoCard

/-- THE SECOND FORM's CARD OF 'laws.FnLinesWithin'. -/
def fnLinesWithinUptoCard : Claim7 := { stood := { row := fnLinesWithinUptoRow, standIns := [], harness := (true, "95403620ac1e28585a3e5dca2f92673a1a846b036d606de837118608ddd0ba64"), looks := true }, kinds := [], alts := [], laidByText := true, laidKinds := [.sentinel, .sentinel, .sentinel, .sentinel, .sentinel, .sentinel, .sentinel, .sentinel], laidTests := true, laidLooks := .later }
def FnLinesWithinUptoCardSaid : Prop := Claim7.holds Tryd.pinned (.plain (OpenSpec.upto fnLinesWithinSpec)) fnLinesWithinUptoCard

/-- THE SECOND FORM's CARD OF 'laws.FnLinesSplit'. -/
def fnLinesSplitUptoCard : Claim7 := { stood := { row := fnLinesSplitUptoRow, standIns := [], harness := (true, "95403620ac1e28585a3e5dca2f92673a1a846b036d606de837118608ddd0ba64"), looks := true }, kinds := [], alts := [], laidByText := true, laidKinds := [.sentinel, .sentinel, .sentinel, .sentinel, .sentinel, .sentinel, .sentinel, .sentinel], laidTests := true, laidLooks := .later }
def FnLinesSplitUptoCardSaid : Prop := Claim7.holds Tryd.pinned (.plain (OpenSpec.upto fnLinesSplitSpec)) fnLinesSplitUptoCard

/-- THE SECOND FORM's CARD OF 'laws.FnLinesErr'. -/
def fnLinesErrUptoCard : Claim7 := { stood := { row := fnLinesErrUptoRow, standIns := [], harness := (true, "95403620ac1e28585a3e5dca2f92673a1a846b036d606de837118608ddd0ba64"), looks := true }, kinds := [], alts := [], laidByText := true, laidKinds := [.sentinel, .sentinel, .sentinel, .sentinel, .sentinel, .sentinel, .sentinel, .sentinel, .sentinel], laidTests := true, laidLooks := .later }
def FnLinesErrUptoCardSaid : Prop := Claim7.holds Tryd.pinned (.plain (OpenSpec.upto fnLinesErrSpec)) fnLinesErrUptoCard

/-- THE SECOND FORM's CARD OF 'laws.FnLineStepMore'. -/
def fnLineStepMoreUptoCard : Claim7 := { stood := { row := fnLineStepMoreUptoRow, standIns := [], harness := (true, "95403620ac1e28585a3e5dca2f92673a1a846b036d606de837118608ddd0ba64"), looks := true }, kinds := [], alts := [], laidByText := true, laidKinds := [.sentinel, .sentinel, .sentinel, .sentinel, .sentinel, .sentinel, .sentinel, .sentinel, .sentinel], laidTests := true, laidLooks := .later }
def FnLineStepMoreUptoCardSaid : Prop := Claim7.holds Tryd.pinned (.plain (OpenSpec.upto fnLineStepMoreSpec)) fnLineStepMoreUptoCard

/-- THE SECOND FORM's CARD OF 'laws.FnLineSteps'. -/
def fnLineStepsUptoCard : Claim7 := { stood := { row := fnLineStepsUptoRow, standIns := [], harness := (true, "95403620ac1e28585a3e5dca2f92673a1a846b036d606de837118608ddd0ba64"), looks := true }, kinds := [], alts := [], laidByText := true, laidKinds := [.sentinel, .sentinel, .sentinel, .sentinel, .sentinel, .sentinel, .sentinel, .sentinel, .sentinel], laidTests := true, laidLooks := .later }
def FnLineStepsUptoCardSaid : Prop := Claim7.holds Tryd.pinned (.plain (OpenSpec.upto fnLineStepsSpec)) fnLineStepsUptoCard

/-- THE SECOND FORM's CARD OF 'laws.FnLinesAllOfBroken'. -/
def fnLinesAllOfBrokenUptoCard : Claim7 := { stood := { row := fnLinesAllOfBrokenUptoRow, standIns := [], harness := (true, "95403620ac1e28585a3e5dca2f92673a1a846b036d606de837118608ddd0ba64"), looks := true }, kinds := [], alts := [], laidByText := true, laidKinds := [.sentinel, .sentinel, .sentinel, .sentinel, .sentinel, .sentinel, .sentinel, .sentinel, .sentinel], laidTests := true, laidLooks := .later }
def FnLinesAllOfBrokenUptoCardSaid : Prop := Claim7.holds Tryd.pinned (.plain (OpenSpec.upto fnLinesAllOfBrokenSpec)) fnLinesAllOfBrokenUptoCard

/-- THE SECOND FORM's CARD OF 'laws.FnLinesBroken'. -/
def fnLinesBrokenUptoCard : Claim7 := { stood := { row := fnLinesBrokenUptoRow, standIns := [], harness := (true, "95403620ac1e28585a3e5dca2f92673a1a846b036d606de837118608ddd0ba64"), looks := true }, kinds := [], alts := [], laidByText := true, laidKinds := [.sentinel, .sentinel, .sentinel, .sentinel, .sentinel, .sentinel, .sentinel, .sentinel, .sentinel], laidTests := true, laidLooks := .later }
def FnLinesBrokenUptoCardSaid : Prop := Claim7.holds Tryd.pinned (.plain (OpenSpec.upto fnLinesBrokenSpec)) fnLinesBrokenUptoCard

/-- THE SECOND FORM's CARD OF 'laws.FnLinesFrom'. -/
def fnLinesFromUptoCard : Claim7 := { stood := { row := fnLinesFromUptoRow, standIns := [], harness := (true, "95403620ac1e28585a3e5dca2f92673a1a846b036d606de837118608ddd0ba64"), looks := true }, kinds := [], alts := [], laidByText := true, laidKinds := [.sentinel, .sentinel, .sentinel, .sentinel, .sentinel, .sentinel, .sentinel, .sentinel, .sentinel], laidTests := true, laidLooks := .later }
def FnLinesFromUptoCardSaid : Prop := Claim7.holds Tryd.pinned (.plain (OpenSpec.upto fnLinesFromSpec)) fnLinesFromUptoCard

/-- THE SECOND FORM's CARD OF 'laws.FnLinesPieces'. -/
def fnLinesPiecesUptoCard : Claim7 := { stood := { row := fnLinesPiecesUptoRow, standIns := [], harness := (true, "95403620ac1e28585a3e5dca2f92673a1a846b036d606de837118608ddd0ba64"), looks := true }, kinds := [], alts := [], laidByText := true, laidKinds := [.sentinel, .sentinel, .sentinel, .sentinel, .sentinel, .sentinel, .sentinel, .sentinel, .sentinel], laidTests := true, laidLooks := .later }
def FnLinesPiecesUptoCardSaid : Prop := Claim7.holds Tryd.pinned (.plain (OpenSpec.upto fnLinesPiecesSpec)) fnLinesPiecesUptoCard

/-- THE SECOND FORM's CARD OF 'laws.FnLinesTooLong'. -/
def fnLinesTooLongUptoCard : Claim7 := { stood := { row := fnLinesTooLongUptoRow, standIns := [], harness := (true, "95403620ac1e28585a3e5dca2f92673a1a846b036d606de837118608ddd0ba64"), looks := true }, kinds := [], alts := [], laidByText := true, laidKinds := [.sentinel, .sentinel, .sentinel, .sentinel, .sentinel, .sentinel, .sentinel, .sentinel, .sentinel], laidTests := true, laidLooks := .later }
def FnLinesTooLongUptoCardSaid : Prop := Claim7.holds Tryd.pinned (.plain (OpenSpec.upto fnLinesTooLongSpec)) fnLinesTooLongUptoCard

/-- THE SECOND FORM's CARD OF 'laws.FnRoomGreater'. -/
def fnRoomGreaterUptoCard : Claim7 := { stood := { row := fnRoomGreaterUptoRow, standIns := [], harness := (true, "95403620ac1e28585a3e5dca2f92673a1a846b036d606de837118608ddd0ba64"), looks := true }, kinds := [], alts := [], laidByText := true, laidKinds := [.sentinel, .sentinel, .sentinel, .sentinel, .sentinel, .sentinel, .sentinel, .sentinel, .sentinel], laidTests := true, laidLooks := .later }
def FnRoomGreaterUptoCardSaid : Prop := Claim7.holds Tryd.pinned (.plain (OpenSpec.upto fnRoomGreaterSpec)) fnRoomGreaterUptoCard
end Rows
end Go.Proofs.YtajoidaffnckpaaDoor
