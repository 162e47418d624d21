/-
  DERIVED. GIVEN WITH THE SEED: THE CARDS: each row of YtkghgjihaepnfaaDoorRows.lean that lists a variable, with what it lists TIED to the program's text (the seventh form; the later family's looks); each row that meets fmt, with fmt's text TOLD by the authors' own Lean function (tested against real Go, not proved from fmt's source: count such statements apart). THE CARD IS WHAT COUNTS. Prove the row's statement (the work); the ties are given (YtkghgjihaepnfaaDoorTie.lean); close each card by the builder's one call (the guide's Derived/Test/ToyasCard.lean, 'card_holds'). Laid BY PROGRAM, IN A SANDBOX (cutbox-door.mjs). By AI agents, Wed Nov 11 2026. No macro, syntax, notation, axiom, sorry.
-/
import Derived.Test.YtkghgjihaepnfaaDoorRows
import GoSem.ClaimSeven
namespace Go.Proofs.YtkghgjihaepnfaaDoor
namespace Rows

/-- THE TIED CARD OF 'laws.FnLineStep'. -/
def fnLineStepCard : Claim7 := { stood := { row := fnLineStepRow, standIns := [], harness := (true, "e9f0bd560ed1b5ee19f794f86a5e524379084b21420a0477f47e3c72625a8cc7"), looks := true }, kinds := [], alts := [], laidByText := true, laidKinds := [.sentinel, .sentinel, .sentinel, .sentinel, .sentinel], laidTests := true, laidLooks := .later }
def FnLineStepCardSaid : Prop := Claim7.holds Tryd.pinned (.plain (OpenSpec.ofChange fnLineStepSpec)) fnLineStepCard

/-- THE TIED CARD OF 'laws.FnExactErrEarly'. -/
def fnExactErrEarlyCard : Claim7 := { stood := { row := fnExactErrEarlyRow, standIns := [], harness := (true, "e9f0bd560ed1b5ee19f794f86a5e524379084b21420a0477f47e3c72625a8cc7"), looks := true }, kinds := [], alts := [], laidByText := true, laidKinds := [.sentinel, .sentinel], laidTests := true, laidLooks := .later }
def FnExactErrEarlyCardSaid : Prop := Claim7.holds Tryd.pinned (.plain (OpenSpec.ofChange fnExactErrEarlySpec)) fnExactErrEarlyCard

/-- THE TIED CARD OF 'laws.FnBufferStarted'. -/
def fnBufferStartedCard : Claim7 := { stood := { row := fnBufferStartedRow, standIns := [], harness := (true, "e9f0bd560ed1b5ee19f794f86a5e524379084b21420a0477f47e3c72625a8cc7"), looks := true }, kinds := [], alts := [], laidByText := true, laidKinds := [.sentinel, .sentinel, .sentinel, .sentinel, .sentinel, .sentinel, .sentinel, .sentinel], laidTests := true, laidLooks := .later }
def FnBufferStartedCardSaid : Prop := Claim7.holds Tryd.pinned (.plain (OpenSpec.ofChange fnBufferStartedSpec)) fnBufferStartedCard

/-- THE TIED CARD OF 'laws.FnLinesAfter'. -/
def fnLinesAfterCard : Claim7 := { stood := { row := fnLinesAfterRow, standIns := [], harness := (true, "e9f0bd560ed1b5ee19f794f86a5e524379084b21420a0477f47e3c72625a8cc7"), looks := true }, kinds := [], alts := [], laidByText := true, laidKinds := [.sentinel, .sentinel, .sentinel, .sentinel, .sentinel, .sentinel, .sentinel, .sentinel], laidTests := true, laidLooks := .later }
def FnLinesAfterCardSaid : Prop := Claim7.holds Tryd.pinned (.plain (OpenSpec.ofChange fnLinesAfterSpec)) fnLinesAfterCard

/-- THE TIED CARD OF 'laws.FnLinesBytes'. -/
def fnLinesBytesCard : Claim7 := { stood := { row := fnLinesBytesRow, standIns := [], harness := (true, "e9f0bd560ed1b5ee19f794f86a5e524379084b21420a0477f47e3c72625a8cc7"), looks := true }, kinds := [], alts := [], laidByText := true, laidKinds := [.sentinel, .sentinel, .sentinel, .sentinel, .sentinel, .sentinel, .sentinel, .sentinel], laidTests := true, laidLooks := .later }
def FnLinesBytesCardSaid : Prop := Claim7.holds Tryd.pinned (.plain (OpenSpec.ofChange fnLinesBytesSpec)) fnLinesBytesCard

/-- THE TIED CARD OF 'laws.FnTextTwice'. -/
def fnTextTwiceCard : Claim7 := { stood := { row := fnTextTwiceRow, standIns := [], harness := (true, "e9f0bd560ed1b5ee19f794f86a5e524379084b21420a0477f47e3c72625a8cc7"), looks := true }, kinds := [], alts := [], laidByText := true, laidKinds := [.sentinel, .sentinel, .sentinel, .sentinel, .sentinel, .sentinel, .sentinel, .sentinel], laidTests := true, laidLooks := .later }
def FnTextTwiceCardSaid : Prop := Claim7.holds Tryd.pinned (.plain (OpenSpec.ofChange fnTextTwiceSpec)) fnTextTwiceCard

/-- THE TIED CARD OF 'laws.FnLines'. -/
def fnLinesCard : Claim7 := { stood := { row := fnLinesRow, standIns := [], harness := (true, "e9f0bd560ed1b5ee19f794f86a5e524379084b21420a0477f47e3c72625a8cc7"), looks := true }, kinds := [], alts := [], laidByText := true, laidKinds := [.sentinel, .sentinel, .sentinel, .sentinel, .sentinel, .sentinel, .sentinel, .sentinel], laidTests := true, laidLooks := .later }
def FnLinesCardSaid : Prop := Claim7.holds Tryd.pinned (.plain (OpenSpec.ofChange fnLinesSpec)) fnLinesCard

/-- THE TIED CARD OF 'laws.FnLinesAgain'. -/
def fnLinesAgainCard : Claim7 := { stood := { row := fnLinesAgainRow, standIns := [], harness := (true, "e9f0bd560ed1b5ee19f794f86a5e524379084b21420a0477f47e3c72625a8cc7"), looks := true }, kinds := [], alts := [], laidByText := true, laidKinds := [.sentinel, .sentinel, .sentinel, .sentinel, .sentinel, .sentinel, .sentinel, .sentinel], laidTests := true, laidLooks := .later }
def FnLinesAgainCardSaid : Prop := Claim7.holds Tryd.pinned (.plain (OpenSpec.ofChange fnLinesAgainSpec)) fnLinesAgainCard

/-- THE TIED CARD OF 'laws.FnLinesJoined'. -/
def fnLinesJoinedCard : Claim7 := { stood := { row := fnLinesJoinedRow, standIns := [], harness := (true, "e9f0bd560ed1b5ee19f794f86a5e524379084b21420a0477f47e3c72625a8cc7"), looks := true }, kinds := [], alts := [], laidByText := true, laidKinds := [.sentinel, .sentinel, .sentinel, .sentinel, .sentinel, .sentinel, .sentinel, .sentinel], laidTests := true, laidLooks := .later }
def FnLinesJoinedCardSaid : Prop := Claim7.holds Tryd.pinned (.plain (OpenSpec.ofChange fnLinesJoinedSpec)) fnLinesJoinedCard

/-- THE TIED CARD OF 'laws.FnLinesLastReturn'. -/
def fnLinesLastReturnCard : Claim7 := { stood := { row := fnLinesLastReturnRow, standIns := [], harness := (true, "e9f0bd560ed1b5ee19f794f86a5e524379084b21420a0477f47e3c72625a8cc7"), looks := true }, kinds := [], alts := [], laidByText := true, laidKinds := [.sentinel, .sentinel, .sentinel, .sentinel, .sentinel, .sentinel, .sentinel, .sentinel], laidTests := true, laidLooks := .later }
def FnLinesLastReturnCardSaid : Prop := Claim7.holds Tryd.pinned (.plain (OpenSpec.ofChange fnLinesLastReturnSpec)) fnLinesLastReturnCard

/-- THE TIED CARD OF 'laws.FnLinesMany'. -/
def fnLinesManyCard : Claim7 := { stood := { row := fnLinesManyRow, standIns := [], harness := (true, "e9f0bd560ed1b5ee19f794f86a5e524379084b21420a0477f47e3c72625a8cc7"), looks := true }, kinds := [], alts := [], laidByText := true, laidKinds := [.sentinel, .sentinel, .sentinel, .sentinel, .sentinel, .sentinel, .sentinel, .sentinel], laidTests := true, laidLooks := .later }
def FnLinesManyCardSaid : Prop := Claim7.holds Tryd.pinned (.plain (OpenSpec.ofChange fnLinesManySpec)) fnLinesManyCard

/-- THE TIED CARD OF 'laws.FnLinesReturns'. -/
def fnLinesReturnsCard : Claim7 := { stood := { row := fnLinesReturnsRow, standIns := [], harness := (true, "e9f0bd560ed1b5ee19f794f86a5e524379084b21420a0477f47e3c72625a8cc7"), looks := true }, kinds := [], alts := [], laidByText := true, laidKinds := [.sentinel, .sentinel, .sentinel, .sentinel, .sentinel, .sentinel, .sentinel, .sentinel], laidTests := true, laidLooks := .later }
def FnLinesReturnsCardSaid : Prop := Claim7.holds Tryd.pinned (.plain (OpenSpec.ofChange fnLinesReturnsSpec)) fnLinesReturnsCard

/-- THE SECOND FORM's CARD OF 'laws.FnLineStep'. -/
def fnLineStepUptoCard : Claim7 := { stood := { row := fnLineStepUptoRow, standIns := [], harness := (true, "e9f0bd560ed1b5ee19f794f86a5e524379084b21420a0477f47e3c72625a8cc7"), looks := true }, kinds := [], alts := [], laidByText := true, laidKinds := [.sentinel, .sentinel, .sentinel, .sentinel, .sentinel], laidTests := true, laidLooks := .later }
def FnLineStepUptoCardSaid : Prop := Claim7.holds Tryd.pinned (.plain (OpenSpec.upto fnLineStepSpec)) fnLineStepUptoCard

/-- THE SECOND FORM's CARD OF 'laws.FnExactErrEarly'. -/
def fnExactErrEarlyUptoCard : Claim7 := { stood := { row := fnExactErrEarlyUptoRow, standIns := [], harness := (true, "e9f0bd560ed1b5ee19f794f86a5e524379084b21420a0477f47e3c72625a8cc7"), looks := true }, kinds := [], alts := [], laidByText := true, laidKinds := [.sentinel, .sentinel], laidTests := true, laidLooks := .later }
def FnExactErrEarlyUptoCardSaid : Prop := Claim7.holds Tryd.pinned (.plain (OpenSpec.upto fnExactErrEarlySpec)) fnExactErrEarlyUptoCard

/-- THE SECOND FORM's CARD OF 'laws.FnBufferStarted'. -/
def fnBufferStartedUptoCard : Claim7 := { stood := { row := fnBufferStartedUptoRow, standIns := [], harness := (true, "e9f0bd560ed1b5ee19f794f86a5e524379084b21420a0477f47e3c72625a8cc7"), looks := true }, kinds := [], alts := [], laidByText := true, laidKinds := [.sentinel, .sentinel, .sentinel, .sentinel, .sentinel, .sentinel, .sentinel, .sentinel], laidTests := true, laidLooks := .later }
def FnBufferStartedUptoCardSaid : Prop := Claim7.holds Tryd.pinned (.plain (OpenSpec.upto fnBufferStartedSpec)) fnBufferStartedUptoCard

/-- THE SECOND FORM's CARD OF 'laws.FnLinesAfter'. -/
def fnLinesAfterUptoCard : Claim7 := { stood := { row := fnLinesAfterUptoRow, standIns := [], harness := (true, "e9f0bd560ed1b5ee19f794f86a5e524379084b21420a0477f47e3c72625a8cc7"), looks := true }, kinds := [], alts := [], laidByText := true, laidKinds := [.sentinel, .sentinel, .sentinel, .sentinel, .sentinel, .sentinel, .sentinel, .sentinel], laidTests := true, laidLooks := .later }
def FnLinesAfterUptoCardSaid : Prop := Claim7.holds Tryd.pinned (.plain (OpenSpec.upto fnLinesAfterSpec)) fnLinesAfterUptoCard

/-- THE SECOND FORM's CARD OF 'laws.FnLinesBytes'. -/
def fnLinesBytesUptoCard : Claim7 := { stood := { row := fnLinesBytesUptoRow, standIns := [], harness := (true, "e9f0bd560ed1b5ee19f794f86a5e524379084b21420a0477f47e3c72625a8cc7"), looks := true }, kinds := [], alts := [], laidByText := true, laidKinds := [.sentinel, .sentinel, .sentinel, .sentinel, .sentinel, .sentinel, .sentinel, .sentinel], laidTests := true, laidLooks := .later }
def FnLinesBytesUptoCardSaid : Prop := Claim7.holds Tryd.pinned (.plain (OpenSpec.upto fnLinesBytesSpec)) fnLinesBytesUptoCard

/-- THE SECOND FORM's CARD OF 'laws.FnTextTwice'. -/
def fnTextTwiceUptoCard : Claim7 := { stood := { row := fnTextTwiceUptoRow, standIns := [], harness := (true, "e9f0bd560ed1b5ee19f794f86a5e524379084b21420a0477f47e3c72625a8cc7"), looks := true }, kinds := [], alts := [], laidByText := true, laidKinds := [.sentinel, .sentinel, .sentinel, .sentinel, .sentinel, .sentinel, .sentinel, .sentinel], laidTests := true, laidLooks := .later }
def FnTextTwiceUptoCardSaid : Prop := Claim7.holds Tryd.pinned (.plain (OpenSpec.upto fnTextTwiceSpec)) fnTextTwiceUptoCard

/-- THE SECOND FORM's CARD OF 'laws.FnLines'. -/
def fnLinesUptoCard : Claim7 := { stood := { row := fnLinesUptoRow, standIns := [], harness := (true, "e9f0bd560ed1b5ee19f794f86a5e524379084b21420a0477f47e3c72625a8cc7"), looks := true }, kinds := [], alts := [], laidByText := true, laidKinds := [.sentinel, .sentinel, .sentinel, .sentinel, .sentinel, .sentinel, .sentinel, .sentinel], laidTests := true, laidLooks := .later }
def FnLinesUptoCardSaid : Prop := Claim7.holds Tryd.pinned (.plain (OpenSpec.upto fnLinesSpec)) fnLinesUptoCard

/-- THE SECOND FORM's CARD OF 'laws.FnLinesAgain'. -/
def fnLinesAgainUptoCard : Claim7 := { stood := { row := fnLinesAgainUptoRow, standIns := [], harness := (true, "e9f0bd560ed1b5ee19f794f86a5e524379084b21420a0477f47e3c72625a8cc7"), looks := true }, kinds := [], alts := [], laidByText := true, laidKinds := [.sentinel, .sentinel, .sentinel, .sentinel, .sentinel, .sentinel, .sentinel, .sentinel], laidTests := true, laidLooks := .later }
def FnLinesAgainUptoCardSaid : Prop := Claim7.holds Tryd.pinned (.plain (OpenSpec.upto fnLinesAgainSpec)) fnLinesAgainUptoCard

/-- THE SECOND FORM's CARD OF 'laws.FnLinesJoined'. -/
def fnLinesJoinedUptoCard : Claim7 := { stood := { row := fnLinesJoinedUptoRow, standIns := [], harness := (true, "e9f0bd560ed1b5ee19f794f86a5e524379084b21420a0477f47e3c72625a8cc7"), looks := true }, kinds := [], alts := [], laidByText := true, laidKinds := [.sentinel, .sentinel, .sentinel, .sentinel, .sentinel, .sentinel, .sentinel, .sentinel], laidTests := true, laidLooks := .later }
def FnLinesJoinedUptoCardSaid : Prop := Claim7.holds Tryd.pinned (.plain (OpenSpec.upto fnLinesJoinedSpec)) fnLinesJoinedUptoCard

/-- THE SECOND FORM's CARD OF 'laws.FnLinesLastReturn'. -/
def fnLinesLastReturnUptoCard : Claim7 := { stood := { row := fnLinesLastReturnUptoRow, standIns := [], harness := (true, "e9f0bd560ed1b5ee19f794f86a5e524379084b21420a0477f47e3c72625a8cc7"), looks := true }, kinds := [], alts := [], laidByText := true, laidKinds := [.sentinel, .sentinel, .sentinel, .sentinel, .sentinel, .sentinel, .sentinel, .sentinel], laidTests := true, laidLooks := .later }
def FnLinesLastReturnUptoCardSaid : Prop := Claim7.holds Tryd.pinned (.plain (OpenSpec.upto fnLinesLastReturnSpec)) fnLinesLastReturnUptoCard

/-- THE SECOND FORM's CARD OF 'laws.FnLinesMany'. -/
def fnLinesManyUptoCard : Claim7 := { stood := { row := fnLinesManyUptoRow, standIns := [], harness := (true, "e9f0bd560ed1b5ee19f794f86a5e524379084b21420a0477f47e3c72625a8cc7"), looks := true }, kinds := [], alts := [], laidByText := true, laidKinds := [.sentinel, .sentinel, .sentinel, .sentinel, .sentinel, .sentinel, .sentinel, .sentinel], laidTests := true, laidLooks := .later }
def FnLinesManyUptoCardSaid : Prop := Claim7.holds Tryd.pinned (.plain (OpenSpec.upto fnLinesManySpec)) fnLinesManyUptoCard

/-- THE SECOND FORM's CARD OF 'laws.FnLinesReturns'. -/
def fnLinesReturnsUptoCard : Claim7 := { stood := { row := fnLinesReturnsUptoRow, standIns := [], harness := (true, "e9f0bd560ed1b5ee19f794f86a5e524379084b21420a0477f47e3c72625a8cc7"), looks := true }, kinds := [], alts := [], laidByText := true, laidKinds := [.sentinel, .sentinel, .sentinel, .sentinel, .sentinel, .sentinel, .sentinel, .sentinel], laidTests := true, laidLooks := .later }
def FnLinesReturnsUptoCardSaid : Prop := Claim7.holds Tryd.pinned (.plain (OpenSpec.upto fnLinesReturnsSpec)) fnLinesReturnsUptoCard
end Rows
end Go.Proofs.YtkghgjihaepnfaaDoor
