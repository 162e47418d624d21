/-
  DERIVED. GIVEN WITH THE SEED: THE CARDS: each row of YtnoaljlbhihgjaaDoorRows.lean that lists a variable, with what it lists TIED to the program's text (the seventh form; the later family's looks); each row that meets fmt, with fmt's text TOLD by the authors' own Lean function (tested against real Go, not proved from fmt's source: count such statements apart). THE CARD IS WHAT COUNTS. Prove the row's statement (the work); the ties are given (YtnoaljlbhihgjaaDoorTie.lean); close each card by the builder's one call (the guide's Derived/Test/ToyasCard.lean, 'card_holds'). Laid BY PROGRAM, IN A SANDBOX (cutbox-door.mjs). By AI agents, Wed Nov 11 2026. No macro, syntax, notation, axiom, sorry.
-/
import Derived.Test.YtnoaljlbhihgjaaDoorRows
import GoSem.ClaimSeven
namespace Go.Proofs.YtnoaljlbhihgjaaDoor
namespace Rows

/-- THE TIED CARD OF 'laws.FnWordsAfter'. -/
def fnWordsAfterCard : Claim7 := { stood := { row := fnWordsAfterRow, standIns := [], harness := (true, "6836ffa42596e3c9f0cf46c679bffb37fb239014b0173bc92683d3b01d929d0e"), looks := true }, kinds := [], alts := [], laidByText := true, laidKinds := [.data, .sentinel, .sentinel, .sentinel, .sentinel, .sentinel, .sentinel, .sentinel, .sentinel, .pinned], laidTests := true, laidLooks := .later }
def FnWordsAfterCardSaid : Prop := Claim7.holds Tryd.pinned (.plain (OpenSpec.ofChange fnWordsAfterSpec)) fnWordsAfterCard

/-- THE TIED CARD OF 'laws.FnWordsBytes'. -/
def fnWordsBytesCard : Claim7 := { stood := { row := fnWordsBytesRow, standIns := [], harness := (true, "6836ffa42596e3c9f0cf46c679bffb37fb239014b0173bc92683d3b01d929d0e"), looks := true }, kinds := [], alts := [], laidByText := true, laidKinds := [.data, .sentinel, .sentinel, .sentinel, .sentinel, .sentinel, .sentinel, .sentinel, .sentinel, .pinned], laidTests := true, laidLooks := .later }
def FnWordsBytesCardSaid : Prop := Claim7.holds Tryd.pinned (.plain (OpenSpec.ofChange fnWordsBytesSpec)) fnWordsBytesCard

/-- THE TIED CARD OF 'laws.FnWordsJoined'. -/
def fnWordsJoinedCard : Claim7 := { stood := { row := fnWordsJoinedRow, standIns := [], harness := (true, "6836ffa42596e3c9f0cf46c679bffb37fb239014b0173bc92683d3b01d929d0e"), looks := true }, kinds := [], alts := [], laidByText := true, laidKinds := [.data, .sentinel, .sentinel, .sentinel, .sentinel, .sentinel, .sentinel, .sentinel, .sentinel, .pinned], laidTests := true, laidLooks := .later }
def FnWordsJoinedCardSaid : Prop := Claim7.holds Tryd.pinned (.plain (OpenSpec.ofChange fnWordsJoinedSpec)) fnWordsJoinedCard

/-- THE TIED CARD OF 'laws.FnWordsPlain'. -/
def fnWordsPlainCard : Claim7 := { stood := { row := fnWordsPlainRow, standIns := [], harness := (true, "6836ffa42596e3c9f0cf46c679bffb37fb239014b0173bc92683d3b01d929d0e"), looks := true }, kinds := [], alts := [], laidByText := true, laidKinds := [.data, .sentinel, .sentinel, .sentinel, .sentinel, .sentinel, .sentinel, .sentinel, .sentinel, .pinned], laidTests := true, laidLooks := .later }
def FnWordsPlainCardSaid : Prop := Claim7.holds Tryd.pinned (.plain (OpenSpec.ofChange fnWordsPlainSpec)) fnWordsPlainCard

/-- THE TIED CARD OF 'laws.FnWordsOfLines'. -/
def fnWordsOfLinesCard : Claim7 := { stood := { row := fnWordsOfLinesRow, standIns := [], harness := (true, "6836ffa42596e3c9f0cf46c679bffb37fb239014b0173bc92683d3b01d929d0e"), looks := true }, kinds := [], alts := [], laidByText := true, laidKinds := [.data, .sentinel, .sentinel, .sentinel, .sentinel, .sentinel, .sentinel, .sentinel, .sentinel, .pinned], laidTests := true, laidLooks := .later }
def FnWordsOfLinesCardSaid : Prop := Claim7.holds Tryd.pinned (.plain (OpenSpec.ofChange fnWordsOfLinesSpec)) fnWordsOfLinesCard

/-- THE TIED CARD OF 'laws.FnSplitTwice'. -/
def fnSplitTwiceCard : Claim7 := { stood := { row := fnSplitTwiceRow, standIns := [], harness := (true, "6836ffa42596e3c9f0cf46c679bffb37fb239014b0173bc92683d3b01d929d0e"), looks := true }, kinds := [], alts := [], laidByText := true, laidKinds := [.data, .sentinel, .sentinel, .sentinel, .sentinel, .sentinel, .sentinel, .sentinel, .sentinel, .pinned], laidTests := true, laidLooks := .later }
def FnSplitTwiceCardSaid : Prop := Claim7.holds Tryd.pinned (.plain (OpenSpec.ofChange fnSplitTwiceSpec)) fnSplitTwiceCard

/-- THE TIED CARD OF 'laws.FnExactSplitLate'. -/
def fnExactSplitLateCard : Claim7 := { stood := { row := fnExactSplitLateRow, standIns := [], harness := (true, "6836ffa42596e3c9f0cf46c679bffb37fb239014b0173bc92683d3b01d929d0e"), looks := true }, kinds := [], alts := [], laidByText := true, laidKinds := [.data, .sentinel, .sentinel, .sentinel, .sentinel, .sentinel, .sentinel, .sentinel, .sentinel, .pinned], laidTests := true, laidLooks := .later }
def FnExactSplitLateCardSaid : Prop := Claim7.holds Tryd.pinned (.plain (OpenSpec.ofChange fnExactSplitLateSpec)) fnExactSplitLateCard

/-- THE TIED CARD OF 'laws.FnSplitStarted'. -/
def fnSplitStartedCard : Claim7 := { stood := { row := fnSplitStartedRow, standIns := [], harness := (true, "6836ffa42596e3c9f0cf46c679bffb37fb239014b0173bc92683d3b01d929d0e"), looks := true }, kinds := [], alts := [], laidByText := true, laidKinds := [.data, .sentinel, .sentinel, .sentinel, .sentinel, .sentinel, .sentinel, .sentinel, .sentinel, .pinned], laidTests := true, laidLooks := .later }
def FnSplitStartedCardSaid : Prop := Claim7.holds Tryd.pinned (.plain (OpenSpec.ofChange fnSplitStartedSpec)) fnSplitStartedCard

/-- THE TIED CARD OF 'laws.FnWordStep'. -/
def fnWordStepCard : Claim7 := { stood := { row := fnWordStepRow, standIns := [], harness := (true, "6836ffa42596e3c9f0cf46c679bffb37fb239014b0173bc92683d3b01d929d0e"), looks := true }, kinds := [], alts := [], laidByText := true, laidKinds := [.data, .sentinel, .sentinel, .sentinel, .sentinel, .sentinel, .sentinel, .sentinel, .sentinel, .sentinel, .pinned], laidTests := true, laidLooks := .later }
def FnWordStepCardSaid : Prop := Claim7.holds Tryd.pinned (.plain (OpenSpec.ofChange fnWordStepSpec)) fnWordStepCard

/-- THE TIED CARD OF 'laws.FnWordSteps'. -/
def fnWordStepsCard : Claim7 := { stood := { row := fnWordStepsRow, standIns := [], harness := (true, "6836ffa42596e3c9f0cf46c679bffb37fb239014b0173bc92683d3b01d929d0e"), looks := true }, kinds := [], alts := [], laidByText := true, laidKinds := [.data, .sentinel, .sentinel, .sentinel, .sentinel, .sentinel, .sentinel, .sentinel, .sentinel, .sentinel, .pinned], laidTests := true, laidLooks := .later }
def FnWordStepsCardSaid : Prop := Claim7.holds Tryd.pinned (.plain (OpenSpec.ofChange fnWordStepsSpec)) fnWordStepsCard

/-- THE TIED CARD OF 'laws.FnBufferTwice'. -/
def fnBufferTwiceCard : Claim7 := { stood := { row := fnBufferTwiceRow, standIns := [], harness := (true, "6836ffa42596e3c9f0cf46c679bffb37fb239014b0173bc92683d3b01d929d0e"), looks := true }, kinds := [], alts := [], laidByText := true, laidKinds := [.sentinel, .sentinel, .sentinel, .sentinel, .sentinel, .sentinel, .sentinel, .sentinel, .sentinel], laidTests := true, laidLooks := .later }
def FnBufferTwiceCardSaid : Prop := Claim7.holds Tryd.pinned (.plain (OpenSpec.ofChange fnBufferTwiceSpec)) fnBufferTwiceCard

/-- THE TIED CARD OF 'laws.FnLongLine'. -/
def fnLongLineCard : Claim7 := { stood := { row := fnLongLineRow, standIns := [], harness := (true, "6836ffa42596e3c9f0cf46c679bffb37fb239014b0173bc92683d3b01d929d0e"), looks := true }, kinds := [], alts := [], laidByText := true, laidKinds := [.sentinel, .sentinel, .sentinel, .sentinel, .sentinel, .sentinel, .sentinel, .sentinel, .sentinel], laidTests := true, laidLooks := .later }
def FnLongLineCardSaid : Prop := Claim7.holds Tryd.pinned (.plain (OpenSpec.ofChange fnLongLineSpec)) fnLongLineCard

/-- THE SECOND FORM's CARD OF 'laws.FnWordsAfter'. -/
def fnWordsAfterUptoCard : Claim7 := { stood := { row := fnWordsAfterUptoRow, standIns := [], harness := (true, "6836ffa42596e3c9f0cf46c679bffb37fb239014b0173bc92683d3b01d929d0e"), looks := true }, kinds := [], alts := [], laidByText := true, laidKinds := [.data, .sentinel, .sentinel, .sentinel, .sentinel, .sentinel, .sentinel, .sentinel, .sentinel, .pinned], laidTests := true, laidLooks := .later }
def FnWordsAfterUptoCardSaid : Prop := Claim7.holds Tryd.pinned (.plain (OpenSpec.upto fnWordsAfterSpec)) fnWordsAfterUptoCard

/-- THE SECOND FORM's CARD OF 'laws.FnWordsBytes'. -/
def fnWordsBytesUptoCard : Claim7 := { stood := { row := fnWordsBytesUptoRow, standIns := [], harness := (true, "6836ffa42596e3c9f0cf46c679bffb37fb239014b0173bc92683d3b01d929d0e"), looks := true }, kinds := [], alts := [], laidByText := true, laidKinds := [.data, .sentinel, .sentinel, .sentinel, .sentinel, .sentinel, .sentinel, .sentinel, .sentinel, .pinned], laidTests := true, laidLooks := .later }
def FnWordsBytesUptoCardSaid : Prop := Claim7.holds Tryd.pinned (.plain (OpenSpec.upto fnWordsBytesSpec)) fnWordsBytesUptoCard

/-- THE SECOND FORM's CARD OF 'laws.FnWordsJoined'. -/
def fnWordsJoinedUptoCard : Claim7 := { stood := { row := fnWordsJoinedUptoRow, standIns := [], harness := (true, "6836ffa42596e3c9f0cf46c679bffb37fb239014b0173bc92683d3b01d929d0e"), looks := true }, kinds := [], alts := [], laidByText := true, laidKinds := [.data, .sentinel, .sentinel, .sentinel, .sentinel, .sentinel, .sentinel, .sentinel, .sentinel, .pinned], laidTests := true, laidLooks := .later }
def FnWordsJoinedUptoCardSaid : Prop := Claim7.holds Tryd.pinned (.plain (OpenSpec.upto fnWordsJoinedSpec)) fnWordsJoinedUptoCard

/-- THE SECOND FORM's CARD OF 'laws.FnWordsPlain'. -/
def fnWordsPlainUptoCard : Claim7 := { stood := { row := fnWordsPlainUptoRow, standIns := [], harness := (true, "6836ffa42596e3c9f0cf46c679bffb37fb239014b0173bc92683d3b01d929d0e"), looks := true }, kinds := [], alts := [], laidByText := true, laidKinds := [.data, .sentinel, .sentinel, .sentinel, .sentinel, .sentinel, .sentinel, .sentinel, .sentinel, .pinned], laidTests := true, laidLooks := .later }
def FnWordsPlainUptoCardSaid : Prop := Claim7.holds Tryd.pinned (.plain (OpenSpec.upto fnWordsPlainSpec)) fnWordsPlainUptoCard

/-- THE SECOND FORM's CARD OF 'laws.FnWordsOfLines'. -/
def fnWordsOfLinesUptoCard : Claim7 := { stood := { row := fnWordsOfLinesUptoRow, standIns := [], harness := (true, "6836ffa42596e3c9f0cf46c679bffb37fb239014b0173bc92683d3b01d929d0e"), looks := true }, kinds := [], alts := [], laidByText := true, laidKinds := [.data, .sentinel, .sentinel, .sentinel, .sentinel, .sentinel, .sentinel, .sentinel, .sentinel, .pinned], laidTests := true, laidLooks := .later }
def FnWordsOfLinesUptoCardSaid : Prop := Claim7.holds Tryd.pinned (.plain (OpenSpec.upto fnWordsOfLinesSpec)) fnWordsOfLinesUptoCard

/-- THE SECOND FORM's CARD OF 'laws.FnSplitTwice'. -/
def fnSplitTwiceUptoCard : Claim7 := { stood := { row := fnSplitTwiceUptoRow, standIns := [], harness := (true, "6836ffa42596e3c9f0cf46c679bffb37fb239014b0173bc92683d3b01d929d0e"), looks := true }, kinds := [], alts := [], laidByText := true, laidKinds := [.data, .sentinel, .sentinel, .sentinel, .sentinel, .sentinel, .sentinel, .sentinel, .sentinel, .pinned], laidTests := true, laidLooks := .later }
def FnSplitTwiceUptoCardSaid : Prop := Claim7.holds Tryd.pinned (.plain (OpenSpec.upto fnSplitTwiceSpec)) fnSplitTwiceUptoCard

/-- THE SECOND FORM's CARD OF 'laws.FnExactSplitLate'. -/
def fnExactSplitLateUptoCard : Claim7 := { stood := { row := fnExactSplitLateUptoRow, standIns := [], harness := (true, "6836ffa42596e3c9f0cf46c679bffb37fb239014b0173bc92683d3b01d929d0e"), looks := true }, kinds := [], alts := [], laidByText := true, laidKinds := [.data, .sentinel, .sentinel, .sentinel, .sentinel, .sentinel, .sentinel, .sentinel, .sentinel, .pinned], laidTests := true, laidLooks := .later }
def FnExactSplitLateUptoCardSaid : Prop := Claim7.holds Tryd.pinned (.plain (OpenSpec.upto fnExactSplitLateSpec)) fnExactSplitLateUptoCard

/-- THE SECOND FORM's CARD OF 'laws.FnSplitStarted'. -/
def fnSplitStartedUptoCard : Claim7 := { stood := { row := fnSplitStartedUptoRow, standIns := [], harness := (true, "6836ffa42596e3c9f0cf46c679bffb37fb239014b0173bc92683d3b01d929d0e"), looks := true }, kinds := [], alts := [], laidByText := true, laidKinds := [.data, .sentinel, .sentinel, .sentinel, .sentinel, .sentinel, .sentinel, .sentinel, .sentinel, .pinned], laidTests := true, laidLooks := .later }
def FnSplitStartedUptoCardSaid : Prop := Claim7.holds Tryd.pinned (.plain (OpenSpec.upto fnSplitStartedSpec)) fnSplitStartedUptoCard

/-- THE SECOND FORM's CARD OF 'laws.FnWordStep'. -/
def fnWordStepUptoCard : Claim7 := { stood := { row := fnWordStepUptoRow, standIns := [], harness := (true, "6836ffa42596e3c9f0cf46c679bffb37fb239014b0173bc92683d3b01d929d0e"), looks := true }, kinds := [], alts := [], laidByText := true, laidKinds := [.data, .sentinel, .sentinel, .sentinel, .sentinel, .sentinel, .sentinel, .sentinel, .sentinel, .sentinel, .pinned], laidTests := true, laidLooks := .later }
def FnWordStepUptoCardSaid : Prop := Claim7.holds Tryd.pinned (.plain (OpenSpec.upto fnWordStepSpec)) fnWordStepUptoCard

/-- THE SECOND FORM's CARD OF 'laws.FnWordSteps'. -/
def fnWordStepsUptoCard : Claim7 := { stood := { row := fnWordStepsUptoRow, standIns := [], harness := (true, "6836ffa42596e3c9f0cf46c679bffb37fb239014b0173bc92683d3b01d929d0e"), looks := true }, kinds := [], alts := [], laidByText := true, laidKinds := [.data, .sentinel, .sentinel, .sentinel, .sentinel, .sentinel, .sentinel, .sentinel, .sentinel, .sentinel, .pinned], laidTests := true, laidLooks := .later }
def FnWordStepsUptoCardSaid : Prop := Claim7.holds Tryd.pinned (.plain (OpenSpec.upto fnWordStepsSpec)) fnWordStepsUptoCard

/-- THE SECOND FORM's CARD OF 'laws.FnBufferTwice'. -/
def fnBufferTwiceUptoCard : Claim7 := { stood := { row := fnBufferTwiceUptoRow, standIns := [], harness := (true, "6836ffa42596e3c9f0cf46c679bffb37fb239014b0173bc92683d3b01d929d0e"), looks := true }, kinds := [], alts := [], laidByText := true, laidKinds := [.sentinel, .sentinel, .sentinel, .sentinel, .sentinel, .sentinel, .sentinel, .sentinel, .sentinel], laidTests := true, laidLooks := .later }
def FnBufferTwiceUptoCardSaid : Prop := Claim7.holds Tryd.pinned (.plain (OpenSpec.upto fnBufferTwiceSpec)) fnBufferTwiceUptoCard

/-- THE SECOND FORM's CARD OF 'laws.FnLongLine'. -/
def fnLongLineUptoCard : Claim7 := { stood := { row := fnLongLineUptoRow, standIns := [], harness := (true, "6836ffa42596e3c9f0cf46c679bffb37fb239014b0173bc92683d3b01d929d0e"), looks := true }, kinds := [], alts := [], laidByText := true, laidKinds := [.sentinel, .sentinel, .sentinel, .sentinel, .sentinel, .sentinel, .sentinel, .sentinel, .sentinel], laidTests := true, laidLooks := .later }
def FnLongLineUptoCardSaid : Prop := Claim7.holds Tryd.pinned (.plain (OpenSpec.upto fnLongLineSpec)) fnLongLineUptoCard
end Rows
end Go.Proofs.YtnoaljlbhihgjaaDoor
