/-
  DERIVED. GIVEN WITH THE SEED: THE CARDS: each row of YtkclapimgmnldaaDoorRows.lean that lists a variable, with what it lists TIED to the program's text (the seventh form; the later family's looks); each row that meets fmt, with fmt's text TOLD by the authors' own Lean function (tested against real Go, not proved from fmt's source: count such statements apart). THE CARD IS WHAT COUNTS. Prove the row's statement (the work); the ties are given (YtkclapimgmnldaaDoorTie.lean); close each card by the builder's one call (the guide's Derived/Test/ToyasCard.lean, 'card_holds'). Laid BY PROGRAM, IN A SANDBOX (cutbox-door.mjs). By AI agents, Wed Nov 11 2026. No macro, syntax, notation, axiom, sorry.
-/
import Derived.Test.YtkclapimgmnldaaDoorRows
import GoSem.ClaimSeven
namespace Go.Proofs.YtkclapimgmnldaaDoor
namespace Rows

/-- THE TIED CARD OF 'laws.FnRule'. -/
def fnRuleCard : Claim7 := { stood := { row := fnRuleRow, standIns := [], harness := (true, "633e0d880c3a52f167b6516b7cc90ae0ef82bf67af384244edbb840e2b176258"), looks := true }, kinds := [], alts := [], laidByText := true, laidKinds := [.sentinel, .sentinel, .sentinel, .sentinel, .sentinel, .sentinel, .sentinel, .sentinel, .sentinel], laidTests := true, laidLooks := .later }
def FnRuleCardSaid : Prop := Claim7.holds Tryd.pinned (.plain (OpenSpec.ofChange fnRuleSpec)) fnRuleCard

/-- THE TIED CARD OF 'laws.FnRuleCalls'. -/
def fnRuleCallsCard : Claim7 := { stood := { row := fnRuleCallsRow, standIns := [], harness := (true, "633e0d880c3a52f167b6516b7cc90ae0ef82bf67af384244edbb840e2b176258"), looks := true }, kinds := [], alts := [], laidByText := true, laidKinds := [.sentinel, .sentinel, .sentinel, .sentinel, .sentinel, .sentinel, .sentinel, .sentinel, .sentinel], laidTests := true, laidLooks := .later }
def FnRuleCallsCardSaid : Prop := Claim7.holds Tryd.pinned (.plain (OpenSpec.ofChange fnRuleCallsSpec)) fnRuleCallsCard

/-- THE TIED CARD OF 'laws.FnRuleLines'. -/
def fnRuleLinesCard : Claim7 := { stood := { row := fnRuleLinesRow, standIns := [], harness := (true, "633e0d880c3a52f167b6516b7cc90ae0ef82bf67af384244edbb840e2b176258"), looks := true }, kinds := [], alts := [], laidByText := true, laidKinds := [.sentinel, .sentinel, .sentinel, .sentinel, .sentinel, .sentinel, .sentinel, .sentinel, .sentinel], laidTests := true, laidLooks := .later }
def FnRuleLinesCardSaid : Prop := Claim7.holds Tryd.pinned (.plain (OpenSpec.ofChange fnRuleLinesSpec)) fnRuleLinesCard

/-- THE TIED CARD OF 'laws.FnRuleWords'. -/
def fnRuleWordsCard : Claim7 := { stood := { row := fnRuleWordsRow, standIns := [], harness := (true, "633e0d880c3a52f167b6516b7cc90ae0ef82bf67af384244edbb840e2b176258"), looks := true }, kinds := [], alts := [], laidByText := true, laidKinds := [.data, .sentinel, .sentinel, .sentinel, .sentinel, .sentinel, .sentinel, .sentinel, .sentinel, .sentinel, .pinned], laidTests := true, laidLooks := .later }
def FnRuleWordsCardSaid : Prop := Claim7.holds Tryd.pinned (.plain (OpenSpec.ofChange fnRuleWordsSpec)) fnRuleWordsCard

/-- THE TIED CARD OF 'laws.FnEmptyForever'. -/
def fnEmptyForeverCard : Claim7 := { stood := { row := fnEmptyForeverRow, standIns := [], harness := (true, "633e0d880c3a52f167b6516b7cc90ae0ef82bf67af384244edbb840e2b176258"), looks := true }, kinds := [], alts := [], laidByText := true, laidKinds := [.sentinel, .sentinel, .sentinel, .sentinel, .sentinel, .sentinel, .sentinel, .sentinel, .sentinel], laidTests := true, laidLooks := .later }
def FnEmptyForeverCardSaid : Prop := Claim7.holds Tryd.pinned (.plain (OpenSpec.ofChange fnEmptyForeverSpec)) fnEmptyForeverCard

/-- THE TIED CARD OF 'laws.FnFinal'. -/
def fnFinalCard : Claim7 := { stood := { row := fnFinalRow, standIns := [], harness := (true, "633e0d880c3a52f167b6516b7cc90ae0ef82bf67af384244edbb840e2b176258"), looks := true }, kinds := [], alts := [], laidByText := true, laidKinds := [.sentinel, .sentinel, .sentinel, .sentinel, .sentinel, .sentinel, .sentinel, .sentinel, .sentinel], laidTests := true, laidLooks := .later }
def FnFinalCardSaid : Prop := Claim7.holds Tryd.pinned (.plain (OpenSpec.ofChange fnFinalSpec)) fnFinalCard

/-- THE TIED CARD OF 'laws.FnFinalNil'. -/
def fnFinalNilCard : Claim7 := { stood := { row := fnFinalNilRow, standIns := [], harness := (true, "633e0d880c3a52f167b6516b7cc90ae0ef82bf67af384244edbb840e2b176258"), looks := true }, kinds := [], alts := [], laidByText := true, laidKinds := [.sentinel, .sentinel, .sentinel, .sentinel, .sentinel, .sentinel, .sentinel, .sentinel, .sentinel], laidTests := true, laidLooks := .later }
def FnFinalNilCardSaid : Prop := Claim7.holds Tryd.pinned (.plain (OpenSpec.ofChange fnFinalNilSpec)) fnFinalNilCard

/-- THE TIED CARD OF 'laws.FnScript'. -/
def fnScriptCard : Claim7 := { stood := { row := fnScriptRow, standIns := [], harness := (true, "633e0d880c3a52f167b6516b7cc90ae0ef82bf67af384244edbb840e2b176258"), looks := true }, kinds := [], alts := [], laidByText := true, laidKinds := [.sentinel, .sentinel, .sentinel, .sentinel, .sentinel, .sentinel, .sentinel, .sentinel, .sentinel], laidTests := true, laidLooks := .later }
def FnScriptCardSaid : Prop := Claim7.holds Tryd.pinned (.plain (OpenSpec.ofChange fnScriptSpec)) fnScriptCard

/-- THE SECOND FORM's CARD OF 'laws.FnRule'. -/
def fnRuleUptoCard : Claim7 := { stood := { row := fnRuleUptoRow, standIns := [], harness := (true, "633e0d880c3a52f167b6516b7cc90ae0ef82bf67af384244edbb840e2b176258"), looks := true }, kinds := [], alts := [], laidByText := true, laidKinds := [.sentinel, .sentinel, .sentinel, .sentinel, .sentinel, .sentinel, .sentinel, .sentinel, .sentinel], laidTests := true, laidLooks := .later }
def FnRuleUptoCardSaid : Prop := Claim7.holds Tryd.pinned (.plain (OpenSpec.upto fnRuleSpec)) fnRuleUptoCard

/-- THE SECOND FORM's CARD OF 'laws.FnRuleCalls'. -/
def fnRuleCallsUptoCard : Claim7 := { stood := { row := fnRuleCallsUptoRow, standIns := [], harness := (true, "633e0d880c3a52f167b6516b7cc90ae0ef82bf67af384244edbb840e2b176258"), looks := true }, kinds := [], alts := [], laidByText := true, laidKinds := [.sentinel, .sentinel, .sentinel, .sentinel, .sentinel, .sentinel, .sentinel, .sentinel, .sentinel], laidTests := true, laidLooks := .later }
def FnRuleCallsUptoCardSaid : Prop := Claim7.holds Tryd.pinned (.plain (OpenSpec.upto fnRuleCallsSpec)) fnRuleCallsUptoCard

/-- THE SECOND FORM's CARD OF 'laws.FnRuleLines'. -/
def fnRuleLinesUptoCard : Claim7 := { stood := { row := fnRuleLinesUptoRow, standIns := [], harness := (true, "633e0d880c3a52f167b6516b7cc90ae0ef82bf67af384244edbb840e2b176258"), looks := true }, kinds := [], alts := [], laidByText := true, laidKinds := [.sentinel, .sentinel, .sentinel, .sentinel, .sentinel, .sentinel, .sentinel, .sentinel, .sentinel], laidTests := true, laidLooks := .later }
def FnRuleLinesUptoCardSaid : Prop := Claim7.holds Tryd.pinned (.plain (OpenSpec.upto fnRuleLinesSpec)) fnRuleLinesUptoCard

/-- THE SECOND FORM's CARD OF 'laws.FnRuleWords'. -/
def fnRuleWordsUptoCard : Claim7 := { stood := { row := fnRuleWordsUptoRow, standIns := [], harness := (true, "633e0d880c3a52f167b6516b7cc90ae0ef82bf67af384244edbb840e2b176258"), looks := true }, kinds := [], alts := [], laidByText := true, laidKinds := [.data, .sentinel, .sentinel, .sentinel, .sentinel, .sentinel, .sentinel, .sentinel, .sentinel, .sentinel, .pinned], laidTests := true, laidLooks := .later }
def FnRuleWordsUptoCardSaid : Prop := Claim7.holds Tryd.pinned (.plain (OpenSpec.upto fnRuleWordsSpec)) fnRuleWordsUptoCard

/-- THE SECOND FORM's CARD OF 'laws.FnEmptyForever'. -/
def fnEmptyForeverUptoCard : Claim7 := { stood := { row := fnEmptyForeverUptoRow, standIns := [], harness := (true, "633e0d880c3a52f167b6516b7cc90ae0ef82bf67af384244edbb840e2b176258"), looks := true }, kinds := [], alts := [], laidByText := true, laidKinds := [.sentinel, .sentinel, .sentinel, .sentinel, .sentinel, .sentinel, .sentinel, .sentinel, .sentinel], laidTests := true, laidLooks := .later }
def FnEmptyForeverUptoCardSaid : Prop := Claim7.holds Tryd.pinned (.plain (OpenSpec.upto fnEmptyForeverSpec)) fnEmptyForeverUptoCard

/-- THE SECOND FORM's CARD OF 'laws.FnFinal'. -/
def fnFinalUptoCard : Claim7 := { stood := { row := fnFinalUptoRow, standIns := [], harness := (true, "633e0d880c3a52f167b6516b7cc90ae0ef82bf67af384244edbb840e2b176258"), looks := true }, kinds := [], alts := [], laidByText := true, laidKinds := [.sentinel, .sentinel, .sentinel, .sentinel, .sentinel, .sentinel, .sentinel, .sentinel, .sentinel], laidTests := true, laidLooks := .later }
def FnFinalUptoCardSaid : Prop := Claim7.holds Tryd.pinned (.plain (OpenSpec.upto fnFinalSpec)) fnFinalUptoCard

/-- THE SECOND FORM's CARD OF 'laws.FnFinalNil'. -/
def fnFinalNilUptoCard : Claim7 := { stood := { row := fnFinalNilUptoRow, standIns := [], harness := (true, "633e0d880c3a52f167b6516b7cc90ae0ef82bf67af384244edbb840e2b176258"), looks := true }, kinds := [], alts := [], laidByText := true, laidKinds := [.sentinel, .sentinel, .sentinel, .sentinel, .sentinel, .sentinel, .sentinel, .sentinel, .sentinel], laidTests := true, laidLooks := .later }
def FnFinalNilUptoCardSaid : Prop := Claim7.holds Tryd.pinned (.plain (OpenSpec.upto fnFinalNilSpec)) fnFinalNilUptoCard

/-- THE SECOND FORM's CARD OF 'laws.FnScript'. -/
def fnScriptUptoCard : Claim7 := { stood := { row := fnScriptUptoRow, standIns := [], harness := (true, "633e0d880c3a52f167b6516b7cc90ae0ef82bf67af384244edbb840e2b176258"), looks := true }, kinds := [], alts := [], laidByText := true, laidKinds := [.sentinel, .sentinel, .sentinel, .sentinel, .sentinel, .sentinel, .sentinel, .sentinel, .sentinel], laidTests := true, laidLooks := .later }
def FnScriptUptoCardSaid : Prop := Claim7.holds Tryd.pinned (.plain (OpenSpec.upto fnScriptSpec)) fnScriptUptoCard
end Rows
end Go.Proofs.YtkclapimgmnldaaDoor
