/-
  NARROWER THAN 'FOR EVERY INPUT', by the rows' own cells (each row's printed sentence says how): FnRule: ifaces, laid · FnRuleCalls: ifaces, laid · FnRuleLines: ifaces, laid · FnRuleWords: ifaces, laid · FnEmptyForever: ifaces, laid · FnFinal: ifaces, laid · FnFinalNil: ifaces, laid · FnScript: ifaces, laid.
  DERIVED. THE GIVEN ROWS OF THIS SEAT. 8 by the template 'for every input the law returns true; each argument reads behind the call as it read before'; 0 by the template 'total and deterministic' (their statements: YtkclapimgmnldaaDoorTotals.lean).
  GIVEN WITH THE SEED: the statements are not yours to turn. If you find one false, say at which input.
  Laid BY PROGRAM, IN A SANDBOX (cutbox-rows.mjs): the forced cells as the released guide's own fill.sh prints them over the translation 646f5e7f82226d05… (all of the seat's roots in one cut). By AI agents, Wed Nov 11 2026. No macro, syntax, notation, axiom, sorry.
-/
import Derived.Test.YtkclapimgmnldaaDoorChecked
import GoSem.PinnedTables
import GoSem.Claim
import GoSem.ClaimJoined
import GoSem.ClaimMapViews
import Derived.JoinedTies
import Derived.KernelRfl
namespace Go.Proofs.YtkclapimgmnldaaDoor
/- THE CELL 'sum', in the pinned program and in every row, IS THE sha256 OF THE DUMP (.gsa) THAT YtkclapimgmnldaaDoorProg.lean LOADS. Nothing in Lean hashes anything: it is a label: what it is worth is what the hold of that sum in a sandbox is worth. -/
noncomputable def Tryd.pinned : Pinned := { name := "ytkclapimgmnldaadoor", sum := "646f5e7f82226d053a20271244014837d69668775766ba37c56548a159e33ec3", checked := Tryd.checked }
namespace Rows
def none {H : Type} : Left H := { results := [], args := [] }

/- WHAT THE LISTED PACKAGE-LEVEL VARIABLES READ AS WHEN THE CALL BEGINS. Each datum BY PROGRAM (the guide's laid-datum.mjs) off the statement by which the dump's own 'gosem.cut.vars' lays the variable. In a bare row this is a premise. The card (YtkclapimgmnldaaDoorCards.lean) ties it to the program's text. -/
def laid_io_EOF {H : Type} : DataW H := .iface "*errors.errorString" (.ptr (.agg [.lit (.string [69, 79, 70])]))
def laid_io_ErrNoProgress {H : Type} : DataW H := .iface "*errors.errorString" (.ptr (.agg [.lit (.string [109, 117, 108, 116, 105, 112, 108, 101, 32, 82, 101, 97, 100, 32, 99, 97, 108, 108, 115, 32, 114, 101, 116, 117, 114, 110, 32, 110, 111, 32, 100, 97, 116, 97, 32, 111, 114, 32, 101, 114, 114, 111, 114])]))
def laid_bufio_ErrTooLong {H : Type} : DataW H := .iface "*errors.errorString" (.ptr (.agg [.lit (.string [98, 117, 102, 105, 111, 46, 83, 99, 97, 110, 110, 101, 114, 58, 32, 116, 111, 107, 101, 110, 32, 116, 111, 111, 32, 108, 111, 110, 103])]))
def laid_bufio_ErrNegativeAdvance {H : Type} : DataW H := .iface "*errors.errorString" (.ptr (.agg [.lit (.string [98, 117, 102, 105, 111, 46, 83, 99, 97, 110, 110, 101, 114, 58, 32, 83, 112, 108, 105, 116, 70, 117, 110, 99, 32, 114, 101, 116, 117, 114, 110, 115, 32, 110, 101, 103, 97, 116, 105, 118, 101, 32, 97, 100, 118, 97, 110, 99, 101, 32, 99, 111, 117, 110, 116])]))
def laid_bufio_ErrAdvanceTooFar {H : Type} : DataW H := .iface "*errors.errorString" (.ptr (.agg [.lit (.string [98, 117, 102, 105, 111, 46, 83, 99, 97, 110, 110, 101, 114, 58, 32, 83, 112, 108, 105, 116, 70, 117, 110, 99, 32, 114, 101, 116, 117, 114, 110, 115, 32, 97, 100, 118, 97, 110, 99, 101, 32, 99, 111, 117, 110, 116, 32, 98, 101, 121, 111, 110, 100, 32, 105, 110, 112, 117, 116])]))
def laid_bufio_ErrBadReadCount {H : Type} : DataW H := .iface "*errors.errorString" (.ptr (.agg [.lit (.string [98, 117, 102, 105, 111, 46, 83, 99, 97, 110, 110, 101, 114, 58, 32, 82, 101, 97, 100, 32, 114, 101, 116, 117, 114, 110, 101, 100, 32, 105, 109, 112, 111, 115, 115, 105, 98, 108, 101, 32, 99, 111, 117, 110, 116])]))
def laid_bufio_ErrFinalToken {H : Type} : DataW H := .iface "*errors.errorString" (.ptr (.agg [.lit (.string [102, 105, 110, 97, 108, 32, 116, 111, 107, 101, 110])]))
def laid_loop_example_lib_g01189_impl_errSplit {H : Type} : DataW H := .iface "*errors.errorString" (.ptr (.agg [.lit (.string [115, 112, 108, 105, 116])]))
def laid_loop_example_lib_g01189_impl_errRead {H : Type} : DataW H := .iface "*errors.errorString" (.ptr (.agg [.lit (.string [114, 101, 97, 100])]))
def laid_unicode_utf8_acceptRanges {H : Type} : DataW H := .agg [.agg [.lit (.int .u8 128), .lit (.int .u8 191)], .agg [.lit (.int .u8 160), .lit (.int .u8 191)], .agg [.lit (.int .u8 128), .lit (.int .u8 159)], .agg [.lit (.int .u8 144), .lit (.int .u8 191)], .agg [.lit (.int .u8 128), .lit (.int .u8 143)], .agg [.lit (.int .u8 0), .lit (.int .u8 0)], .agg [.lit (.int .u8 0), .lit (.int .u8 0)], .agg [.lit (.int .u8 0), .lit (.int .u8 0)], .agg [.lit (.int .u8 0), .lit (.int .u8 0)], .agg [.lit (.int .u8 0), .lit (.int .u8 0)], .agg [.lit (.int .u8 0), .lit (.int .u8 0)], .agg [.lit (.int .u8 0), .lit (.int .u8 0)], .agg [.lit (.int .u8 0), .lit (.int .u8 0)], .agg [.lit (.int .u8 0), .lit (.int .u8 0)], .agg [.lit (.int .u8 0), .lit (.int .u8 0)], .agg [.lit (.int .u8 0), .lit (.int .u8 0)]]
/-- One of Go's own tables, pinned by name: the form's constant. -/
def laid_unicode_utf8_first : DataW Unit := Go.Pinned.utf8First

/-- 'laws.FnRule': WHATEVER THE INPUT: true; the input reads as it did. -/
def fnRuleSpec : ChangeSpec := { name := "fnRule", vars := ["loop.example/lib-g01189/impl.errRead", "loop.example/lib-g01189/impl.errSplit"], fn := fun _ => fun
  | [d1, d2, d3, g1, g2] => { results := [.lit (.bool true)], args := [d1, d2, d3], vars := [g1, g2] }
  | _ => none }
def fnRuleRow : OpenClaim := { program := "ytkclapimgmnldaadoor", sum := "646f5e7f82226d053a20271244014837d69668775766ba37c56548a159e33ec3", func := "loop.example/lib-g01189/laws.FnRule", spec := "fnRule", inPlace := ["internal/bytealg.IndexByte"], unfollowed := true, recurses := true, named := ["io.EOF", "loop.example/lib-g01189/impl.errRead", "loop.example/lib-g01189/impl.errSplit", "bufio.ErrFinalToken", "bufio.ErrTooLong", "bufio.ErrBadReadCount", "io.ErrNoProgress", "bufio.ErrNegativeAdvance", "bufio.ErrAdvanceTooFar"], ifaces := true, apart := false, laid := [("io.EOF", laid_io_EOF), ("io.ErrNoProgress", laid_io_ErrNoProgress), ("bufio.ErrTooLong", laid_bufio_ErrTooLong), ("bufio.ErrNegativeAdvance", laid_bufio_ErrNegativeAdvance), ("bufio.ErrAdvanceTooFar", laid_bufio_ErrAdvanceTooFar), ("bufio.ErrBadReadCount", laid_bufio_ErrBadReadCount), ("bufio.ErrFinalToken", laid_bufio_ErrFinalToken), ("loop.example/lib-g01189/impl.errSplit", laid_loop_example_lib_g01189_impl_errSplit), ("loop.example/lib-g01189/impl.errRead", laid_loop_example_lib_g01189_impl_errRead)] }
def FnRuleSaid : Prop := fnRuleRow.holds Tryd.pinned (OpenSpec.ofChange fnRuleSpec)

/-- ITS FALSE NEIGHBOUR: 'it returns false'. Refute it at one input. -/
def fnRuleWrong : ChangeSpec := { name := "fnRule", vars := ["loop.example/lib-g01189/impl.errRead", "loop.example/lib-g01189/impl.errSplit"], fn := fun _ => fun
  | [d1, d2, d3, g1, g2] => { results := [.lit (.bool false)], args := [d1, d2, d3], vars := [g1, g2] }
  | _ => none }
def FnRuleWrongFalsely : Prop := fnRuleRow.holds Tryd.pinned (OpenSpec.ofChange fnRuleWrong)

/-- 'laws.FnRuleCalls': WHATEVER THE INPUT: true; the input reads as it did. -/
def fnRuleCallsSpec : ChangeSpec := { name := "fnRuleCalls", vars := ["loop.example/lib-g01189/impl.errRead", "loop.example/lib-g01189/impl.errSplit"], fn := fun _ => fun
  | [d1, d2, d3, g1, g2] => { results := [.lit (.bool true)], args := [d1, d2, d3], vars := [g1, g2] }
  | _ => none }
def fnRuleCallsRow : OpenClaim := { program := "ytkclapimgmnldaadoor", sum := "646f5e7f82226d053a20271244014837d69668775766ba37c56548a159e33ec3", func := "loop.example/lib-g01189/laws.FnRuleCalls", spec := "fnRuleCalls", inPlace := ["internal/bytealg.IndexByte"], unfollowed := true, recurses := true, named := ["io.EOF", "loop.example/lib-g01189/impl.errRead", "loop.example/lib-g01189/impl.errSplit", "bufio.ErrFinalToken", "bufio.ErrTooLong", "bufio.ErrBadReadCount", "io.ErrNoProgress", "bufio.ErrNegativeAdvance", "bufio.ErrAdvanceTooFar"], ifaces := true, apart := false, laid := [("io.EOF", laid_io_EOF), ("io.ErrNoProgress", laid_io_ErrNoProgress), ("bufio.ErrTooLong", laid_bufio_ErrTooLong), ("bufio.ErrNegativeAdvance", laid_bufio_ErrNegativeAdvance), ("bufio.ErrAdvanceTooFar", laid_bufio_ErrAdvanceTooFar), ("bufio.ErrBadReadCount", laid_bufio_ErrBadReadCount), ("bufio.ErrFinalToken", laid_bufio_ErrFinalToken), ("loop.example/lib-g01189/impl.errSplit", laid_loop_example_lib_g01189_impl_errSplit), ("loop.example/lib-g01189/impl.errRead", laid_loop_example_lib_g01189_impl_errRead)] }
def FnRuleCallsSaid : Prop := fnRuleCallsRow.holds Tryd.pinned (OpenSpec.ofChange fnRuleCallsSpec)

/-- ITS FALSE NEIGHBOUR: 'it returns false'. Refute it at one input. -/
def fnRuleCallsWrong : ChangeSpec := { name := "fnRuleCalls", vars := ["loop.example/lib-g01189/impl.errRead", "loop.example/lib-g01189/impl.errSplit"], fn := fun _ => fun
  | [d1, d2, d3, g1, g2] => { results := [.lit (.bool false)], args := [d1, d2, d3], vars := [g1, g2] }
  | _ => none }
def FnRuleCallsWrongFalsely : Prop := fnRuleCallsRow.holds Tryd.pinned (OpenSpec.ofChange fnRuleCallsWrong)

/-- 'laws.FnRuleLines': WHATEVER THE INPUT: true; the input reads as it did. -/
def fnRuleLinesSpec : ChangeSpec := { name := "fnRuleLines", vars := ["loop.example/lib-g01189/impl.errRead", "loop.example/lib-g01189/impl.errSplit"], fn := fun _ => fun
  | [d, g1, g2] => { results := [.lit (.bool true)], args := [d], vars := [g1, g2] }
  | _ => none }
def fnRuleLinesRow : OpenClaim := { program := "ytkclapimgmnldaadoor", sum := "646f5e7f82226d053a20271244014837d69668775766ba37c56548a159e33ec3", func := "loop.example/lib-g01189/laws.FnRuleLines", spec := "fnRuleLines", inPlace := ["internal/bytealg.IndexByte"], unfollowed := true, recurses := true, named := ["io.EOF", "loop.example/lib-g01189/impl.errRead", "loop.example/lib-g01189/impl.errSplit", "bufio.ErrFinalToken", "bufio.ErrTooLong", "bufio.ErrBadReadCount", "io.ErrNoProgress", "bufio.ErrNegativeAdvance", "bufio.ErrAdvanceTooFar"], ifaces := true, apart := false, laid := [("io.EOF", laid_io_EOF), ("io.ErrNoProgress", laid_io_ErrNoProgress), ("bufio.ErrTooLong", laid_bufio_ErrTooLong), ("bufio.ErrNegativeAdvance", laid_bufio_ErrNegativeAdvance), ("bufio.ErrAdvanceTooFar", laid_bufio_ErrAdvanceTooFar), ("bufio.ErrBadReadCount", laid_bufio_ErrBadReadCount), ("bufio.ErrFinalToken", laid_bufio_ErrFinalToken), ("loop.example/lib-g01189/impl.errSplit", laid_loop_example_lib_g01189_impl_errSplit), ("loop.example/lib-g01189/impl.errRead", laid_loop_example_lib_g01189_impl_errRead)] }
def FnRuleLinesSaid : Prop := fnRuleLinesRow.holds Tryd.pinned (OpenSpec.ofChange fnRuleLinesSpec)

/-- ITS FALSE NEIGHBOUR: 'it returns false'. Refute it at one input. -/
def fnRuleLinesWrong : ChangeSpec := { name := "fnRuleLines", vars := ["loop.example/lib-g01189/impl.errRead", "loop.example/lib-g01189/impl.errSplit"], fn := fun _ => fun
  | [d, g1, g2] => { results := [.lit (.bool false)], args := [d], vars := [g1, g2] }
  | _ => none }
def FnRuleLinesWrongFalsely : Prop := fnRuleLinesRow.holds Tryd.pinned (OpenSpec.ofChange fnRuleLinesWrong)

/-- 'laws.FnRuleWords': WHATEVER THE INPUT: true; the input reads as it did. -/
def fnRuleWordsSpec : ChangeSpec := { name := "fnRuleWords", vars := ["loop.example/lib-g01189/impl.errRead", "loop.example/lib-g01189/impl.errSplit"], fn := fun _ => fun
  | [d, g1, g2] => { results := [.lit (.bool true)], args := [d], vars := [g1, g2] }
  | _ => none }
def fnRuleWordsRow : OpenClaim := { program := "ytkclapimgmnldaadoor", sum := "646f5e7f82226d053a20271244014837d69668775766ba37c56548a159e33ec3", func := "loop.example/lib-g01189/laws.FnRuleWords", spec := "fnRuleWords", inPlace := ["internal/bytealg.IndexByte"], unfollowed := true, recurses := true, named := ["io.EOF", "loop.example/lib-g01189/impl.errRead", "loop.example/lib-g01189/impl.errSplit", "bufio.ErrFinalToken", "bufio.ErrTooLong", "bufio.ErrBadReadCount", "io.ErrNoProgress", "bufio.ErrNegativeAdvance", "bufio.ErrAdvanceTooFar", "unicode/utf8.first", "unicode/utf8.acceptRanges"], ifaces := true, apart := false, laid := [("unicode/utf8.acceptRanges", laid_unicode_utf8_acceptRanges), ("io.EOF", laid_io_EOF), ("io.ErrNoProgress", laid_io_ErrNoProgress), ("bufio.ErrTooLong", laid_bufio_ErrTooLong), ("bufio.ErrNegativeAdvance", laid_bufio_ErrNegativeAdvance), ("bufio.ErrAdvanceTooFar", laid_bufio_ErrAdvanceTooFar), ("bufio.ErrBadReadCount", laid_bufio_ErrBadReadCount), ("bufio.ErrFinalToken", laid_bufio_ErrFinalToken), ("loop.example/lib-g01189/impl.errSplit", laid_loop_example_lib_g01189_impl_errSplit), ("loop.example/lib-g01189/impl.errRead", laid_loop_example_lib_g01189_impl_errRead), ("unicode/utf8.first", laid_unicode_utf8_first)] }
def FnRuleWordsSaid : Prop := fnRuleWordsRow.holds Tryd.pinned (OpenSpec.ofChange fnRuleWordsSpec)

/-- ITS FALSE NEIGHBOUR: 'it returns false'. Refute it at one input. -/
def fnRuleWordsWrong : ChangeSpec := { name := "fnRuleWords", vars := ["loop.example/lib-g01189/impl.errRead", "loop.example/lib-g01189/impl.errSplit"], fn := fun _ => fun
  | [d, g1, g2] => { results := [.lit (.bool false)], args := [d], vars := [g1, g2] }
  | _ => none }
def FnRuleWordsWrongFalsely : Prop := fnRuleWordsRow.holds Tryd.pinned (OpenSpec.ofChange fnRuleWordsWrong)

/-- 'laws.FnEmptyForever': WHATEVER THE INPUT: true; the input reads as it did. -/
def fnEmptyForeverSpec : ChangeSpec := { name := "fnEmptyForever", vars := ["loop.example/lib-g01189/impl.errRead", "loop.example/lib-g01189/impl.errSplit"], fn := fun _ => fun
  | [d1, d2, g1, g2] => { results := [.lit (.bool true)], args := [d1, d2], vars := [g1, g2] }
  | _ => none }
def fnEmptyForeverRow : OpenClaim := { program := "ytkclapimgmnldaadoor", sum := "646f5e7f82226d053a20271244014837d69668775766ba37c56548a159e33ec3", func := "loop.example/lib-g01189/laws.FnEmptyForever", spec := "fnEmptyForever", inPlace := ["internal/bytealg.IndexByte"], unfollowed := true, recurses := true, named := ["io.EOF", "loop.example/lib-g01189/impl.errRead", "bufio.ErrFinalToken", "loop.example/lib-g01189/impl.errSplit", "bufio.ErrTooLong", "bufio.ErrNegativeAdvance", "bufio.ErrAdvanceTooFar", "bufio.ErrBadReadCount", "io.ErrNoProgress"], ifaces := true, apart := false, laid := [("io.EOF", laid_io_EOF), ("io.ErrNoProgress", laid_io_ErrNoProgress), ("bufio.ErrTooLong", laid_bufio_ErrTooLong), ("bufio.ErrNegativeAdvance", laid_bufio_ErrNegativeAdvance), ("bufio.ErrAdvanceTooFar", laid_bufio_ErrAdvanceTooFar), ("bufio.ErrBadReadCount", laid_bufio_ErrBadReadCount), ("bufio.ErrFinalToken", laid_bufio_ErrFinalToken), ("loop.example/lib-g01189/impl.errSplit", laid_loop_example_lib_g01189_impl_errSplit), ("loop.example/lib-g01189/impl.errRead", laid_loop_example_lib_g01189_impl_errRead)] }
def FnEmptyForeverSaid : Prop := fnEmptyForeverRow.holds Tryd.pinned (OpenSpec.ofChange fnEmptyForeverSpec)

/-- ITS FALSE NEIGHBOUR: 'it returns false'. Refute it at one input. -/
def fnEmptyForeverWrong : ChangeSpec := { name := "fnEmptyForever", vars := ["loop.example/lib-g01189/impl.errRead", "loop.example/lib-g01189/impl.errSplit"], fn := fun _ => fun
  | [d1, d2, g1, g2] => { results := [.lit (.bool false)], args := [d1, d2], vars := [g1, g2] }
  | _ => none }
def FnEmptyForeverWrongFalsely : Prop := fnEmptyForeverRow.holds Tryd.pinned (OpenSpec.ofChange fnEmptyForeverWrong)

/-- 'laws.FnFinal': WHATEVER THE INPUT: true; the input reads as it did. -/
def fnFinalSpec : ChangeSpec := { name := "fnFinal", vars := ["loop.example/lib-g01189/impl.errRead", "loop.example/lib-g01189/impl.errSplit"], fn := fun _ => fun
  | [d1, d2, d3, g1, g2] => { results := [.lit (.bool true)], args := [d1, d2, d3], vars := [g1, g2] }
  | _ => none }
def fnFinalRow : OpenClaim := { program := "ytkclapimgmnldaadoor", sum := "646f5e7f82226d053a20271244014837d69668775766ba37c56548a159e33ec3", func := "loop.example/lib-g01189/laws.FnFinal", spec := "fnFinal", inPlace := ["internal/bytealg.IndexByte"], unfollowed := true, recurses := true, named := ["io.EOF", "loop.example/lib-g01189/impl.errRead", "bufio.ErrFinalToken", "loop.example/lib-g01189/impl.errSplit", "bufio.ErrTooLong", "bufio.ErrNegativeAdvance", "bufio.ErrAdvanceTooFar", "bufio.ErrBadReadCount", "io.ErrNoProgress"], ifaces := true, apart := false, laid := [("io.EOF", laid_io_EOF), ("io.ErrNoProgress", laid_io_ErrNoProgress), ("bufio.ErrTooLong", laid_bufio_ErrTooLong), ("bufio.ErrNegativeAdvance", laid_bufio_ErrNegativeAdvance), ("bufio.ErrAdvanceTooFar", laid_bufio_ErrAdvanceTooFar), ("bufio.ErrBadReadCount", laid_bufio_ErrBadReadCount), ("bufio.ErrFinalToken", laid_bufio_ErrFinalToken), ("loop.example/lib-g01189/impl.errSplit", laid_loop_example_lib_g01189_impl_errSplit), ("loop.example/lib-g01189/impl.errRead", laid_loop_example_lib_g01189_impl_errRead)] }
def FnFinalSaid : Prop := fnFinalRow.holds Tryd.pinned (OpenSpec.ofChange fnFinalSpec)

/-- ITS FALSE NEIGHBOUR: 'it returns false'. Refute it at one input. -/
def fnFinalWrong : ChangeSpec := { name := "fnFinal", vars := ["loop.example/lib-g01189/impl.errRead", "loop.example/lib-g01189/impl.errSplit"], fn := fun _ => fun
  | [d1, d2, d3, g1, g2] => { results := [.lit (.bool false)], args := [d1, d2, d3], vars := [g1, g2] }
  | _ => none }
def FnFinalWrongFalsely : Prop := fnFinalRow.holds Tryd.pinned (OpenSpec.ofChange fnFinalWrong)

/-- 'laws.FnFinalNil': WHATEVER THE INPUT: true; the input reads as it did. -/
def fnFinalNilSpec : ChangeSpec := { name := "fnFinalNil", vars := ["loop.example/lib-g01189/impl.errRead", "loop.example/lib-g01189/impl.errSplit"], fn := fun _ => fun
  | [d1, d2, g1, g2] => { results := [.lit (.bool true)], args := [d1, d2], vars := [g1, g2] }
  | _ => none }
def fnFinalNilRow : OpenClaim := { program := "ytkclapimgmnldaadoor", sum := "646f5e7f82226d053a20271244014837d69668775766ba37c56548a159e33ec3", func := "loop.example/lib-g01189/laws.FnFinalNil", spec := "fnFinalNil", inPlace := ["internal/bytealg.IndexByte"], unfollowed := true, recurses := true, named := ["io.EOF", "loop.example/lib-g01189/impl.errRead", "bufio.ErrFinalToken", "loop.example/lib-g01189/impl.errSplit", "bufio.ErrTooLong", "bufio.ErrNegativeAdvance", "bufio.ErrAdvanceTooFar", "bufio.ErrBadReadCount", "io.ErrNoProgress"], ifaces := true, apart := false, laid := [("io.EOF", laid_io_EOF), ("io.ErrNoProgress", laid_io_ErrNoProgress), ("bufio.ErrTooLong", laid_bufio_ErrTooLong), ("bufio.ErrNegativeAdvance", laid_bufio_ErrNegativeAdvance), ("bufio.ErrAdvanceTooFar", laid_bufio_ErrAdvanceTooFar), ("bufio.ErrBadReadCount", laid_bufio_ErrBadReadCount), ("bufio.ErrFinalToken", laid_bufio_ErrFinalToken), ("loop.example/lib-g01189/impl.errSplit", laid_loop_example_lib_g01189_impl_errSplit), ("loop.example/lib-g01189/impl.errRead", laid_loop_example_lib_g01189_impl_errRead)] }
def FnFinalNilSaid : Prop := fnFinalNilRow.holds Tryd.pinned (OpenSpec.ofChange fnFinalNilSpec)

/-- ITS FALSE NEIGHBOUR: 'it returns false'. Refute it at one input. -/
def fnFinalNilWrong : ChangeSpec := { name := "fnFinalNil", vars := ["loop.example/lib-g01189/impl.errRead", "loop.example/lib-g01189/impl.errSplit"], fn := fun _ => fun
  | [d1, d2, g1, g2] => { results := [.lit (.bool false)], args := [d1, d2], vars := [g1, g2] }
  | _ => none }
def FnFinalNilWrongFalsely : Prop := fnFinalNilRow.holds Tryd.pinned (OpenSpec.ofChange fnFinalNilWrong)

/-- 'laws.FnScript': WHATEVER THE INPUT: true; the input reads as it did. -/
def fnScriptSpec : ChangeSpec := { name := "fnScript", vars := ["loop.example/lib-g01189/impl.errRead", "loop.example/lib-g01189/impl.errSplit"], fn := fun _ => fun
  | [d1, d2, d3, d4, g1, g2] => { results := [.lit (.bool true)], args := [d1, d2, d3, d4], vars := [g1, g2] }
  | _ => none }
def fnScriptRow : OpenClaim := { program := "ytkclapimgmnldaadoor", sum := "646f5e7f82226d053a20271244014837d69668775766ba37c56548a159e33ec3", func := "loop.example/lib-g01189/laws.FnScript", spec := "fnScript", inPlace := ["internal/bytealg.IndexByte"], unfollowed := true, recurses := true, named := ["io.EOF", "loop.example/lib-g01189/impl.errRead", "bufio.ErrFinalToken", "loop.example/lib-g01189/impl.errSplit", "bufio.ErrTooLong", "bufio.ErrNegativeAdvance", "bufio.ErrAdvanceTooFar", "bufio.ErrBadReadCount", "io.ErrNoProgress"], ifaces := true, apart := false, laid := [("io.EOF", laid_io_EOF), ("io.ErrNoProgress", laid_io_ErrNoProgress), ("bufio.ErrTooLong", laid_bufio_ErrTooLong), ("bufio.ErrNegativeAdvance", laid_bufio_ErrNegativeAdvance), ("bufio.ErrAdvanceTooFar", laid_bufio_ErrAdvanceTooFar), ("bufio.ErrBadReadCount", laid_bufio_ErrBadReadCount), ("bufio.ErrFinalToken", laid_bufio_ErrFinalToken), ("loop.example/lib-g01189/impl.errSplit", laid_loop_example_lib_g01189_impl_errSplit), ("loop.example/lib-g01189/impl.errRead", laid_loop_example_lib_g01189_impl_errRead)] }
def FnScriptSaid : Prop := fnScriptRow.holds Tryd.pinned (OpenSpec.ofChange fnScriptSpec)

/-- ITS FALSE NEIGHBOUR: 'it returns false'. Refute it at one input. -/
def fnScriptWrong : ChangeSpec := { name := "fnScript", vars := ["loop.example/lib-g01189/impl.errRead", "loop.example/lib-g01189/impl.errSplit"], fn := fun _ => fun
  | [d1, d2, d3, d4, g1, g2] => { results := [.lit (.bool false)], args := [d1, d2, d3, d4], vars := [g1, g2] }
  | _ => none }
def FnScriptWrongFalsely : Prop := fnScriptRow.holds Tryd.pinned (OpenSpec.ofChange fnScriptWrong)

/- THE SECOND FORM. 'bulk': how many values and letters a reading holds, each counted each time it is reached (what is shared counts as often as it is met; a slice's spare places count too). A statement '..UptoSaid' is the law's where the arguments, and the package variables that the reading takes, are together of bulk at most 1048576: NARROWER than '..Said'. Prove '..Said' where nothing that the law and all that it calls make is longer than what came in: it says more and counts as full. Else prove '..UptoSaid'. A law counts once. -/
mutual
def uptoBulk {H : Type} : DataW H → Nat
  | .lit (.string bytes) => bytes.length + 1
  | .lit _ => 1
  | .nil => 1
  | .ptr d => uptoBulk d + 1
  | .slice elems spare => uptoBulkAll elems + uptoBulkAll spare + 1
  | .agg parts => uptoBulkAll parts + 1
  | .iface _ d => uptoBulk d + 1
  | .map entries => uptoBulkEntries entries + 1
  | .held _ => 1
def uptoBulkAll {H : Type} : List (DataW H) → Nat
  | [] => 0
  | d :: r => uptoBulk d + uptoBulkAll r
def uptoBulkEntries {H : Type} : List (Lit × DataW H) → Nat
  | [] => 0
  | x :: r => uptoBulkEntry x + uptoBulkEntries r
def uptoBulkEntry {H : Type} : Lit × DataW H → Nat
  | (.string bytes, d) => bytes.length + uptoBulk d + 1
  | (_, d) => uptoBulk d + 1
 end
def uptoSmall : (H : Type) → List (DataW H) → Bool := fun _ ds => decide (uptoBulkAll ds ≤ 1048576)
def OpenSpec.upto (s : _root_.Go.ChangeSpec) : _root_.Go.OpenSpec := { _root_.Go.OpenSpec.ofChange s with cond := some uptoSmall }

/-- 'laws.FnRule', WHERE WHAT IT READS IS OF BULK AT MOST 1048576: true; the input reads as it did. -/
def fnRuleUptoRow : OpenClaim := { program := "ytkclapimgmnldaadoor", sum := "646f5e7f82226d053a20271244014837d69668775766ba37c56548a159e33ec3", func := "loop.example/lib-g01189/laws.FnRule", spec := "fnRule", inPlace := ["internal/bytealg.IndexByte"], unfollowed := true, recurses := true, named := ["io.EOF", "loop.example/lib-g01189/impl.errRead", "loop.example/lib-g01189/impl.errSplit", "bufio.ErrFinalToken", "bufio.ErrTooLong", "bufio.ErrBadReadCount", "io.ErrNoProgress", "bufio.ErrNegativeAdvance", "bufio.ErrAdvanceTooFar"], ifaces := true, apart := false, laid := [("io.EOF", laid_io_EOF), ("io.ErrNoProgress", laid_io_ErrNoProgress), ("bufio.ErrTooLong", laid_bufio_ErrTooLong), ("bufio.ErrNegativeAdvance", laid_bufio_ErrNegativeAdvance), ("bufio.ErrAdvanceTooFar", laid_bufio_ErrAdvanceTooFar), ("bufio.ErrBadReadCount", laid_bufio_ErrBadReadCount), ("bufio.ErrFinalToken", laid_bufio_ErrFinalToken), ("loop.example/lib-g01189/impl.errSplit", laid_loop_example_lib_g01189_impl_errSplit), ("loop.example/lib-g01189/impl.errRead", laid_loop_example_lib_g01189_impl_errRead)], narrowed := true }
def FnRuleUptoSaid : Prop := fnRuleUptoRow.holds Tryd.pinned (OpenSpec.upto fnRuleSpec)

/-- 'laws.FnRuleCalls', WHERE WHAT IT READS IS OF BULK AT MOST 1048576: true; the input reads as it did. -/
def fnRuleCallsUptoRow : OpenClaim := { program := "ytkclapimgmnldaadoor", sum := "646f5e7f82226d053a20271244014837d69668775766ba37c56548a159e33ec3", func := "loop.example/lib-g01189/laws.FnRuleCalls", spec := "fnRuleCalls", inPlace := ["internal/bytealg.IndexByte"], unfollowed := true, recurses := true, named := ["io.EOF", "loop.example/lib-g01189/impl.errRead", "loop.example/lib-g01189/impl.errSplit", "bufio.ErrFinalToken", "bufio.ErrTooLong", "bufio.ErrBadReadCount", "io.ErrNoProgress", "bufio.ErrNegativeAdvance", "bufio.ErrAdvanceTooFar"], ifaces := true, apart := false, laid := [("io.EOF", laid_io_EOF), ("io.ErrNoProgress", laid_io_ErrNoProgress), ("bufio.ErrTooLong", laid_bufio_ErrTooLong), ("bufio.ErrNegativeAdvance", laid_bufio_ErrNegativeAdvance), ("bufio.ErrAdvanceTooFar", laid_bufio_ErrAdvanceTooFar), ("bufio.ErrBadReadCount", laid_bufio_ErrBadReadCount), ("bufio.ErrFinalToken", laid_bufio_ErrFinalToken), ("loop.example/lib-g01189/impl.errSplit", laid_loop_example_lib_g01189_impl_errSplit), ("loop.example/lib-g01189/impl.errRead", laid_loop_example_lib_g01189_impl_errRead)], narrowed := true }
def FnRuleCallsUptoSaid : Prop := fnRuleCallsUptoRow.holds Tryd.pinned (OpenSpec.upto fnRuleCallsSpec)

/-- 'laws.FnRuleLines', WHERE WHAT IT READS IS OF BULK AT MOST 1048576: true; the input reads as it did. -/
def fnRuleLinesUptoRow : OpenClaim := { program := "ytkclapimgmnldaadoor", sum := "646f5e7f82226d053a20271244014837d69668775766ba37c56548a159e33ec3", func := "loop.example/lib-g01189/laws.FnRuleLines", spec := "fnRuleLines", inPlace := ["internal/bytealg.IndexByte"], unfollowed := true, recurses := true, named := ["io.EOF", "loop.example/lib-g01189/impl.errRead", "loop.example/lib-g01189/impl.errSplit", "bufio.ErrFinalToken", "bufio.ErrTooLong", "bufio.ErrBadReadCount", "io.ErrNoProgress", "bufio.ErrNegativeAdvance", "bufio.ErrAdvanceTooFar"], ifaces := true, apart := false, laid := [("io.EOF", laid_io_EOF), ("io.ErrNoProgress", laid_io_ErrNoProgress), ("bufio.ErrTooLong", laid_bufio_ErrTooLong), ("bufio.ErrNegativeAdvance", laid_bufio_ErrNegativeAdvance), ("bufio.ErrAdvanceTooFar", laid_bufio_ErrAdvanceTooFar), ("bufio.ErrBadReadCount", laid_bufio_ErrBadReadCount), ("bufio.ErrFinalToken", laid_bufio_ErrFinalToken), ("loop.example/lib-g01189/impl.errSplit", laid_loop_example_lib_g01189_impl_errSplit), ("loop.example/lib-g01189/impl.errRead", laid_loop_example_lib_g01189_impl_errRead)], narrowed := true }
def FnRuleLinesUptoSaid : Prop := fnRuleLinesUptoRow.holds Tryd.pinned (OpenSpec.upto fnRuleLinesSpec)

/-- 'laws.FnRuleWords', WHERE WHAT IT READS IS OF BULK AT MOST 1048576: true; the input reads as it did. -/
def fnRuleWordsUptoRow : OpenClaim := { program := "ytkclapimgmnldaadoor", sum := "646f5e7f82226d053a20271244014837d69668775766ba37c56548a159e33ec3", func := "loop.example/lib-g01189/laws.FnRuleWords", spec := "fnRuleWords", inPlace := ["internal/bytealg.IndexByte"], unfollowed := true, recurses := true, named := ["io.EOF", "loop.example/lib-g01189/impl.errRead", "loop.example/lib-g01189/impl.errSplit", "bufio.ErrFinalToken", "bufio.ErrTooLong", "bufio.ErrBadReadCount", "io.ErrNoProgress", "bufio.ErrNegativeAdvance", "bufio.ErrAdvanceTooFar", "unicode/utf8.first", "unicode/utf8.acceptRanges"], ifaces := true, apart := false, laid := [("unicode/utf8.acceptRanges", laid_unicode_utf8_acceptRanges), ("io.EOF", laid_io_EOF), ("io.ErrNoProgress", laid_io_ErrNoProgress), ("bufio.ErrTooLong", laid_bufio_ErrTooLong), ("bufio.ErrNegativeAdvance", laid_bufio_ErrNegativeAdvance), ("bufio.ErrAdvanceTooFar", laid_bufio_ErrAdvanceTooFar), ("bufio.ErrBadReadCount", laid_bufio_ErrBadReadCount), ("bufio.ErrFinalToken", laid_bufio_ErrFinalToken), ("loop.example/lib-g01189/impl.errSplit", laid_loop_example_lib_g01189_impl_errSplit), ("loop.example/lib-g01189/impl.errRead", laid_loop_example_lib_g01189_impl_errRead), ("unicode/utf8.first", laid_unicode_utf8_first)], narrowed := true }
def FnRuleWordsUptoSaid : Prop := fnRuleWordsUptoRow.holds Tryd.pinned (OpenSpec.upto fnRuleWordsSpec)

/-- 'laws.FnEmptyForever', WHERE WHAT IT READS IS OF BULK AT MOST 1048576: true; the input reads as it did. -/
def fnEmptyForeverUptoRow : OpenClaim := { program := "ytkclapimgmnldaadoor", sum := "646f5e7f82226d053a20271244014837d69668775766ba37c56548a159e33ec3", func := "loop.example/lib-g01189/laws.FnEmptyForever", spec := "fnEmptyForever", inPlace := ["internal/bytealg.IndexByte"], unfollowed := true, recurses := true, named := ["io.EOF", "loop.example/lib-g01189/impl.errRead", "bufio.ErrFinalToken", "loop.example/lib-g01189/impl.errSplit", "bufio.ErrTooLong", "bufio.ErrNegativeAdvance", "bufio.ErrAdvanceTooFar", "bufio.ErrBadReadCount", "io.ErrNoProgress"], ifaces := true, apart := false, laid := [("io.EOF", laid_io_EOF), ("io.ErrNoProgress", laid_io_ErrNoProgress), ("bufio.ErrTooLong", laid_bufio_ErrTooLong), ("bufio.ErrNegativeAdvance", laid_bufio_ErrNegativeAdvance), ("bufio.ErrAdvanceTooFar", laid_bufio_ErrAdvanceTooFar), ("bufio.ErrBadReadCount", laid_bufio_ErrBadReadCount), ("bufio.ErrFinalToken", laid_bufio_ErrFinalToken), ("loop.example/lib-g01189/impl.errSplit", laid_loop_example_lib_g01189_impl_errSplit), ("loop.example/lib-g01189/impl.errRead", laid_loop_example_lib_g01189_impl_errRead)], narrowed := true }
def FnEmptyForeverUptoSaid : Prop := fnEmptyForeverUptoRow.holds Tryd.pinned (OpenSpec.upto fnEmptyForeverSpec)

/-- 'laws.FnFinal', WHERE WHAT IT READS IS OF BULK AT MOST 1048576: true; the input reads as it did. -/
def fnFinalUptoRow : OpenClaim := { program := "ytkclapimgmnldaadoor", sum := "646f5e7f82226d053a20271244014837d69668775766ba37c56548a159e33ec3", func := "loop.example/lib-g01189/laws.FnFinal", spec := "fnFinal", inPlace := ["internal/bytealg.IndexByte"], unfollowed := true, recurses := true, named := ["io.EOF", "loop.example/lib-g01189/impl.errRead", "bufio.ErrFinalToken", "loop.example/lib-g01189/impl.errSplit", "bufio.ErrTooLong", "bufio.ErrNegativeAdvance", "bufio.ErrAdvanceTooFar", "bufio.ErrBadReadCount", "io.ErrNoProgress"], ifaces := true, apart := false, laid := [("io.EOF", laid_io_EOF), ("io.ErrNoProgress", laid_io_ErrNoProgress), ("bufio.ErrTooLong", laid_bufio_ErrTooLong), ("bufio.ErrNegativeAdvance", laid_bufio_ErrNegativeAdvance), ("bufio.ErrAdvanceTooFar", laid_bufio_ErrAdvanceTooFar), ("bufio.ErrBadReadCount", laid_bufio_ErrBadReadCount), ("bufio.ErrFinalToken", laid_bufio_ErrFinalToken), ("loop.example/lib-g01189/impl.errSplit", laid_loop_example_lib_g01189_impl_errSplit), ("loop.example/lib-g01189/impl.errRead", laid_loop_example_lib_g01189_impl_errRead)], narrowed := true }
def FnFinalUptoSaid : Prop := fnFinalUptoRow.holds Tryd.pinned (OpenSpec.upto fnFinalSpec)

/-- 'laws.FnFinalNil', WHERE WHAT IT READS IS OF BULK AT MOST 1048576: true; the input reads as it did. -/
def fnFinalNilUptoRow : OpenClaim := { program := "ytkclapimgmnldaadoor", sum := "646f5e7f82226d053a20271244014837d69668775766ba37c56548a159e33ec3", func := "loop.example/lib-g01189/laws.FnFinalNil", spec := "fnFinalNil", inPlace := ["internal/bytealg.IndexByte"], unfollowed := true, recurses := true, named := ["io.EOF", "loop.example/lib-g01189/impl.errRead", "bufio.ErrFinalToken", "loop.example/lib-g01189/impl.errSplit", "bufio.ErrTooLong", "bufio.ErrNegativeAdvance", "bufio.ErrAdvanceTooFar", "bufio.ErrBadReadCount", "io.ErrNoProgress"], ifaces := true, apart := false, laid := [("io.EOF", laid_io_EOF), ("io.ErrNoProgress", laid_io_ErrNoProgress), ("bufio.ErrTooLong", laid_bufio_ErrTooLong), ("bufio.ErrNegativeAdvance", laid_bufio_ErrNegativeAdvance), ("bufio.ErrAdvanceTooFar", laid_bufio_ErrAdvanceTooFar), ("bufio.ErrBadReadCount", laid_bufio_ErrBadReadCount), ("bufio.ErrFinalToken", laid_bufio_ErrFinalToken), ("loop.example/lib-g01189/impl.errSplit", laid_loop_example_lib_g01189_impl_errSplit), ("loop.example/lib-g01189/impl.errRead", laid_loop_example_lib_g01189_impl_errRead)], narrowed := true }
def FnFinalNilUptoSaid : Prop := fnFinalNilUptoRow.holds Tryd.pinned (OpenSpec.upto fnFinalNilSpec)

/-- 'laws.FnScript', WHERE WHAT IT READS IS OF BULK AT MOST 1048576: true; the input reads as it did. -/
def fnScriptUptoRow : OpenClaim := { program := "ytkclapimgmnldaadoor", sum := "646f5e7f82226d053a20271244014837d69668775766ba37c56548a159e33ec3", func := "loop.example/lib-g01189/laws.FnScript", spec := "fnScript", inPlace := ["internal/bytealg.IndexByte"], unfollowed := true, recurses := true, named := ["io.EOF", "loop.example/lib-g01189/impl.errRead", "bufio.ErrFinalToken", "loop.example/lib-g01189/impl.errSplit", "bufio.ErrTooLong", "bufio.ErrNegativeAdvance", "bufio.ErrAdvanceTooFar", "bufio.ErrBadReadCount", "io.ErrNoProgress"], ifaces := true, apart := false, laid := [("io.EOF", laid_io_EOF), ("io.ErrNoProgress", laid_io_ErrNoProgress), ("bufio.ErrTooLong", laid_bufio_ErrTooLong), ("bufio.ErrNegativeAdvance", laid_bufio_ErrNegativeAdvance), ("bufio.ErrAdvanceTooFar", laid_bufio_ErrAdvanceTooFar), ("bufio.ErrBadReadCount", laid_bufio_ErrBadReadCount), ("bufio.ErrFinalToken", laid_bufio_ErrFinalToken), ("loop.example/lib-g01189/impl.errSplit", laid_loop_example_lib_g01189_impl_errSplit), ("loop.example/lib-g01189/impl.errRead", laid_loop_example_lib_g01189_impl_errRead)], narrowed := true }
def FnScriptUptoSaid : Prop := fnScriptUptoRow.holds Tryd.pinned (OpenSpec.upto fnScriptSpec)

end Rows
end Go.Proofs.YtkclapimgmnldaaDoor
