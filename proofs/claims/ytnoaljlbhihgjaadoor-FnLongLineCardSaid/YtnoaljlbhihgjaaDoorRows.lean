/-
  NARROWER THAN 'FOR EVERY INPUT', by the rows' own cells (each row's printed sentence says how): FnWordsAfter: ifaces, laid · FnWordsBytes: ifaces, laid · FnWordsJoined: ifaces, laid · FnWordsPlain: ifaces, laid · FnWordsOfLines: ifaces, laid · FnSplitTwice: ifaces, laid · FnExactSplitLate: ifaces, laid · FnSplitStarted: ifaces, laid · FnWordStep: ifaces, laid · FnWordSteps: ifaces, laid · FnBufferTwice: ifaces, laid · FnLongLine: ifaces, laid.
  DERIVED. THE GIVEN ROWS OF THIS SEAT. 12 by the template 'for every input the law returns true; each argument reads behind the call as it read before'; 0 by the template 'total and deterministic' (their statements: YtnoaljlbhihgjaaDoorTotals.lean).
  GIVEN WITH THE SEED: the statements are not yours to turn. If you find one false, say at which input.
  Laid BY PROGRAM, IN A SANDBOX (cutbox-rows.mjs): the forced cells as the released guide's own fill.sh prints them over the translation 30f377203fe1dd99… (all of the seat's roots in one cut). By AI agents, Wed Nov 11 2026. No macro, syntax, notation, axiom, sorry.
-/
import Derived.Test.YtnoaljlbhihgjaaDoorChecked
import GoSem.PinnedTables
import GoSem.Claim
import GoSem.ClaimJoined
import GoSem.ClaimMapViews
import Derived.JoinedTies
import Derived.KernelRfl
namespace Go.Proofs.YtnoaljlbhihgjaaDoor
/- THE CELL 'sum', in the pinned program and in every row, IS THE sha256 OF THE DUMP (.gsa) THAT YtnoaljlbhihgjaaDoorProg.lean LOADS. Nothing in Lean hashes anything: it is a label: what it is worth is what the hold of that sum in a sandbox is worth. -/
noncomputable def Tryd.pinned : Pinned := { name := "ytnoaljlbhihgjaadoor", sum := "30f377203fe1dd99afa790f8c836e5ba38f29d36b354498c311660d4378307dc", checked := Tryd.checked }
namespace Rows
def none {H : Type} : Left H := { results := [], args := [] }

/- WHAT THE LISTED PACKAGE-LEVEL VARIABLES READ AS WHEN THE CALL BEGINS. Each datum BY PROGRAM (the guide's laid-datum.mjs) off the statement by which the dump's own 'gosem.cut.vars' lays the variable. In a bare row this is a premise. The card (YtnoaljlbhihgjaaDoorCards.lean) ties it to the program's text. -/
def laid_unicode_utf8_acceptRanges {H : Type} : DataW H := .agg [.agg [.lit (.int .u8 128), .lit (.int .u8 191)], .agg [.lit (.int .u8 160), .lit (.int .u8 191)], .agg [.lit (.int .u8 128), .lit (.int .u8 159)], .agg [.lit (.int .u8 144), .lit (.int .u8 191)], .agg [.lit (.int .u8 128), .lit (.int .u8 143)], .agg [.lit (.int .u8 0), .lit (.int .u8 0)], .agg [.lit (.int .u8 0), .lit (.int .u8 0)], .agg [.lit (.int .u8 0), .lit (.int .u8 0)], .agg [.lit (.int .u8 0), .lit (.int .u8 0)], .agg [.lit (.int .u8 0), .lit (.int .u8 0)], .agg [.lit (.int .u8 0), .lit (.int .u8 0)], .agg [.lit (.int .u8 0), .lit (.int .u8 0)], .agg [.lit (.int .u8 0), .lit (.int .u8 0)], .agg [.lit (.int .u8 0), .lit (.int .u8 0)], .agg [.lit (.int .u8 0), .lit (.int .u8 0)], .agg [.lit (.int .u8 0), .lit (.int .u8 0)]]
def laid_io_EOF {H : Type} : DataW H := .iface "*errors.errorString" (.ptr (.agg [.lit (.string [69, 79, 70])]))
def laid_io_ErrNoProgress {H : Type} : DataW H := .iface "*errors.errorString" (.ptr (.agg [.lit (.string [109, 117, 108, 116, 105, 112, 108, 101, 32, 82, 101, 97, 100, 32, 99, 97, 108, 108, 115, 32, 114, 101, 116, 117, 114, 110, 32, 110, 111, 32, 100, 97, 116, 97, 32, 111, 114, 32, 101, 114, 114, 111, 114])]))
def laid_bufio_ErrTooLong {H : Type} : DataW H := .iface "*errors.errorString" (.ptr (.agg [.lit (.string [98, 117, 102, 105, 111, 46, 83, 99, 97, 110, 110, 101, 114, 58, 32, 116, 111, 107, 101, 110, 32, 116, 111, 111, 32, 108, 111, 110, 103])]))
def laid_bufio_ErrNegativeAdvance {H : Type} : DataW H := .iface "*errors.errorString" (.ptr (.agg [.lit (.string [98, 117, 102, 105, 111, 46, 83, 99, 97, 110, 110, 101, 114, 58, 32, 83, 112, 108, 105, 116, 70, 117, 110, 99, 32, 114, 101, 116, 117, 114, 110, 115, 32, 110, 101, 103, 97, 116, 105, 118, 101, 32, 97, 100, 118, 97, 110, 99, 101, 32, 99, 111, 117, 110, 116])]))
def laid_bufio_ErrAdvanceTooFar {H : Type} : DataW H := .iface "*errors.errorString" (.ptr (.agg [.lit (.string [98, 117, 102, 105, 111, 46, 83, 99, 97, 110, 110, 101, 114, 58, 32, 83, 112, 108, 105, 116, 70, 117, 110, 99, 32, 114, 101, 116, 117, 114, 110, 115, 32, 97, 100, 118, 97, 110, 99, 101, 32, 99, 111, 117, 110, 116, 32, 98, 101, 121, 111, 110, 100, 32, 105, 110, 112, 117, 116])]))
def laid_bufio_ErrBadReadCount {H : Type} : DataW H := .iface "*errors.errorString" (.ptr (.agg [.lit (.string [98, 117, 102, 105, 111, 46, 83, 99, 97, 110, 110, 101, 114, 58, 32, 82, 101, 97, 100, 32, 114, 101, 116, 117, 114, 110, 101, 100, 32, 105, 109, 112, 111, 115, 115, 105, 98, 108, 101, 32, 99, 111, 117, 110, 116])]))
def laid_bufio_ErrFinalToken {H : Type} : DataW H := .iface "*errors.errorString" (.ptr (.agg [.lit (.string [102, 105, 110, 97, 108, 32, 116, 111, 107, 101, 110])]))
def laid_loop_example_lib_g01189_impl_errRead {H : Type} : DataW H := .iface "*errors.errorString" (.ptr (.agg [.lit (.string [114, 101, 97, 100])]))
/-- One of Go's own tables, pinned by name: the form's constant. -/
def laid_unicode_utf8_first : DataW Unit := Go.Pinned.utf8First
def laid_loop_example_lib_g01189_impl_errSplit {H : Type} : DataW H := .iface "*errors.errorString" (.ptr (.agg [.lit (.string [115, 112, 108, 105, 116])]))

/-- 'laws.FnWordsAfter': WHATEVER THE INPUT: true; the input reads as it did. -/
def fnWordsAfterSpec : ChangeSpec := { name := "fnWordsAfter", vars := ["loop.example/lib-g01189/impl.errRead"], fn := fun _ => fun
  | [d1, d2, d3, g1] => { results := [.lit (.bool true)], args := [d1, d2, d3], vars := [g1] }
  | _ => none }
def fnWordsAfterRow : OpenClaim := { program := "ytnoaljlbhihgjaadoor", sum := "30f377203fe1dd99afa790f8c836e5ba38f29d36b354498c311660d4378307dc", func := "loop.example/lib-g01189/laws.FnWordsAfter", spec := "fnWordsAfter", inPlace := ["internal/bytealg.IndexByte"], unfollowed := true, recurses := true, named := ["io.EOF", "loop.example/lib-g01189/impl.errRead", "unicode/utf8.first", "unicode/utf8.acceptRanges", "bufio.ErrFinalToken", "bufio.ErrTooLong", "bufio.ErrBadReadCount", "io.ErrNoProgress", "bufio.ErrNegativeAdvance", "bufio.ErrAdvanceTooFar"], ifaces := true, apart := false, laid := [("unicode/utf8.acceptRanges", laid_unicode_utf8_acceptRanges), ("io.EOF", laid_io_EOF), ("io.ErrNoProgress", laid_io_ErrNoProgress), ("bufio.ErrTooLong", laid_bufio_ErrTooLong), ("bufio.ErrNegativeAdvance", laid_bufio_ErrNegativeAdvance), ("bufio.ErrAdvanceTooFar", laid_bufio_ErrAdvanceTooFar), ("bufio.ErrBadReadCount", laid_bufio_ErrBadReadCount), ("bufio.ErrFinalToken", laid_bufio_ErrFinalToken), ("loop.example/lib-g01189/impl.errRead", laid_loop_example_lib_g01189_impl_errRead), ("unicode/utf8.first", laid_unicode_utf8_first)] }
def FnWordsAfterSaid : Prop := fnWordsAfterRow.holds Tryd.pinned (OpenSpec.ofChange fnWordsAfterSpec)

/-- ITS FALSE NEIGHBOUR: 'it returns false'. Refute it at one input. -/
def fnWordsAfterWrong : ChangeSpec := { name := "fnWordsAfter", vars := ["loop.example/lib-g01189/impl.errRead"], fn := fun _ => fun
  | [d1, d2, d3, g1] => { results := [.lit (.bool false)], args := [d1, d2, d3], vars := [g1] }
  | _ => none }
def FnWordsAfterWrongFalsely : Prop := fnWordsAfterRow.holds Tryd.pinned (OpenSpec.ofChange fnWordsAfterWrong)

/-- 'laws.FnWordsBytes': WHATEVER THE INPUT: true; the input reads as it did. -/
def fnWordsBytesSpec : ChangeSpec := { name := "fnWordsBytes", vars := ["loop.example/lib-g01189/impl.errRead"], fn := fun _ => fun
  | [d, g1] => { results := [.lit (.bool true)], args := [d], vars := [g1] }
  | _ => none }
def fnWordsBytesRow : OpenClaim := { program := "ytnoaljlbhihgjaadoor", sum := "30f377203fe1dd99afa790f8c836e5ba38f29d36b354498c311660d4378307dc", func := "loop.example/lib-g01189/laws.FnWordsBytes", spec := "fnWordsBytes", inPlace := ["internal/bytealg.IndexByte"], unfollowed := true, recurses := true, named := ["io.EOF", "loop.example/lib-g01189/impl.errRead", "unicode/utf8.first", "unicode/utf8.acceptRanges", "bufio.ErrFinalToken", "bufio.ErrTooLong", "bufio.ErrBadReadCount", "io.ErrNoProgress", "bufio.ErrNegativeAdvance", "bufio.ErrAdvanceTooFar"], ifaces := true, apart := false, laid := [("unicode/utf8.acceptRanges", laid_unicode_utf8_acceptRanges), ("io.EOF", laid_io_EOF), ("io.ErrNoProgress", laid_io_ErrNoProgress), ("bufio.ErrTooLong", laid_bufio_ErrTooLong), ("bufio.ErrNegativeAdvance", laid_bufio_ErrNegativeAdvance), ("bufio.ErrAdvanceTooFar", laid_bufio_ErrAdvanceTooFar), ("bufio.ErrBadReadCount", laid_bufio_ErrBadReadCount), ("bufio.ErrFinalToken", laid_bufio_ErrFinalToken), ("loop.example/lib-g01189/impl.errRead", laid_loop_example_lib_g01189_impl_errRead), ("unicode/utf8.first", laid_unicode_utf8_first)] }
def FnWordsBytesSaid : Prop := fnWordsBytesRow.holds Tryd.pinned (OpenSpec.ofChange fnWordsBytesSpec)

/-- ITS FALSE NEIGHBOUR: 'it returns false'. Refute it at one input. -/
def fnWordsBytesWrong : ChangeSpec := { name := "fnWordsBytes", vars := ["loop.example/lib-g01189/impl.errRead"], fn := fun _ => fun
  | [d, g1] => { results := [.lit (.bool false)], args := [d], vars := [g1] }
  | _ => none }
def FnWordsBytesWrongFalsely : Prop := fnWordsBytesRow.holds Tryd.pinned (OpenSpec.ofChange fnWordsBytesWrong)

/-- 'laws.FnWordsJoined': WHATEVER THE INPUT: true; the input reads as it did. -/
def fnWordsJoinedSpec : ChangeSpec := { name := "fnWordsJoined", vars := ["loop.example/lib-g01189/impl.errRead"], fn := fun _ => fun
  | [d1, d2, g1] => { results := [.lit (.bool true)], args := [d1, d2], vars := [g1] }
  | _ => none }
def fnWordsJoinedRow : OpenClaim := { program := "ytnoaljlbhihgjaadoor", sum := "30f377203fe1dd99afa790f8c836e5ba38f29d36b354498c311660d4378307dc", func := "loop.example/lib-g01189/laws.FnWordsJoined", spec := "fnWordsJoined", inPlace := ["internal/bytealg.IndexByte"], unfollowed := true, recurses := true, named := ["io.EOF", "loop.example/lib-g01189/impl.errRead", "unicode/utf8.first", "unicode/utf8.acceptRanges", "bufio.ErrFinalToken", "bufio.ErrTooLong", "bufio.ErrBadReadCount", "io.ErrNoProgress", "bufio.ErrNegativeAdvance", "bufio.ErrAdvanceTooFar"], ifaces := true, apart := false, laid := [("unicode/utf8.acceptRanges", laid_unicode_utf8_acceptRanges), ("io.EOF", laid_io_EOF), ("io.ErrNoProgress", laid_io_ErrNoProgress), ("bufio.ErrTooLong", laid_bufio_ErrTooLong), ("bufio.ErrNegativeAdvance", laid_bufio_ErrNegativeAdvance), ("bufio.ErrAdvanceTooFar", laid_bufio_ErrAdvanceTooFar), ("bufio.ErrBadReadCount", laid_bufio_ErrBadReadCount), ("bufio.ErrFinalToken", laid_bufio_ErrFinalToken), ("loop.example/lib-g01189/impl.errRead", laid_loop_example_lib_g01189_impl_errRead), ("unicode/utf8.first", laid_unicode_utf8_first)] }
def FnWordsJoinedSaid : Prop := fnWordsJoinedRow.holds Tryd.pinned (OpenSpec.ofChange fnWordsJoinedSpec)

/-- ITS FALSE NEIGHBOUR: 'it returns false'. Refute it at one input. -/
def fnWordsJoinedWrong : ChangeSpec := { name := "fnWordsJoined", vars := ["loop.example/lib-g01189/impl.errRead"], fn := fun _ => fun
  | [d1, d2, g1] => { results := [.lit (.bool false)], args := [d1, d2], vars := [g1] }
  | _ => none }
def FnWordsJoinedWrongFalsely : Prop := fnWordsJoinedRow.holds Tryd.pinned (OpenSpec.ofChange fnWordsJoinedWrong)

/-- 'laws.FnWordsPlain': WHATEVER THE INPUT: true; the input reads as it did. -/
def fnWordsPlainSpec : ChangeSpec := { name := "fnWordsPlain", vars := ["loop.example/lib-g01189/impl.errRead"], fn := fun _ => fun
  | [d, g1] => { results := [.lit (.bool true)], args := [d], vars := [g1] }
  | _ => none }
def fnWordsPlainRow : OpenClaim := { program := "ytnoaljlbhihgjaadoor", sum := "30f377203fe1dd99afa790f8c836e5ba38f29d36b354498c311660d4378307dc", func := "loop.example/lib-g01189/laws.FnWordsPlain", spec := "fnWordsPlain", inPlace := ["internal/bytealg.IndexByte"], unfollowed := true, recurses := true, named := ["io.EOF", "loop.example/lib-g01189/impl.errRead", "unicode/utf8.first", "unicode/utf8.acceptRanges", "bufio.ErrFinalToken", "bufio.ErrTooLong", "bufio.ErrBadReadCount", "io.ErrNoProgress", "bufio.ErrNegativeAdvance", "bufio.ErrAdvanceTooFar"], ifaces := true, apart := false, laid := [("unicode/utf8.acceptRanges", laid_unicode_utf8_acceptRanges), ("io.EOF", laid_io_EOF), ("io.ErrNoProgress", laid_io_ErrNoProgress), ("bufio.ErrTooLong", laid_bufio_ErrTooLong), ("bufio.ErrNegativeAdvance", laid_bufio_ErrNegativeAdvance), ("bufio.ErrAdvanceTooFar", laid_bufio_ErrAdvanceTooFar), ("bufio.ErrBadReadCount", laid_bufio_ErrBadReadCount), ("bufio.ErrFinalToken", laid_bufio_ErrFinalToken), ("loop.example/lib-g01189/impl.errRead", laid_loop_example_lib_g01189_impl_errRead), ("unicode/utf8.first", laid_unicode_utf8_first)] }
def FnWordsPlainSaid : Prop := fnWordsPlainRow.holds Tryd.pinned (OpenSpec.ofChange fnWordsPlainSpec)

/-- ITS FALSE NEIGHBOUR: 'it returns false'. Refute it at one input. -/
def fnWordsPlainWrong : ChangeSpec := { name := "fnWordsPlain", vars := ["loop.example/lib-g01189/impl.errRead"], fn := fun _ => fun
  | [d, g1] => { results := [.lit (.bool false)], args := [d], vars := [g1] }
  | _ => none }
def FnWordsPlainWrongFalsely : Prop := fnWordsPlainRow.holds Tryd.pinned (OpenSpec.ofChange fnWordsPlainWrong)

/-- 'laws.FnWordsOfLines': WHATEVER THE INPUT: true; the input reads as it did. -/
def fnWordsOfLinesSpec : ChangeSpec := { name := "fnWordsOfLines", vars := ["loop.example/lib-g01189/impl.errRead"], fn := fun _ => fun
  | [d, g1] => { results := [.lit (.bool true)], args := [d], vars := [g1] }
  | _ => none }
def fnWordsOfLinesRow : OpenClaim := { program := "ytnoaljlbhihgjaadoor", sum := "30f377203fe1dd99afa790f8c836e5ba38f29d36b354498c311660d4378307dc", func := "loop.example/lib-g01189/laws.FnWordsOfLines", spec := "fnWordsOfLines", inPlace := ["internal/bytealg.IndexByte"], unfollowed := true, recurses := true, named := ["io.EOF", "loop.example/lib-g01189/impl.errRead", "bufio.ErrFinalToken", "bufio.ErrTooLong", "bufio.ErrBadReadCount", "io.ErrNoProgress", "bufio.ErrNegativeAdvance", "bufio.ErrAdvanceTooFar", "unicode/utf8.first", "unicode/utf8.acceptRanges"], ifaces := true, apart := false, laid := [("unicode/utf8.acceptRanges", laid_unicode_utf8_acceptRanges), ("io.EOF", laid_io_EOF), ("io.ErrNoProgress", laid_io_ErrNoProgress), ("bufio.ErrTooLong", laid_bufio_ErrTooLong), ("bufio.ErrNegativeAdvance", laid_bufio_ErrNegativeAdvance), ("bufio.ErrAdvanceTooFar", laid_bufio_ErrAdvanceTooFar), ("bufio.ErrBadReadCount", laid_bufio_ErrBadReadCount), ("bufio.ErrFinalToken", laid_bufio_ErrFinalToken), ("loop.example/lib-g01189/impl.errRead", laid_loop_example_lib_g01189_impl_errRead), ("unicode/utf8.first", laid_unicode_utf8_first)] }
def FnWordsOfLinesSaid : Prop := fnWordsOfLinesRow.holds Tryd.pinned (OpenSpec.ofChange fnWordsOfLinesSpec)

/-- ITS FALSE NEIGHBOUR: 'it returns false'. Refute it at one input. -/
def fnWordsOfLinesWrong : ChangeSpec := { name := "fnWordsOfLines", vars := ["loop.example/lib-g01189/impl.errRead"], fn := fun _ => fun
  | [d, g1] => { results := [.lit (.bool false)], args := [d], vars := [g1] }
  | _ => none }
def FnWordsOfLinesWrongFalsely : Prop := fnWordsOfLinesRow.holds Tryd.pinned (OpenSpec.ofChange fnWordsOfLinesWrong)

/-- 'laws.FnSplitTwice': WHATEVER THE INPUT: true; the input reads as it did. -/
def fnSplitTwiceSpec : ChangeSpec := { name := "fnSplitTwice", vars := ["loop.example/lib-g01189/impl.errRead"], fn := fun _ => fun
  | [d1, d2, g1] => { results := [.lit (.bool true)], args := [d1, d2], vars := [g1] }
  | _ => none }
def fnSplitTwiceRow : OpenClaim := { program := "ytnoaljlbhihgjaadoor", sum := "30f377203fe1dd99afa790f8c836e5ba38f29d36b354498c311660d4378307dc", func := "loop.example/lib-g01189/laws.FnSplitTwice", spec := "fnSplitTwice", inPlace := ["internal/bytealg.IndexByte"], unfollowed := true, recurses := true, named := ["io.EOF", "loop.example/lib-g01189/impl.errRead", "unicode/utf8.first", "unicode/utf8.acceptRanges", "bufio.ErrFinalToken", "bufio.ErrTooLong", "bufio.ErrBadReadCount", "io.ErrNoProgress", "bufio.ErrNegativeAdvance", "bufio.ErrAdvanceTooFar"], ifaces := true, apart := false, laid := [("unicode/utf8.acceptRanges", laid_unicode_utf8_acceptRanges), ("io.EOF", laid_io_EOF), ("io.ErrNoProgress", laid_io_ErrNoProgress), ("bufio.ErrTooLong", laid_bufio_ErrTooLong), ("bufio.ErrNegativeAdvance", laid_bufio_ErrNegativeAdvance), ("bufio.ErrAdvanceTooFar", laid_bufio_ErrAdvanceTooFar), ("bufio.ErrBadReadCount", laid_bufio_ErrBadReadCount), ("bufio.ErrFinalToken", laid_bufio_ErrFinalToken), ("loop.example/lib-g01189/impl.errRead", laid_loop_example_lib_g01189_impl_errRead), ("unicode/utf8.first", laid_unicode_utf8_first)] }
def FnSplitTwiceSaid : Prop := fnSplitTwiceRow.holds Tryd.pinned (OpenSpec.ofChange fnSplitTwiceSpec)

/-- ITS FALSE NEIGHBOUR: 'it returns false'. Refute it at one input. -/
def fnSplitTwiceWrong : ChangeSpec := { name := "fnSplitTwice", vars := ["loop.example/lib-g01189/impl.errRead"], fn := fun _ => fun
  | [d1, d2, g1] => { results := [.lit (.bool false)], args := [d1, d2], vars := [g1] }
  | _ => none }
def FnSplitTwiceWrongFalsely : Prop := fnSplitTwiceRow.holds Tryd.pinned (OpenSpec.ofChange fnSplitTwiceWrong)

/-- 'laws.FnExactSplitLate': WHATEVER THE INPUT: true; the input reads as it did. -/
def fnExactSplitLateSpec : ChangeSpec := { name := "fnExactSplitLate", vars := ["loop.example/lib-g01189/impl.errRead"], fn := fun _ => fun
  | [d1, d2, g1] => { results := [.lit (.bool true)], args := [d1, d2], vars := [g1] }
  | _ => none }
def fnExactSplitLateRow : OpenClaim := { program := "ytnoaljlbhihgjaadoor", sum := "30f377203fe1dd99afa790f8c836e5ba38f29d36b354498c311660d4378307dc", func := "loop.example/lib-g01189/laws.FnExactSplitLate", spec := "fnExactSplitLate", inPlace := ["internal/bytealg.IndexByte"], unfollowed := true, recurses := true, named := ["io.EOF", "loop.example/lib-g01189/impl.errRead", "bufio.ErrFinalToken", "bufio.ErrTooLong", "bufio.ErrBadReadCount", "io.ErrNoProgress", "bufio.ErrNegativeAdvance", "bufio.ErrAdvanceTooFar", "unicode/utf8.first", "unicode/utf8.acceptRanges"], ifaces := true, apart := false, laid := [("unicode/utf8.acceptRanges", laid_unicode_utf8_acceptRanges), ("io.EOF", laid_io_EOF), ("io.ErrNoProgress", laid_io_ErrNoProgress), ("bufio.ErrTooLong", laid_bufio_ErrTooLong), ("bufio.ErrNegativeAdvance", laid_bufio_ErrNegativeAdvance), ("bufio.ErrAdvanceTooFar", laid_bufio_ErrAdvanceTooFar), ("bufio.ErrBadReadCount", laid_bufio_ErrBadReadCount), ("bufio.ErrFinalToken", laid_bufio_ErrFinalToken), ("loop.example/lib-g01189/impl.errRead", laid_loop_example_lib_g01189_impl_errRead), ("unicode/utf8.first", laid_unicode_utf8_first)] }
def FnExactSplitLateSaid : Prop := fnExactSplitLateRow.holds Tryd.pinned (OpenSpec.ofChange fnExactSplitLateSpec)

/-- ITS FALSE NEIGHBOUR: 'it returns false'. Refute it at one input. -/
def fnExactSplitLateWrong : ChangeSpec := { name := "fnExactSplitLate", vars := ["loop.example/lib-g01189/impl.errRead"], fn := fun _ => fun
  | [d1, d2, g1] => { results := [.lit (.bool false)], args := [d1, d2], vars := [g1] }
  | _ => none }
def FnExactSplitLateWrongFalsely : Prop := fnExactSplitLateRow.holds Tryd.pinned (OpenSpec.ofChange fnExactSplitLateWrong)

/-- 'laws.FnSplitStarted': WHATEVER THE INPUT: true; the input reads as it did. -/
def fnSplitStartedSpec : ChangeSpec := { name := "fnSplitStarted", vars := ["loop.example/lib-g01189/impl.errRead"], fn := fun _ => fun
  | [d1, d2, g1] => { results := [.lit (.bool true)], args := [d1, d2], vars := [g1] }
  | _ => none }
def fnSplitStartedRow : OpenClaim := { program := "ytnoaljlbhihgjaadoor", sum := "30f377203fe1dd99afa790f8c836e5ba38f29d36b354498c311660d4378307dc", func := "loop.example/lib-g01189/laws.FnSplitStarted", spec := "fnSplitStarted", inPlace := ["internal/bytealg.IndexByte"], unfollowed := true, recurses := true, named := ["io.EOF", "loop.example/lib-g01189/impl.errRead", "bufio.ErrFinalToken", "bufio.ErrTooLong", "bufio.ErrBadReadCount", "io.ErrNoProgress", "bufio.ErrNegativeAdvance", "bufio.ErrAdvanceTooFar", "unicode/utf8.first", "unicode/utf8.acceptRanges"], ifaces := true, apart := false, laid := [("unicode/utf8.acceptRanges", laid_unicode_utf8_acceptRanges), ("io.EOF", laid_io_EOF), ("io.ErrNoProgress", laid_io_ErrNoProgress), ("bufio.ErrTooLong", laid_bufio_ErrTooLong), ("bufio.ErrNegativeAdvance", laid_bufio_ErrNegativeAdvance), ("bufio.ErrAdvanceTooFar", laid_bufio_ErrAdvanceTooFar), ("bufio.ErrBadReadCount", laid_bufio_ErrBadReadCount), ("bufio.ErrFinalToken", laid_bufio_ErrFinalToken), ("loop.example/lib-g01189/impl.errRead", laid_loop_example_lib_g01189_impl_errRead), ("unicode/utf8.first", laid_unicode_utf8_first)] }
def FnSplitStartedSaid : Prop := fnSplitStartedRow.holds Tryd.pinned (OpenSpec.ofChange fnSplitStartedSpec)

/-- ITS FALSE NEIGHBOUR: 'it returns false'. Refute it at one input. -/
def fnSplitStartedWrong : ChangeSpec := { name := "fnSplitStarted", vars := ["loop.example/lib-g01189/impl.errRead"], fn := fun _ => fun
  | [d1, d2, g1] => { results := [.lit (.bool false)], args := [d1, d2], vars := [g1] }
  | _ => none }
def FnSplitStartedWrongFalsely : Prop := fnSplitStartedRow.holds Tryd.pinned (OpenSpec.ofChange fnSplitStartedWrong)

/-- 'laws.FnWordStep': WHATEVER THE INPUT: true; the input reads as it did. -/
def fnWordStepSpec : ChangeSpec := { name := "fnWordStep", vars := ["loop.example/lib-g01189/impl.errSplit", "loop.example/lib-g01189/impl.errRead"], fn := fun _ => fun
  | [d, g1, g2] => { results := [.lit (.bool true)], args := [d], vars := [g1, g2] }
  | _ => none }
def fnWordStepRow : OpenClaim := { program := "ytnoaljlbhihgjaadoor", sum := "30f377203fe1dd99afa790f8c836e5ba38f29d36b354498c311660d4378307dc", func := "loop.example/lib-g01189/laws.FnWordStep", spec := "fnWordStep", inPlace := ["internal/bytealg.IndexByte"], unfollowed := true, recurses := true, named := ["unicode/utf8.first", "unicode/utf8.acceptRanges", "bufio.ErrTooLong", "bufio.ErrNegativeAdvance", "bufio.ErrAdvanceTooFar", "loop.example/lib-g01189/impl.errSplit", "loop.example/lib-g01189/impl.errRead", "io.EOF", "bufio.ErrFinalToken", "bufio.ErrBadReadCount", "io.ErrNoProgress"], ifaces := true, apart := false, laid := [("unicode/utf8.acceptRanges", laid_unicode_utf8_acceptRanges), ("io.EOF", laid_io_EOF), ("io.ErrNoProgress", laid_io_ErrNoProgress), ("bufio.ErrTooLong", laid_bufio_ErrTooLong), ("bufio.ErrNegativeAdvance", laid_bufio_ErrNegativeAdvance), ("bufio.ErrAdvanceTooFar", laid_bufio_ErrAdvanceTooFar), ("bufio.ErrBadReadCount", laid_bufio_ErrBadReadCount), ("bufio.ErrFinalToken", laid_bufio_ErrFinalToken), ("loop.example/lib-g01189/impl.errSplit", laid_loop_example_lib_g01189_impl_errSplit), ("loop.example/lib-g01189/impl.errRead", laid_loop_example_lib_g01189_impl_errRead), ("unicode/utf8.first", laid_unicode_utf8_first)] }
def FnWordStepSaid : Prop := fnWordStepRow.holds Tryd.pinned (OpenSpec.ofChange fnWordStepSpec)

/-- ITS FALSE NEIGHBOUR: 'it returns false'. Refute it at one input. -/
def fnWordStepWrong : ChangeSpec := { name := "fnWordStep", vars := ["loop.example/lib-g01189/impl.errSplit", "loop.example/lib-g01189/impl.errRead"], fn := fun _ => fun
  | [d, g1, g2] => { results := [.lit (.bool false)], args := [d], vars := [g1, g2] }
  | _ => none }
def FnWordStepWrongFalsely : Prop := fnWordStepRow.holds Tryd.pinned (OpenSpec.ofChange fnWordStepWrong)

/-- 'laws.FnWordSteps': WHATEVER THE INPUT: true; the input reads as it did. -/
def fnWordStepsSpec : ChangeSpec := { name := "fnWordSteps", vars := ["loop.example/lib-g01189/impl.errSplit", "loop.example/lib-g01189/impl.errRead"], fn := fun _ => fun
  | [d, g1, g2] => { results := [.lit (.bool true)], args := [d], vars := [g1, g2] }
  | _ => none }
def fnWordStepsRow : OpenClaim := { program := "ytnoaljlbhihgjaadoor", sum := "30f377203fe1dd99afa790f8c836e5ba38f29d36b354498c311660d4378307dc", func := "loop.example/lib-g01189/laws.FnWordSteps", spec := "fnWordSteps", inPlace := ["internal/bytealg.IndexByte"], unfollowed := true, recurses := true, named := ["unicode/utf8.first", "unicode/utf8.acceptRanges", "bufio.ErrTooLong", "bufio.ErrNegativeAdvance", "bufio.ErrAdvanceTooFar", "loop.example/lib-g01189/impl.errSplit", "loop.example/lib-g01189/impl.errRead", "io.EOF", "bufio.ErrFinalToken", "bufio.ErrBadReadCount", "io.ErrNoProgress"], ifaces := true, apart := false, laid := [("unicode/utf8.acceptRanges", laid_unicode_utf8_acceptRanges), ("io.EOF", laid_io_EOF), ("io.ErrNoProgress", laid_io_ErrNoProgress), ("bufio.ErrTooLong", laid_bufio_ErrTooLong), ("bufio.ErrNegativeAdvance", laid_bufio_ErrNegativeAdvance), ("bufio.ErrAdvanceTooFar", laid_bufio_ErrAdvanceTooFar), ("bufio.ErrBadReadCount", laid_bufio_ErrBadReadCount), ("bufio.ErrFinalToken", laid_bufio_ErrFinalToken), ("loop.example/lib-g01189/impl.errSplit", laid_loop_example_lib_g01189_impl_errSplit), ("loop.example/lib-g01189/impl.errRead", laid_loop_example_lib_g01189_impl_errRead), ("unicode/utf8.first", laid_unicode_utf8_first)] }
def FnWordStepsSaid : Prop := fnWordStepsRow.holds Tryd.pinned (OpenSpec.ofChange fnWordStepsSpec)

/-- ITS FALSE NEIGHBOUR: 'it returns false'. Refute it at one input. -/
def fnWordStepsWrong : ChangeSpec := { name := "fnWordSteps", vars := ["loop.example/lib-g01189/impl.errSplit", "loop.example/lib-g01189/impl.errRead"], fn := fun _ => fun
  | [d, g1, g2] => { results := [.lit (.bool false)], args := [d], vars := [g1, g2] }
  | _ => none }
def FnWordStepsWrongFalsely : Prop := fnWordStepsRow.holds Tryd.pinned (OpenSpec.ofChange fnWordStepsWrong)

/-- 'laws.FnBufferTwice': WHATEVER THE INPUT: true; the input reads as it did. -/
def fnBufferTwiceSpec : ChangeSpec := { name := "fnBufferTwice", vars := ["loop.example/lib-g01189/impl.errRead", "loop.example/lib-g01189/impl.errSplit"], fn := fun _ => fun
  | [d1, d2, d3, g1, g2] => { results := [.lit (.bool true)], args := [d1, d2, d3], vars := [g1, g2] }
  | _ => none }
def fnBufferTwiceRow : OpenClaim := { program := "ytnoaljlbhihgjaadoor", sum := "30f377203fe1dd99afa790f8c836e5ba38f29d36b354498c311660d4378307dc", func := "loop.example/lib-g01189/laws.FnBufferTwice", spec := "fnBufferTwice", inPlace := ["internal/bytealg.IndexByte"], unfollowed := true, recurses := true, named := ["io.EOF", "loop.example/lib-g01189/impl.errRead", "bufio.ErrFinalToken", "bufio.ErrTooLong", "bufio.ErrBadReadCount", "io.ErrNoProgress", "bufio.ErrNegativeAdvance", "bufio.ErrAdvanceTooFar", "loop.example/lib-g01189/impl.errSplit"], ifaces := true, apart := false, laid := [("io.EOF", laid_io_EOF), ("io.ErrNoProgress", laid_io_ErrNoProgress), ("bufio.ErrTooLong", laid_bufio_ErrTooLong), ("bufio.ErrNegativeAdvance", laid_bufio_ErrNegativeAdvance), ("bufio.ErrAdvanceTooFar", laid_bufio_ErrAdvanceTooFar), ("bufio.ErrBadReadCount", laid_bufio_ErrBadReadCount), ("bufio.ErrFinalToken", laid_bufio_ErrFinalToken), ("loop.example/lib-g01189/impl.errSplit", laid_loop_example_lib_g01189_impl_errSplit), ("loop.example/lib-g01189/impl.errRead", laid_loop_example_lib_g01189_impl_errRead)] }
def FnBufferTwiceSaid : Prop := fnBufferTwiceRow.holds Tryd.pinned (OpenSpec.ofChange fnBufferTwiceSpec)

/-- ITS FALSE NEIGHBOUR: 'it returns false'. Refute it at one input. -/
def fnBufferTwiceWrong : ChangeSpec := { name := "fnBufferTwice", vars := ["loop.example/lib-g01189/impl.errRead", "loop.example/lib-g01189/impl.errSplit"], fn := fun _ => fun
  | [d1, d2, d3, g1, g2] => { results := [.lit (.bool false)], args := [d1, d2, d3], vars := [g1, g2] }
  | _ => none }
def FnBufferTwiceWrongFalsely : Prop := fnBufferTwiceRow.holds Tryd.pinned (OpenSpec.ofChange fnBufferTwiceWrong)

/-- 'laws.FnLongLine': WHATEVER THE INPUT: true; the input reads as it did. -/
def fnLongLineSpec : ChangeSpec := { name := "fnLongLine", vars := ["loop.example/lib-g01189/impl.errRead", "loop.example/lib-g01189/impl.errSplit"], fn := fun _ => fun
  | [d1, d2, g1, g2] => { results := [.lit (.bool true)], args := [d1, d2], vars := [g1, g2] }
  | _ => none }
def fnLongLineRow : OpenClaim := { program := "ytnoaljlbhihgjaadoor", sum := "30f377203fe1dd99afa790f8c836e5ba38f29d36b354498c311660d4378307dc", func := "loop.example/lib-g01189/laws.FnLongLine", spec := "fnLongLine", inPlace := ["internal/bytealg.IndexByte"], unfollowed := true, recurses := true, named := ["io.EOF", "loop.example/lib-g01189/impl.errRead", "bufio.ErrFinalToken", "bufio.ErrTooLong", "bufio.ErrBadReadCount", "io.ErrNoProgress", "bufio.ErrNegativeAdvance", "bufio.ErrAdvanceTooFar", "loop.example/lib-g01189/impl.errSplit"], ifaces := true, apart := false, laid := [("io.EOF", laid_io_EOF), ("io.ErrNoProgress", laid_io_ErrNoProgress), ("bufio.ErrTooLong", laid_bufio_ErrTooLong), ("bufio.ErrNegativeAdvance", laid_bufio_ErrNegativeAdvance), ("bufio.ErrAdvanceTooFar", laid_bufio_ErrAdvanceTooFar), ("bufio.ErrBadReadCount", laid_bufio_ErrBadReadCount), ("bufio.ErrFinalToken", laid_bufio_ErrFinalToken), ("loop.example/lib-g01189/impl.errSplit", laid_loop_example_lib_g01189_impl_errSplit), ("loop.example/lib-g01189/impl.errRead", laid_loop_example_lib_g01189_impl_errRead)] }
def FnLongLineSaid : Prop := fnLongLineRow.holds Tryd.pinned (OpenSpec.ofChange fnLongLineSpec)

/-- ITS FALSE NEIGHBOUR: 'it returns false'. Refute it at one input. -/
def fnLongLineWrong : ChangeSpec := { name := "fnLongLine", vars := ["loop.example/lib-g01189/impl.errRead", "loop.example/lib-g01189/impl.errSplit"], fn := fun _ => fun
  | [d1, d2, g1, g2] => { results := [.lit (.bool false)], args := [d1, d2], vars := [g1, g2] }
  | _ => none }
def FnLongLineWrongFalsely : Prop := fnLongLineRow.holds Tryd.pinned (OpenSpec.ofChange fnLongLineWrong)

/- THE SECOND FORM. 'bulk': how many values and letters a reading holds, each counted each time it is reached (what is shared counts as often as it is met; a slice's spare places count too). A statement '..UptoSaid' is the law's where the arguments, and the package variables that the reading takes, are together of bulk at most 1048576: NARROWER than '..Said'. Prove '..Said' where nothing that the law and all that it calls make is longer than what came in: it says more and counts as full. Else prove '..UptoSaid'. A law counts once. -/
mutual
def uptoBulk {H : Type} : DataW H → Nat
  | .lit (.string bytes) => bytes.length + 1
  | .lit _ => 1
  | .nil => 1
  | .ptr d => uptoBulk d + 1
  | .slice elems spare => uptoBulkAll elems + uptoBulkAll spare + 1
  | .agg parts => uptoBulkAll parts + 1
  | .iface _ d => uptoBulk d + 1
  | .map entries => uptoBulkEntries entries + 1
  | .held _ => 1
def uptoBulkAll {H : Type} : List (DataW H) → Nat
  | [] => 0
  | d :: r => uptoBulk d + uptoBulkAll r
def uptoBulkEntries {H : Type} : List (Lit × DataW H) → Nat
  | [] => 0
  | x :: r => uptoBulkEntry x + uptoBulkEntries r
def uptoBulkEntry {H : Type} : Lit × DataW H → Nat
  | (.string bytes, d) => bytes.length + uptoBulk d + 1
  | (_, d) => uptoBulk d + 1
 end
def uptoSmall : (H : Type) → List (DataW H) → Bool := fun _ ds => decide (uptoBulkAll ds ≤ 1048576)
def OpenSpec.upto (s : _root_.Go.ChangeSpec) : _root_.Go.OpenSpec := { _root_.Go.OpenSpec.ofChange s with cond := some uptoSmall }

/-- 'laws.FnWordsAfter', WHERE WHAT IT READS IS OF BULK AT MOST 1048576: true; the input reads as it did. -/
def fnWordsAfterUptoRow : OpenClaim := { program := "ytnoaljlbhihgjaadoor", sum := "30f377203fe1dd99afa790f8c836e5ba38f29d36b354498c311660d4378307dc", func := "loop.example/lib-g01189/laws.FnWordsAfter", spec := "fnWordsAfter", inPlace := ["internal/bytealg.IndexByte"], unfollowed := true, recurses := true, named := ["io.EOF", "loop.example/lib-g01189/impl.errRead", "unicode/utf8.first", "unicode/utf8.acceptRanges", "bufio.ErrFinalToken", "bufio.ErrTooLong", "bufio.ErrBadReadCount", "io.ErrNoProgress", "bufio.ErrNegativeAdvance", "bufio.ErrAdvanceTooFar"], ifaces := true, apart := false, laid := [("unicode/utf8.acceptRanges", laid_unicode_utf8_acceptRanges), ("io.EOF", laid_io_EOF), ("io.ErrNoProgress", laid_io_ErrNoProgress), ("bufio.ErrTooLong", laid_bufio_ErrTooLong), ("bufio.ErrNegativeAdvance", laid_bufio_ErrNegativeAdvance), ("bufio.ErrAdvanceTooFar", laid_bufio_ErrAdvanceTooFar), ("bufio.ErrBadReadCount", laid_bufio_ErrBadReadCount), ("bufio.ErrFinalToken", laid_bufio_ErrFinalToken), ("loop.example/lib-g01189/impl.errRead", laid_loop_example_lib_g01189_impl_errRead), ("unicode/utf8.first", laid_unicode_utf8_first)], narrowed := true }
def FnWordsAfterUptoSaid : Prop := fnWordsAfterUptoRow.holds Tryd.pinned (OpenSpec.upto fnWordsAfterSpec)

/-- 'laws.FnWordsBytes', WHERE WHAT IT READS IS OF BULK AT MOST 1048576: true; the input reads as it did. -/
def fnWordsBytesUptoRow : OpenClaim := { program := "ytnoaljlbhihgjaadoor", sum := "30f377203fe1dd99afa790f8c836e5ba38f29d36b354498c311660d4378307dc", func := "loop.example/lib-g01189/laws.FnWordsBytes", spec := "fnWordsBytes", inPlace := ["internal/bytealg.IndexByte"], unfollowed := true, recurses := true, named := ["io.EOF", "loop.example/lib-g01189/impl.errRead", "unicode/utf8.first", "unicode/utf8.acceptRanges", "bufio.ErrFinalToken", "bufio.ErrTooLong", "bufio.ErrBadReadCount", "io.ErrNoProgress", "bufio.ErrNegativeAdvance", "bufio.ErrAdvanceTooFar"], ifaces := true, apart := false, laid := [("unicode/utf8.acceptRanges", laid_unicode_utf8_acceptRanges), ("io.EOF", laid_io_EOF), ("io.ErrNoProgress", laid_io_ErrNoProgress), ("bufio.ErrTooLong", laid_bufio_ErrTooLong), ("bufio.ErrNegativeAdvance", laid_bufio_ErrNegativeAdvance), ("bufio.ErrAdvanceTooFar", laid_bufio_ErrAdvanceTooFar), ("bufio.ErrBadReadCount", laid_bufio_ErrBadReadCount), ("bufio.ErrFinalToken", laid_bufio_ErrFinalToken), ("loop.example/lib-g01189/impl.errRead", laid_loop_example_lib_g01189_impl_errRead), ("unicode/utf8.first", laid_unicode_utf8_first)], narrowed := true }
def FnWordsBytesUptoSaid : Prop := fnWordsBytesUptoRow.holds Tryd.pinned (OpenSpec.upto fnWordsBytesSpec)

/-- 'laws.FnWordsJoined', WHERE WHAT IT READS IS OF BULK AT MOST 1048576: true; the input reads as it did. -/
def fnWordsJoinedUptoRow : OpenClaim := { program := "ytnoaljlbhihgjaadoor", sum := "30f377203fe1dd99afa790f8c836e5ba38f29d36b354498c311660d4378307dc", func := "loop.example/lib-g01189/laws.FnWordsJoined", spec := "fnWordsJoined", inPlace := ["internal/bytealg.IndexByte"], unfollowed := true, recurses := true, named := ["io.EOF", "loop.example/lib-g01189/impl.errRead", "unicode/utf8.first", "unicode/utf8.acceptRanges", "bufio.ErrFinalToken", "bufio.ErrTooLong", "bufio.ErrBadReadCount", "io.ErrNoProgress", "bufio.ErrNegativeAdvance", "bufio.ErrAdvanceTooFar"], ifaces := true, apart := false, laid := [("unicode/utf8.acceptRanges", laid_unicode_utf8_acceptRanges), ("io.EOF", laid_io_EOF), ("io.ErrNoProgress", laid_io_ErrNoProgress), ("bufio.ErrTooLong", laid_bufio_ErrTooLong), ("bufio.ErrNegativeAdvance", laid_bufio_ErrNegativeAdvance), ("bufio.ErrAdvanceTooFar", laid_bufio_ErrAdvanceTooFar), ("bufio.ErrBadReadCount", laid_bufio_ErrBadReadCount), ("bufio.ErrFinalToken", laid_bufio_ErrFinalToken), ("loop.example/lib-g01189/impl.errRead", laid_loop_example_lib_g01189_impl_errRead), ("unicode/utf8.first", laid_unicode_utf8_first)], narrowed := true }
def FnWordsJoinedUptoSaid : Prop := fnWordsJoinedUptoRow.holds Tryd.pinned (OpenSpec.upto fnWordsJoinedSpec)

/-- 'laws.FnWordsPlain', WHERE WHAT IT READS IS OF BULK AT MOST 1048576: true; the input reads as it did. -/
def fnWordsPlainUptoRow : OpenClaim := { program := "ytnoaljlbhihgjaadoor", sum := "30f377203fe1dd99afa790f8c836e5ba38f29d36b354498c311660d4378307dc", func := "loop.example/lib-g01189/laws.FnWordsPlain", spec := "fnWordsPlain", inPlace := ["internal/bytealg.IndexByte"], unfollowed := true, recurses := true, named := ["io.EOF", "loop.example/lib-g01189/impl.errRead", "unicode/utf8.first", "unicode/utf8.acceptRanges", "bufio.ErrFinalToken", "bufio.ErrTooLong", "bufio.ErrBadReadCount", "io.ErrNoProgress", "bufio.ErrNegativeAdvance", "bufio.ErrAdvanceTooFar"], ifaces := true, apart := false, laid := [("unicode/utf8.acceptRanges", laid_unicode_utf8_acceptRanges), ("io.EOF", laid_io_EOF), ("io.ErrNoProgress", laid_io_ErrNoProgress), ("bufio.ErrTooLong", laid_bufio_ErrTooLong), ("bufio.ErrNegativeAdvance", laid_bufio_ErrNegativeAdvance), ("bufio.ErrAdvanceTooFar", laid_bufio_ErrAdvanceTooFar), ("bufio.ErrBadReadCount", laid_bufio_ErrBadReadCount), ("bufio.ErrFinalToken", laid_bufio_ErrFinalToken), ("loop.example/lib-g01189/impl.errRead", laid_loop_example_lib_g01189_impl_errRead), ("unicode/utf8.first", laid_unicode_utf8_first)], narrowed := true }
def FnWordsPlainUptoSaid : Prop := fnWordsPlainUptoRow.holds Tryd.pinned (OpenSpec.upto fnWordsPlainSpec)

/-- 'laws.FnWordsOfLines', WHERE WHAT IT READS IS OF BULK AT MOST 1048576: true; the input reads as it did. -/
def fnWordsOfLinesUptoRow : OpenClaim := { program := "ytnoaljlbhihgjaadoor", sum := "30f377203fe1dd99afa790f8c836e5ba38f29d36b354498c311660d4378307dc", func := "loop.example/lib-g01189/laws.FnWordsOfLines", spec := "fnWordsOfLines", inPlace := ["internal/bytealg.IndexByte"], unfollowed := true, recurses := true, named := ["io.EOF", "loop.example/lib-g01189/impl.errRead", "bufio.ErrFinalToken", "bufio.ErrTooLong", "bufio.ErrBadReadCount", "io.ErrNoProgress", "bufio.ErrNegativeAdvance", "bufio.ErrAdvanceTooFar", "unicode/utf8.first", "unicode/utf8.acceptRanges"], ifaces := true, apart := false, laid := [("unicode/utf8.acceptRanges", laid_unicode_utf8_acceptRanges), ("io.EOF", laid_io_EOF), ("io.ErrNoProgress", laid_io_ErrNoProgress), ("bufio.ErrTooLong", laid_bufio_ErrTooLong), ("bufio.ErrNegativeAdvance", laid_bufio_ErrNegativeAdvance), ("bufio.ErrAdvanceTooFar", laid_bufio_ErrAdvanceTooFar), ("bufio.ErrBadReadCount", laid_bufio_ErrBadReadCount), ("bufio.ErrFinalToken", laid_bufio_ErrFinalToken), ("loop.example/lib-g01189/impl.errRead", laid_loop_example_lib_g01189_impl_errRead), ("unicode/utf8.first", laid_unicode_utf8_first)], narrowed := true }
def FnWordsOfLinesUptoSaid : Prop := fnWordsOfLinesUptoRow.holds Tryd.pinned (OpenSpec.upto fnWordsOfLinesSpec)

/-- 'laws.FnSplitTwice', WHERE WHAT IT READS IS OF BULK AT MOST 1048576: true; the input reads as it did. -/
def fnSplitTwiceUptoRow : OpenClaim := { program := "ytnoaljlbhihgjaadoor", sum := "30f377203fe1dd99afa790f8c836e5ba38f29d36b354498c311660d4378307dc", func := "loop.example/lib-g01189/laws.FnSplitTwice", spec := "fnSplitTwice", inPlace := ["internal/bytealg.IndexByte"], unfollowed := true, recurses := true, named := ["io.EOF", "loop.example/lib-g01189/impl.errRead", "unicode/utf8.first", "unicode/utf8.acceptRanges", "bufio.ErrFinalToken", "bufio.ErrTooLong", "bufio.ErrBadReadCount", "io.ErrNoProgress", "bufio.ErrNegativeAdvance", "bufio.ErrAdvanceTooFar"], ifaces := true, apart := false, laid := [("unicode/utf8.acceptRanges", laid_unicode_utf8_acceptRanges), ("io.EOF", laid_io_EOF), ("io.ErrNoProgress", laid_io_ErrNoProgress), ("bufio.ErrTooLong", laid_bufio_ErrTooLong), ("bufio.ErrNegativeAdvance", laid_bufio_ErrNegativeAdvance), ("bufio.ErrAdvanceTooFar", laid_bufio_ErrAdvanceTooFar), ("bufio.ErrBadReadCount", laid_bufio_ErrBadReadCount), ("bufio.ErrFinalToken", laid_bufio_ErrFinalToken), ("loop.example/lib-g01189/impl.errRead", laid_loop_example_lib_g01189_impl_errRead), ("unicode/utf8.first", laid_unicode_utf8_first)], narrowed := true }
def FnSplitTwiceUptoSaid : Prop := fnSplitTwiceUptoRow.holds Tryd.pinned (OpenSpec.upto fnSplitTwiceSpec)

/-- 'laws.FnExactSplitLate', WHERE WHAT IT READS IS OF BULK AT MOST 1048576: true; the input reads as it did. -/
def fnExactSplitLateUptoRow : OpenClaim := { program := "ytnoaljlbhihgjaadoor", sum := "30f377203fe1dd99afa790f8c836e5ba38f29d36b354498c311660d4378307dc", func := "loop.example/lib-g01189/laws.FnExactSplitLate", spec := "fnExactSplitLate", inPlace := ["internal/bytealg.IndexByte"], unfollowed := true, recurses := true, named := ["io.EOF", "loop.example/lib-g01189/impl.errRead", "bufio.ErrFinalToken", "bufio.ErrTooLong", "bufio.ErrBadReadCount", "io.ErrNoProgress", "bufio.ErrNegativeAdvance", "bufio.ErrAdvanceTooFar", "unicode/utf8.first", "unicode/utf8.acceptRanges"], ifaces := true, apart := false, laid := [("unicode/utf8.acceptRanges", laid_unicode_utf8_acceptRanges), ("io.EOF", laid_io_EOF), ("io.ErrNoProgress", laid_io_ErrNoProgress), ("bufio.ErrTooLong", laid_bufio_ErrTooLong), ("bufio.ErrNegativeAdvance", laid_bufio_ErrNegativeAdvance), ("bufio.ErrAdvanceTooFar", laid_bufio_ErrAdvanceTooFar), ("bufio.ErrBadReadCount", laid_bufio_ErrBadReadCount), ("bufio.ErrFinalToken", laid_bufio_ErrFinalToken), ("loop.example/lib-g01189/impl.errRead", laid_loop_example_lib_g01189_impl_errRead), ("unicode/utf8.first", laid_unicode_utf8_first)], narrowed := true }
def FnExactSplitLateUptoSaid : Prop := fnExactSplitLateUptoRow.holds Tryd.pinned (OpenSpec.upto fnExactSplitLateSpec)

/-- 'laws.FnSplitStarted', WHERE WHAT IT READS IS OF BULK AT MOST 1048576: true; the input reads as it did. -/
def fnSplitStartedUptoRow : OpenClaim := { program := "ytnoaljlbhihgjaadoor", sum := "30f377203fe1dd99afa790f8c836e5ba38f29d36b354498c311660d4378307dc", func := "loop.example/lib-g01189/laws.FnSplitStarted", spec := "fnSplitStarted", inPlace := ["internal/bytealg.IndexByte"], unfollowed := true, recurses := true, named := ["io.EOF", "loop.example/lib-g01189/impl.errRead", "bufio.ErrFinalToken", "bufio.ErrTooLong", "bufio.ErrBadReadCount", "io.ErrNoProgress", "bufio.ErrNegativeAdvance", "bufio.ErrAdvanceTooFar", "unicode/utf8.first", "unicode/utf8.acceptRanges"], ifaces := true, apart := false, laid := [("unicode/utf8.acceptRanges", laid_unicode_utf8_acceptRanges), ("io.EOF", laid_io_EOF), ("io.ErrNoProgress", laid_io_ErrNoProgress), ("bufio.ErrTooLong", laid_bufio_ErrTooLong), ("bufio.ErrNegativeAdvance", laid_bufio_ErrNegativeAdvance), ("bufio.ErrAdvanceTooFar", laid_bufio_ErrAdvanceTooFar), ("bufio.ErrBadReadCount", laid_bufio_ErrBadReadCount), ("bufio.ErrFinalToken", laid_bufio_ErrFinalToken), ("loop.example/lib-g01189/impl.errRead", laid_loop_example_lib_g01189_impl_errRead), ("unicode/utf8.first", laid_unicode_utf8_first)], narrowed := true }
def FnSplitStartedUptoSaid : Prop := fnSplitStartedUptoRow.holds Tryd.pinned (OpenSpec.upto fnSplitStartedSpec)

/-- 'laws.FnWordStep', WHERE WHAT IT READS IS OF BULK AT MOST 1048576: true; the input reads as it did. -/
def fnWordStepUptoRow : OpenClaim := { program := "ytnoaljlbhihgjaadoor", sum := "30f377203fe1dd99afa790f8c836e5ba38f29d36b354498c311660d4378307dc", func := "loop.example/lib-g01189/laws.FnWordStep", spec := "fnWordStep", inPlace := ["internal/bytealg.IndexByte"], unfollowed := true, recurses := true, named := ["unicode/utf8.first", "unicode/utf8.acceptRanges", "bufio.ErrTooLong", "bufio.ErrNegativeAdvance", "bufio.ErrAdvanceTooFar", "loop.example/lib-g01189/impl.errSplit", "loop.example/lib-g01189/impl.errRead", "io.EOF", "bufio.ErrFinalToken", "bufio.ErrBadReadCount", "io.ErrNoProgress"], ifaces := true, apart := false, laid := [("unicode/utf8.acceptRanges", laid_unicode_utf8_acceptRanges), ("io.EOF", laid_io_EOF), ("io.ErrNoProgress", laid_io_ErrNoProgress), ("bufio.ErrTooLong", laid_bufio_ErrTooLong), ("bufio.ErrNegativeAdvance", laid_bufio_ErrNegativeAdvance), ("bufio.ErrAdvanceTooFar", laid_bufio_ErrAdvanceTooFar), ("bufio.ErrBadReadCount", laid_bufio_ErrBadReadCount), ("bufio.ErrFinalToken", laid_bufio_ErrFinalToken), ("loop.example/lib-g01189/impl.errSplit", laid_loop_example_lib_g01189_impl_errSplit), ("loop.example/lib-g01189/impl.errRead", laid_loop_example_lib_g01189_impl_errRead), ("unicode/utf8.first", laid_unicode_utf8_first)], narrowed := true }
def FnWordStepUptoSaid : Prop := fnWordStepUptoRow.holds Tryd.pinned (OpenSpec.upto fnWordStepSpec)

/-- 'laws.FnWordSteps', WHERE WHAT IT READS IS OF BULK AT MOST 1048576: true; the input reads as it did. -/
def fnWordStepsUptoRow : OpenClaim := { program := "ytnoaljlbhihgjaadoor", sum := "30f377203fe1dd99afa790f8c836e5ba38f29d36b354498c311660d4378307dc", func := "loop.example/lib-g01189/laws.FnWordSteps", spec := "fnWordSteps", inPlace := ["internal/bytealg.IndexByte"], unfollowed := true, recurses := true, named := ["unicode/utf8.first", "unicode/utf8.acceptRanges", "bufio.ErrTooLong", "bufio.ErrNegativeAdvance", "bufio.ErrAdvanceTooFar", "loop.example/lib-g01189/impl.errSplit", "loop.example/lib-g01189/impl.errRead", "io.EOF", "bufio.ErrFinalToken", "bufio.ErrBadReadCount", "io.ErrNoProgress"], ifaces := true, apart := false, laid := [("unicode/utf8.acceptRanges", laid_unicode_utf8_acceptRanges), ("io.EOF", laid_io_EOF), ("io.ErrNoProgress", laid_io_ErrNoProgress), ("bufio.ErrTooLong", laid_bufio_ErrTooLong), ("bufio.ErrNegativeAdvance", laid_bufio_ErrNegativeAdvance), ("bufio.ErrAdvanceTooFar", laid_bufio_ErrAdvanceTooFar), ("bufio.ErrBadReadCount", laid_bufio_ErrBadReadCount), ("bufio.ErrFinalToken", laid_bufio_ErrFinalToken), ("loop.example/lib-g01189/impl.errSplit", laid_loop_example_lib_g01189_impl_errSplit), ("loop.example/lib-g01189/impl.errRead", laid_loop_example_lib_g01189_impl_errRead), ("unicode/utf8.first", laid_unicode_utf8_first)], narrowed := true }
def FnWordStepsUptoSaid : Prop := fnWordStepsUptoRow.holds Tryd.pinned (OpenSpec.upto fnWordStepsSpec)

/-- 'laws.FnBufferTwice', WHERE WHAT IT READS IS OF BULK AT MOST 1048576: true; the input reads as it did. -/
def fnBufferTwiceUptoRow : OpenClaim := { program := "ytnoaljlbhihgjaadoor", sum := "30f377203fe1dd99afa790f8c836e5ba38f29d36b354498c311660d4378307dc", func := "loop.example/lib-g01189/laws.FnBufferTwice", spec := "fnBufferTwice", inPlace := ["internal/bytealg.IndexByte"], unfollowed := true, recurses := true, named := ["io.EOF", "loop.example/lib-g01189/impl.errRead", "bufio.ErrFinalToken", "bufio.ErrTooLong", "bufio.ErrBadReadCount", "io.ErrNoProgress", "bufio.ErrNegativeAdvance", "bufio.ErrAdvanceTooFar", "loop.example/lib-g01189/impl.errSplit"], ifaces := true, apart := false, laid := [("io.EOF", laid_io_EOF), ("io.ErrNoProgress", laid_io_ErrNoProgress), ("bufio.ErrTooLong", laid_bufio_ErrTooLong), ("bufio.ErrNegativeAdvance", laid_bufio_ErrNegativeAdvance), ("bufio.ErrAdvanceTooFar", laid_bufio_ErrAdvanceTooFar), ("bufio.ErrBadReadCount", laid_bufio_ErrBadReadCount), ("bufio.ErrFinalToken", laid_bufio_ErrFinalToken), ("loop.example/lib-g01189/impl.errSplit", laid_loop_example_lib_g01189_impl_errSplit), ("loop.example/lib-g01189/impl.errRead", laid_loop_example_lib_g01189_impl_errRead)], narrowed := true }
def FnBufferTwiceUptoSaid : Prop := fnBufferTwiceUptoRow.holds Tryd.pinned (OpenSpec.upto fnBufferTwiceSpec)

/-- 'laws.FnLongLine', WHERE WHAT IT READS IS OF BULK AT MOST 1048576: true; the input reads as it did. -/
def fnLongLineUptoRow : OpenClaim := { program := "ytnoaljlbhihgjaadoor", sum := "30f377203fe1dd99afa790f8c836e5ba38f29d36b354498c311660d4378307dc", func := "loop.example/lib-g01189/laws.FnLongLine", spec := "fnLongLine", inPlace := ["internal/bytealg.IndexByte"], unfollowed := true, recurses := true, named := ["io.EOF", "loop.example/lib-g01189/impl.errRead", "bufio.ErrFinalToken", "bufio.ErrTooLong", "bufio.ErrBadReadCount", "io.ErrNoProgress", "bufio.ErrNegativeAdvance", "bufio.ErrAdvanceTooFar", "loop.example/lib-g01189/impl.errSplit"], ifaces := true, apart := false, laid := [("io.EOF", laid_io_EOF), ("io.ErrNoProgress", laid_io_ErrNoProgress), ("bufio.ErrTooLong", laid_bufio_ErrTooLong), ("bufio.ErrNegativeAdvance", laid_bufio_ErrNegativeAdvance), ("bufio.ErrAdvanceTooFar", laid_bufio_ErrAdvanceTooFar), ("bufio.ErrBadReadCount", laid_bufio_ErrBadReadCount), ("bufio.ErrFinalToken", laid_bufio_ErrFinalToken), ("loop.example/lib-g01189/impl.errSplit", laid_loop_example_lib_g01189_impl_errSplit), ("loop.example/lib-g01189/impl.errRead", laid_loop_example_lib_g01189_impl_errRead)], narrowed := true }
def FnLongLineUptoSaid : Prop := fnLongLineUptoRow.holds Tryd.pinned (OpenSpec.upto fnLongLineSpec)

end Rows
end Go.Proofs.YtnoaljlbhihgjaaDoor
