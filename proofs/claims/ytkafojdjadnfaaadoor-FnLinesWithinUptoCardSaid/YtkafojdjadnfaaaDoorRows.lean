/-
  NARROWER THAN 'FOR EVERY INPUT', by the rows' own cells (each row's printed sentence says how): FnLinesBut: ifaces, laid · FnLinesWithin: ifaces, laid · FnLinesErr: ifaces, laid · FnLineStepMore: ifaces, laid · FnLineSteps: ifaces, laid · FnLinesPieces: ifaces, laid · FnWordsPieces: ifaces, laid · FnWordsTooLong: ifaces, laid · FnWords: ifaces, laid · FnWordsErr: ifaces, laid · FnWordsBroken: ifaces, laid · FnWordsFrom: ifaces, laid.
  DERIVED. THE GIVEN ROWS OF THIS SEAT. 12 by the template 'for every input the law returns true; each argument reads behind the call as it read before'; 0 by the template 'total and deterministic' (their statements: YtkafojdjadnfaaaDoorTotals.lean).
  GIVEN WITH THE SEED: the statements are not yours to turn. If you find one false, say at which input.
  Laid BY PROGRAM, IN A SANDBOX (cutbox-rows.mjs): the forced cells as the released guide's own fill.sh prints them over the translation 9bfdba1399d80d3e… (all of the seat's roots in one cut). By AI agents, Wed Nov 11 2026. No macro, syntax, notation, axiom, sorry.
-/
import Derived.Test.YtkafojdjadnfaaaDoorChecked
import GoSem.PinnedTables
import GoSem.Claim
import GoSem.ClaimJoined
import GoSem.ClaimMapViews
import Derived.JoinedTies
import Derived.KernelRfl
namespace Go.Proofs.YtkafojdjadnfaaaDoor
/- THE CELL 'sum', in the pinned program and in every row, IS THE sha256 OF THE DUMP (.gsa) THAT YtkafojdjadnfaaaDoorProg.lean LOADS. Nothing in Lean hashes anything: it is a label: what it is worth is what the hold of that sum in a sandbox is worth. -/
noncomputable def Tryd.pinned : Pinned := { name := "ytkafojdjadnfaaadoor", sum := "9bfdba1399d80d3e7315db5b6450fcafd785a74de2ead81d4c55821f7de055fa", checked := Tryd.checked }
namespace Rows
def none {H : Type} : Left H := { results := [], args := [] }

/- WHAT THE LISTED PACKAGE-LEVEL VARIABLES READ AS WHEN THE CALL BEGINS. Each datum BY PROGRAM (the guide's laid-datum.mjs) off the statement by which the dump's own 'gosem.cut.vars' lays the variable. In a bare row this is a premise. The card (YtkafojdjadnfaaaDoorCards.lean) ties it to the program's text. -/
def laid_io_EOF {H : Type} : DataW H := .iface "*errors.errorString" (.ptr (.agg [.lit (.string [69, 79, 70])]))
def laid_io_ErrNoProgress {H : Type} : DataW H := .iface "*errors.errorString" (.ptr (.agg [.lit (.string [109, 117, 108, 116, 105, 112, 108, 101, 32, 82, 101, 97, 100, 32, 99, 97, 108, 108, 115, 32, 114, 101, 116, 117, 114, 110, 32, 110, 111, 32, 100, 97, 116, 97, 32, 111, 114, 32, 101, 114, 114, 111, 114])]))
def laid_bufio_ErrTooLong {H : Type} : DataW H := .iface "*errors.errorString" (.ptr (.agg [.lit (.string [98, 117, 102, 105, 111, 46, 83, 99, 97, 110, 110, 101, 114, 58, 32, 116, 111, 107, 101, 110, 32, 116, 111, 111, 32, 108, 111, 110, 103])]))
def laid_bufio_ErrNegativeAdvance {H : Type} : DataW H := .iface "*errors.errorString" (.ptr (.agg [.lit (.string [98, 117, 102, 105, 111, 46, 83, 99, 97, 110, 110, 101, 114, 58, 32, 83, 112, 108, 105, 116, 70, 117, 110, 99, 32, 114, 101, 116, 117, 114, 110, 115, 32, 110, 101, 103, 97, 116, 105, 118, 101, 32, 97, 100, 118, 97, 110, 99, 101, 32, 99, 111, 117, 110, 116])]))
def laid_bufio_ErrAdvanceTooFar {H : Type} : DataW H := .iface "*errors.errorString" (.ptr (.agg [.lit (.string [98, 117, 102, 105, 111, 46, 83, 99, 97, 110, 110, 101, 114, 58, 32, 83, 112, 108, 105, 116, 70, 117, 110, 99, 32, 114, 101, 116, 117, 114, 110, 115, 32, 97, 100, 118, 97, 110, 99, 101, 32, 99, 111, 117, 110, 116, 32, 98, 101, 121, 111, 110, 100, 32, 105, 110, 112, 117, 116])]))
def laid_bufio_ErrBadReadCount {H : Type} : DataW H := .iface "*errors.errorString" (.ptr (.agg [.lit (.string [98, 117, 102, 105, 111, 46, 83, 99, 97, 110, 110, 101, 114, 58, 32, 82, 101, 97, 100, 32, 114, 101, 116, 117, 114, 110, 101, 100, 32, 105, 109, 112, 111, 115, 115, 105, 98, 108, 101, 32, 99, 111, 117, 110, 116])]))
def laid_bufio_ErrFinalToken {H : Type} : DataW H := .iface "*errors.errorString" (.ptr (.agg [.lit (.string [102, 105, 110, 97, 108, 32, 116, 111, 107, 101, 110])]))
def laid_loop_example_lib_g01189_impl_errRead {H : Type} : DataW H := .iface "*errors.errorString" (.ptr (.agg [.lit (.string [114, 101, 97, 100])]))
def laid_loop_example_lib_g01189_impl_errSplit {H : Type} : DataW H := .iface "*errors.errorString" (.ptr (.agg [.lit (.string [115, 112, 108, 105, 116])]))
def laid_unicode_utf8_acceptRanges {H : Type} : DataW H := .agg [.agg [.lit (.int .u8 128), .lit (.int .u8 191)], .agg [.lit (.int .u8 160), .lit (.int .u8 191)], .agg [.lit (.int .u8 128), .lit (.int .u8 159)], .agg [.lit (.int .u8 144), .lit (.int .u8 191)], .agg [.lit (.int .u8 128), .lit (.int .u8 143)], .agg [.lit (.int .u8 0), .lit (.int .u8 0)], .agg [.lit (.int .u8 0), .lit (.int .u8 0)], .agg [.lit (.int .u8 0), .lit (.int .u8 0)], .agg [.lit (.int .u8 0), .lit (.int .u8 0)], .agg [.lit (.int .u8 0), .lit (.int .u8 0)], .agg [.lit (.int .u8 0), .lit (.int .u8 0)], .agg [.lit (.int .u8 0), .lit (.int .u8 0)], .agg [.lit (.int .u8 0), .lit (.int .u8 0)], .agg [.lit (.int .u8 0), .lit (.int .u8 0)], .agg [.lit (.int .u8 0), .lit (.int .u8 0)], .agg [.lit (.int .u8 0), .lit (.int .u8 0)]]
/-- One of Go's own tables, pinned by name: the form's constant. -/
def laid_unicode_utf8_first : DataW Unit := Go.Pinned.utf8First

/-- 'laws.FnLinesBut': WHATEVER THE INPUT: true; the input reads as it did. -/
def fnLinesButSpec : ChangeSpec := { name := "fnLinesBut", vars := ["loop.example/lib-g01189/impl.errRead"], fn := fun _ => fun
  | [d1, d2, g1] => { results := [.lit (.bool true)], args := [d1, d2], vars := [g1] }
  | _ => none }
def fnLinesButRow : OpenClaim := { program := "ytkafojdjadnfaaadoor", sum := "9bfdba1399d80d3e7315db5b6450fcafd785a74de2ead81d4c55821f7de055fa", func := "loop.example/lib-g01189/laws.FnLinesBut", spec := "fnLinesBut", inPlace := ["internal/bytealg.IndexByte"], unfollowed := true, recurses := true, named := ["io.EOF", "loop.example/lib-g01189/impl.errRead", "bufio.ErrFinalToken", "bufio.ErrTooLong", "bufio.ErrBadReadCount", "io.ErrNoProgress", "bufio.ErrNegativeAdvance", "bufio.ErrAdvanceTooFar"], ifaces := true, apart := false, laid := [("io.EOF", laid_io_EOF), ("io.ErrNoProgress", laid_io_ErrNoProgress), ("bufio.ErrTooLong", laid_bufio_ErrTooLong), ("bufio.ErrNegativeAdvance", laid_bufio_ErrNegativeAdvance), ("bufio.ErrAdvanceTooFar", laid_bufio_ErrAdvanceTooFar), ("bufio.ErrBadReadCount", laid_bufio_ErrBadReadCount), ("bufio.ErrFinalToken", laid_bufio_ErrFinalToken), ("loop.example/lib-g01189/impl.errRead", laid_loop_example_lib_g01189_impl_errRead)] }
def FnLinesButSaid : Prop := fnLinesButRow.holds Tryd.pinned (OpenSpec.ofChange fnLinesButSpec)

/-- ITS FALSE NEIGHBOUR: 'it returns false'. Refute it at one input. -/
def fnLinesButWrong : ChangeSpec := { name := "fnLinesBut", vars := ["loop.example/lib-g01189/impl.errRead"], fn := fun _ => fun
  | [d1, d2, g1] => { results := [.lit (.bool false)], args := [d1, d2], vars := [g1] }
  | _ => none }
def FnLinesButWrongFalsely : Prop := fnLinesButRow.holds Tryd.pinned (OpenSpec.ofChange fnLinesButWrong)

/-- 'laws.FnLinesWithin': WHATEVER THE INPUT: true; the input reads as it did. -/
def fnLinesWithinSpec : ChangeSpec := { name := "fnLinesWithin", vars := ["loop.example/lib-g01189/impl.errRead"], fn := fun _ => fun
  | [d1, d2, d3, g1] => { results := [.lit (.bool true)], args := [d1, d2, d3], vars := [g1] }
  | _ => none }
def fnLinesWithinRow : OpenClaim := { program := "ytkafojdjadnfaaadoor", sum := "9bfdba1399d80d3e7315db5b6450fcafd785a74de2ead81d4c55821f7de055fa", func := "loop.example/lib-g01189/laws.FnLinesWithin", spec := "fnLinesWithin", inPlace := ["internal/bytealg.IndexByte"], unfollowed := true, recurses := true, named := ["io.EOF", "loop.example/lib-g01189/impl.errRead", "bufio.ErrFinalToken", "bufio.ErrTooLong", "bufio.ErrBadReadCount", "io.ErrNoProgress", "bufio.ErrNegativeAdvance", "bufio.ErrAdvanceTooFar"], ifaces := true, apart := false, laid := [("io.EOF", laid_io_EOF), ("io.ErrNoProgress", laid_io_ErrNoProgress), ("bufio.ErrTooLong", laid_bufio_ErrTooLong), ("bufio.ErrNegativeAdvance", laid_bufio_ErrNegativeAdvance), ("bufio.ErrAdvanceTooFar", laid_bufio_ErrAdvanceTooFar), ("bufio.ErrBadReadCount", laid_bufio_ErrBadReadCount), ("bufio.ErrFinalToken", laid_bufio_ErrFinalToken), ("loop.example/lib-g01189/impl.errRead", laid_loop_example_lib_g01189_impl_errRead)] }
def FnLinesWithinSaid : Prop := fnLinesWithinRow.holds Tryd.pinned (OpenSpec.ofChange fnLinesWithinSpec)

/-- ITS FALSE NEIGHBOUR: 'it returns false'. Refute it at one input. -/
def fnLinesWithinWrong : ChangeSpec := { name := "fnLinesWithin", vars := ["loop.example/lib-g01189/impl.errRead"], fn := fun _ => fun
  | [d1, d2, d3, g1] => { results := [.lit (.bool false)], args := [d1, d2, d3], vars := [g1] }
  | _ => none }
def FnLinesWithinWrongFalsely : Prop := fnLinesWithinRow.holds Tryd.pinned (OpenSpec.ofChange fnLinesWithinWrong)

/-- 'laws.FnLinesErr': WHATEVER THE INPUT: true; the input reads as it did. -/
def fnLinesErrSpec : ChangeSpec := { name := "fnLinesErr", vars := ["loop.example/lib-g01189/impl.errRead", "loop.example/lib-g01189/impl.errSplit"], fn := fun _ => fun
  | [d, g1, g2] => { results := [.lit (.bool true)], args := [d], vars := [g1, g2] }
  | _ => none }
def fnLinesErrRow : OpenClaim := { program := "ytkafojdjadnfaaadoor", sum := "9bfdba1399d80d3e7315db5b6450fcafd785a74de2ead81d4c55821f7de055fa", func := "loop.example/lib-g01189/laws.FnLinesErr", spec := "fnLinesErr", inPlace := ["internal/bytealg.IndexByte"], unfollowed := true, recurses := true, named := ["io.EOF", "loop.example/lib-g01189/impl.errRead", "bufio.ErrFinalToken", "bufio.ErrTooLong", "bufio.ErrBadReadCount", "io.ErrNoProgress", "bufio.ErrNegativeAdvance", "bufio.ErrAdvanceTooFar", "loop.example/lib-g01189/impl.errSplit"], ifaces := true, apart := false, laid := [("io.EOF", laid_io_EOF), ("io.ErrNoProgress", laid_io_ErrNoProgress), ("bufio.ErrTooLong", laid_bufio_ErrTooLong), ("bufio.ErrNegativeAdvance", laid_bufio_ErrNegativeAdvance), ("bufio.ErrAdvanceTooFar", laid_bufio_ErrAdvanceTooFar), ("bufio.ErrBadReadCount", laid_bufio_ErrBadReadCount), ("bufio.ErrFinalToken", laid_bufio_ErrFinalToken), ("loop.example/lib-g01189/impl.errSplit", laid_loop_example_lib_g01189_impl_errSplit), ("loop.example/lib-g01189/impl.errRead", laid_loop_example_lib_g01189_impl_errRead)] }
def FnLinesErrSaid : Prop := fnLinesErrRow.holds Tryd.pinned (OpenSpec.ofChange fnLinesErrSpec)

/-- ITS FALSE NEIGHBOUR: 'it returns false'. Refute it at one input. -/
def fnLinesErrWrong : ChangeSpec := { name := "fnLinesErr", vars := ["loop.example/lib-g01189/impl.errRead", "loop.example/lib-g01189/impl.errSplit"], fn := fun _ => fun
  | [d, g1, g2] => { results := [.lit (.bool false)], args := [d], vars := [g1, g2] }
  | _ => none }
def FnLinesErrWrongFalsely : Prop := fnLinesErrRow.holds Tryd.pinned (OpenSpec.ofChange fnLinesErrWrong)

/-- 'laws.FnLineStepMore': WHATEVER THE INPUT: true; the input reads as it did. -/
def fnLineStepMoreSpec : ChangeSpec := { name := "fnLineStepMore", vars := ["loop.example/lib-g01189/impl.errSplit", "loop.example/lib-g01189/impl.errRead"], fn := fun _ => fun
  | [d, g1, g2] => { results := [.lit (.bool true)], args := [d], vars := [g1, g2] }
  | _ => none }
def fnLineStepMoreRow : OpenClaim := { program := "ytkafojdjadnfaaadoor", sum := "9bfdba1399d80d3e7315db5b6450fcafd785a74de2ead81d4c55821f7de055fa", func := "loop.example/lib-g01189/laws.FnLineStepMore", spec := "fnLineStepMore", inPlace := ["internal/bytealg.IndexByte"], unfollowed := true, recurses := true, named := ["bufio.ErrTooLong", "bufio.ErrNegativeAdvance", "bufio.ErrAdvanceTooFar", "loop.example/lib-g01189/impl.errSplit", "loop.example/lib-g01189/impl.errRead", "io.EOF", "bufio.ErrFinalToken", "bufio.ErrBadReadCount", "io.ErrNoProgress"], ifaces := true, apart := false, laid := [("io.EOF", laid_io_EOF), ("io.ErrNoProgress", laid_io_ErrNoProgress), ("bufio.ErrTooLong", laid_bufio_ErrTooLong), ("bufio.ErrNegativeAdvance", laid_bufio_ErrNegativeAdvance), ("bufio.ErrAdvanceTooFar", laid_bufio_ErrAdvanceTooFar), ("bufio.ErrBadReadCount", laid_bufio_ErrBadReadCount), ("bufio.ErrFinalToken", laid_bufio_ErrFinalToken), ("loop.example/lib-g01189/impl.errSplit", laid_loop_example_lib_g01189_impl_errSplit), ("loop.example/lib-g01189/impl.errRead", laid_loop_example_lib_g01189_impl_errRead)] }
def FnLineStepMoreSaid : Prop := fnLineStepMoreRow.holds Tryd.pinned (OpenSpec.ofChange fnLineStepMoreSpec)

/-- ITS FALSE NEIGHBOUR: 'it returns false'. Refute it at one input. -/
def fnLineStepMoreWrong : ChangeSpec := { name := "fnLineStepMore", vars := ["loop.example/lib-g01189/impl.errSplit", "loop.example/lib-g01189/impl.errRead"], fn := fun _ => fun
  | [d, g1, g2] => { results := [.lit (.bool false)], args := [d], vars := [g1, g2] }
  | _ => none }
def FnLineStepMoreWrongFalsely : Prop := fnLineStepMoreRow.holds Tryd.pinned (OpenSpec.ofChange fnLineStepMoreWrong)

/-- 'laws.FnLineSteps': WHATEVER THE INPUT: true; the input reads as it did. -/
def fnLineStepsSpec : ChangeSpec := { name := "fnLineSteps", vars := ["loop.example/lib-g01189/impl.errSplit", "loop.example/lib-g01189/impl.errRead"], fn := fun _ => fun
  | [d, g1, g2] => { results := [.lit (.bool true)], args := [d], vars := [g1, g2] }
  | _ => none }
def fnLineStepsRow : OpenClaim := { program := "ytkafojdjadnfaaadoor", sum := "9bfdba1399d80d3e7315db5b6450fcafd785a74de2ead81d4c55821f7de055fa", func := "loop.example/lib-g01189/laws.FnLineSteps", spec := "fnLineSteps", inPlace := ["internal/bytealg.IndexByte"], unfollowed := true, recurses := true, named := ["bufio.ErrTooLong", "bufio.ErrNegativeAdvance", "bufio.ErrAdvanceTooFar", "loop.example/lib-g01189/impl.errSplit", "loop.example/lib-g01189/impl.errRead", "io.EOF", "bufio.ErrFinalToken", "bufio.ErrBadReadCount", "io.ErrNoProgress"], ifaces := true, apart := false, laid := [("io.EOF", laid_io_EOF), ("io.ErrNoProgress", laid_io_ErrNoProgress), ("bufio.ErrTooLong", laid_bufio_ErrTooLong), ("bufio.ErrNegativeAdvance", laid_bufio_ErrNegativeAdvance), ("bufio.ErrAdvanceTooFar", laid_bufio_ErrAdvanceTooFar), ("bufio.ErrBadReadCount", laid_bufio_ErrBadReadCount), ("bufio.ErrFinalToken", laid_bufio_ErrFinalToken), ("loop.example/lib-g01189/impl.errSplit", laid_loop_example_lib_g01189_impl_errSplit), ("loop.example/lib-g01189/impl.errRead", laid_loop_example_lib_g01189_impl_errRead)] }
def FnLineStepsSaid : Prop := fnLineStepsRow.holds Tryd.pinned (OpenSpec.ofChange fnLineStepsSpec)

/-- ITS FALSE NEIGHBOUR: 'it returns false'. Refute it at one input. -/
def fnLineStepsWrong : ChangeSpec := { name := "fnLineSteps", vars := ["loop.example/lib-g01189/impl.errSplit", "loop.example/lib-g01189/impl.errRead"], fn := fun _ => fun
  | [d, g1, g2] => { results := [.lit (.bool false)], args := [d], vars := [g1, g2] }
  | _ => none }
def FnLineStepsWrongFalsely : Prop := fnLineStepsRow.holds Tryd.pinned (OpenSpec.ofChange fnLineStepsWrong)

/-- 'laws.FnLinesPieces': WHATEVER THE INPUT: true; the input reads as it did. -/
def fnLinesPiecesSpec : ChangeSpec := { name := "fnLinesPieces", vars := ["loop.example/lib-g01189/impl.errRead", "loop.example/lib-g01189/impl.errSplit"], fn := fun _ => fun
  | [d1, d2, d3, d4, d5, d6, g1, g2] => { results := [.lit (.bool true)], args := [d1, d2, d3, d4, d5, d6], vars := [g1, g2] }
  | _ => none }
def fnLinesPiecesRow : OpenClaim := { program := "ytkafojdjadnfaaadoor", sum := "9bfdba1399d80d3e7315db5b6450fcafd785a74de2ead81d4c55821f7de055fa", func := "loop.example/lib-g01189/laws.FnLinesPieces", spec := "fnLinesPieces", inPlace := ["internal/bytealg.IndexByte"], unfollowed := true, recurses := true, named := ["io.EOF", "loop.example/lib-g01189/impl.errRead", "bufio.ErrFinalToken", "bufio.ErrTooLong", "bufio.ErrBadReadCount", "io.ErrNoProgress", "bufio.ErrNegativeAdvance", "bufio.ErrAdvanceTooFar", "loop.example/lib-g01189/impl.errSplit"], ifaces := true, apart := false, laid := [("io.EOF", laid_io_EOF), ("io.ErrNoProgress", laid_io_ErrNoProgress), ("bufio.ErrTooLong", laid_bufio_ErrTooLong), ("bufio.ErrNegativeAdvance", laid_bufio_ErrNegativeAdvance), ("bufio.ErrAdvanceTooFar", laid_bufio_ErrAdvanceTooFar), ("bufio.ErrBadReadCount", laid_bufio_ErrBadReadCount), ("bufio.ErrFinalToken", laid_bufio_ErrFinalToken), ("loop.example/lib-g01189/impl.errSplit", laid_loop_example_lib_g01189_impl_errSplit), ("loop.example/lib-g01189/impl.errRead", laid_loop_example_lib_g01189_impl_errRead)] }
def FnLinesPiecesSaid : Prop := fnLinesPiecesRow.holds Tryd.pinned (OpenSpec.ofChange fnLinesPiecesSpec)

/-- ITS FALSE NEIGHBOUR: 'it returns false'. Refute it at one input. -/
def fnLinesPiecesWrong : ChangeSpec := { name := "fnLinesPieces", vars := ["loop.example/lib-g01189/impl.errRead", "loop.example/lib-g01189/impl.errSplit"], fn := fun _ => fun
  | [d1, d2, d3, d4, d5, d6, g1, g2] => { results := [.lit (.bool false)], args := [d1, d2, d3, d4, d5, d6], vars := [g1, g2] }
  | _ => none }
def FnLinesPiecesWrongFalsely : Prop := fnLinesPiecesRow.holds Tryd.pinned (OpenSpec.ofChange fnLinesPiecesWrong)

/-- 'laws.FnWordsPieces': WHATEVER THE INPUT: true; the input reads as it did. -/
def fnWordsPiecesSpec : ChangeSpec := { name := "fnWordsPieces", vars := ["loop.example/lib-g01189/impl.errRead", "loop.example/lib-g01189/impl.errSplit"], fn := fun _ => fun
  | [d1, d2, d3, d4, d5, d6, g1, g2] => { results := [.lit (.bool true)], args := [d1, d2, d3, d4, d5, d6], vars := [g1, g2] }
  | _ => none }
def fnWordsPiecesRow : OpenClaim := { program := "ytkafojdjadnfaaadoor", sum := "9bfdba1399d80d3e7315db5b6450fcafd785a74de2ead81d4c55821f7de055fa", func := "loop.example/lib-g01189/laws.FnWordsPieces", spec := "fnWordsPieces", inPlace := ["internal/bytealg.IndexByte"], unfollowed := true, recurses := true, named := ["io.EOF", "loop.example/lib-g01189/impl.errRead", "unicode/utf8.first", "unicode/utf8.acceptRanges", "bufio.ErrFinalToken", "bufio.ErrTooLong", "bufio.ErrBadReadCount", "io.ErrNoProgress", "bufio.ErrNegativeAdvance", "bufio.ErrAdvanceTooFar", "loop.example/lib-g01189/impl.errSplit"], ifaces := true, apart := false, laid := [("unicode/utf8.acceptRanges", laid_unicode_utf8_acceptRanges), ("io.EOF", laid_io_EOF), ("io.ErrNoProgress", laid_io_ErrNoProgress), ("bufio.ErrTooLong", laid_bufio_ErrTooLong), ("bufio.ErrNegativeAdvance", laid_bufio_ErrNegativeAdvance), ("bufio.ErrAdvanceTooFar", laid_bufio_ErrAdvanceTooFar), ("bufio.ErrBadReadCount", laid_bufio_ErrBadReadCount), ("bufio.ErrFinalToken", laid_bufio_ErrFinalToken), ("loop.example/lib-g01189/impl.errSplit", laid_loop_example_lib_g01189_impl_errSplit), ("loop.example/lib-g01189/impl.errRead", laid_loop_example_lib_g01189_impl_errRead), ("unicode/utf8.first", laid_unicode_utf8_first)] }
def FnWordsPiecesSaid : Prop := fnWordsPiecesRow.holds Tryd.pinned (OpenSpec.ofChange fnWordsPiecesSpec)

/-- ITS FALSE NEIGHBOUR: 'it returns false'. Refute it at one input. -/
def fnWordsPiecesWrong : ChangeSpec := { name := "fnWordsPieces", vars := ["loop.example/lib-g01189/impl.errRead", "loop.example/lib-g01189/impl.errSplit"], fn := fun _ => fun
  | [d1, d2, d3, d4, d5, d6, g1, g2] => { results := [.lit (.bool false)], args := [d1, d2, d3, d4, d5, d6], vars := [g1, g2] }
  | _ => none }
def FnWordsPiecesWrongFalsely : Prop := fnWordsPiecesRow.holds Tryd.pinned (OpenSpec.ofChange fnWordsPiecesWrong)

/-- 'laws.FnWordsTooLong': WHATEVER THE INPUT: true; the input reads as it did. -/
def fnWordsTooLongSpec : ChangeSpec := { name := "fnWordsTooLong", vars := ["loop.example/lib-g01189/impl.errRead", "loop.example/lib-g01189/impl.errSplit"], fn := fun _ => fun
  | [d1, d2, g1, g2] => { results := [.lit (.bool true)], args := [d1, d2], vars := [g1, g2] }
  | _ => none }
def fnWordsTooLongRow : OpenClaim := { program := "ytkafojdjadnfaaadoor", sum := "9bfdba1399d80d3e7315db5b6450fcafd785a74de2ead81d4c55821f7de055fa", func := "loop.example/lib-g01189/laws.FnWordsTooLong", spec := "fnWordsTooLong", inPlace := ["internal/bytealg.IndexByte"], unfollowed := true, recurses := true, named := ["io.EOF", "loop.example/lib-g01189/impl.errRead", "unicode/utf8.first", "unicode/utf8.acceptRanges", "bufio.ErrFinalToken", "bufio.ErrTooLong", "bufio.ErrBadReadCount", "io.ErrNoProgress", "bufio.ErrNegativeAdvance", "bufio.ErrAdvanceTooFar", "loop.example/lib-g01189/impl.errSplit"], ifaces := true, apart := false, laid := [("unicode/utf8.acceptRanges", laid_unicode_utf8_acceptRanges), ("io.EOF", laid_io_EOF), ("io.ErrNoProgress", laid_io_ErrNoProgress), ("bufio.ErrTooLong", laid_bufio_ErrTooLong), ("bufio.ErrNegativeAdvance", laid_bufio_ErrNegativeAdvance), ("bufio.ErrAdvanceTooFar", laid_bufio_ErrAdvanceTooFar), ("bufio.ErrBadReadCount", laid_bufio_ErrBadReadCount), ("bufio.ErrFinalToken", laid_bufio_ErrFinalToken), ("loop.example/lib-g01189/impl.errSplit", laid_loop_example_lib_g01189_impl_errSplit), ("loop.example/lib-g01189/impl.errRead", laid_loop_example_lib_g01189_impl_errRead), ("unicode/utf8.first", laid_unicode_utf8_first)] }
def FnWordsTooLongSaid : Prop := fnWordsTooLongRow.holds Tryd.pinned (OpenSpec.ofChange fnWordsTooLongSpec)

/-- ITS FALSE NEIGHBOUR: 'it returns false'. Refute it at one input. -/
def fnWordsTooLongWrong : ChangeSpec := { name := "fnWordsTooLong", vars := ["loop.example/lib-g01189/impl.errRead", "loop.example/lib-g01189/impl.errSplit"], fn := fun _ => fun
  | [d1, d2, g1, g2] => { results := [.lit (.bool false)], args := [d1, d2], vars := [g1, g2] }
  | _ => none }
def FnWordsTooLongWrongFalsely : Prop := fnWordsTooLongRow.holds Tryd.pinned (OpenSpec.ofChange fnWordsTooLongWrong)

/-- 'laws.FnWords': WHATEVER THE INPUT: true; the input reads as it did. -/
def fnWordsSpec : ChangeSpec := { name := "fnWords", vars := ["loop.example/lib-g01189/impl.errRead"], fn := fun _ => fun
  | [d, g1] => { results := [.lit (.bool true)], args := [d], vars := [g1] }
  | _ => none }
def fnWordsRow : OpenClaim := { program := "ytkafojdjadnfaaadoor", sum := "9bfdba1399d80d3e7315db5b6450fcafd785a74de2ead81d4c55821f7de055fa", func := "loop.example/lib-g01189/laws.FnWords", spec := "fnWords", inPlace := ["internal/bytealg.IndexByte"], unfollowed := true, recurses := true, named := ["io.EOF", "loop.example/lib-g01189/impl.errRead", "unicode/utf8.first", "unicode/utf8.acceptRanges", "bufio.ErrFinalToken", "bufio.ErrTooLong", "bufio.ErrBadReadCount", "io.ErrNoProgress", "bufio.ErrNegativeAdvance", "bufio.ErrAdvanceTooFar"], ifaces := true, apart := false, laid := [("unicode/utf8.acceptRanges", laid_unicode_utf8_acceptRanges), ("io.EOF", laid_io_EOF), ("io.ErrNoProgress", laid_io_ErrNoProgress), ("bufio.ErrTooLong", laid_bufio_ErrTooLong), ("bufio.ErrNegativeAdvance", laid_bufio_ErrNegativeAdvance), ("bufio.ErrAdvanceTooFar", laid_bufio_ErrAdvanceTooFar), ("bufio.ErrBadReadCount", laid_bufio_ErrBadReadCount), ("bufio.ErrFinalToken", laid_bufio_ErrFinalToken), ("loop.example/lib-g01189/impl.errRead", laid_loop_example_lib_g01189_impl_errRead), ("unicode/utf8.first", laid_unicode_utf8_first)] }
def FnWordsSaid : Prop := fnWordsRow.holds Tryd.pinned (OpenSpec.ofChange fnWordsSpec)

/-- ITS FALSE NEIGHBOUR: 'it returns false'. Refute it at one input. -/
def fnWordsWrong : ChangeSpec := { name := "fnWords", vars := ["loop.example/lib-g01189/impl.errRead"], fn := fun _ => fun
  | [d, g1] => { results := [.lit (.bool false)], args := [d], vars := [g1] }
  | _ => none }
def FnWordsWrongFalsely : Prop := fnWordsRow.holds Tryd.pinned (OpenSpec.ofChange fnWordsWrong)

/-- 'laws.FnWordsErr': WHATEVER THE INPUT: true; the input reads as it did. -/
def fnWordsErrSpec : ChangeSpec := { name := "fnWordsErr", vars := ["loop.example/lib-g01189/impl.errRead", "loop.example/lib-g01189/impl.errSplit"], fn := fun _ => fun
  | [d, g1, g2] => { results := [.lit (.bool true)], args := [d], vars := [g1, g2] }
  | _ => none }
def fnWordsErrRow : OpenClaim := { program := "ytkafojdjadnfaaadoor", sum := "9bfdba1399d80d3e7315db5b6450fcafd785a74de2ead81d4c55821f7de055fa", func := "loop.example/lib-g01189/laws.FnWordsErr", spec := "fnWordsErr", inPlace := ["internal/bytealg.IndexByte"], unfollowed := true, recurses := true, named := ["io.EOF", "loop.example/lib-g01189/impl.errRead", "unicode/utf8.first", "unicode/utf8.acceptRanges", "bufio.ErrFinalToken", "bufio.ErrTooLong", "bufio.ErrBadReadCount", "io.ErrNoProgress", "bufio.ErrNegativeAdvance", "bufio.ErrAdvanceTooFar", "loop.example/lib-g01189/impl.errSplit"], ifaces := true, apart := false, laid := [("unicode/utf8.acceptRanges", laid_unicode_utf8_acceptRanges), ("io.EOF", laid_io_EOF), ("io.ErrNoProgress", laid_io_ErrNoProgress), ("bufio.ErrTooLong", laid_bufio_ErrTooLong), ("bufio.ErrNegativeAdvance", laid_bufio_ErrNegativeAdvance), ("bufio.ErrAdvanceTooFar", laid_bufio_ErrAdvanceTooFar), ("bufio.ErrBadReadCount", laid_bufio_ErrBadReadCount), ("bufio.ErrFinalToken", laid_bufio_ErrFinalToken), ("loop.example/lib-g01189/impl.errSplit", laid_loop_example_lib_g01189_impl_errSplit), ("loop.example/lib-g01189/impl.errRead", laid_loop_example_lib_g01189_impl_errRead), ("unicode/utf8.first", laid_unicode_utf8_first)] }
def FnWordsErrSaid : Prop := fnWordsErrRow.holds Tryd.pinned (OpenSpec.ofChange fnWordsErrSpec)

/-- ITS FALSE NEIGHBOUR: 'it returns false'. Refute it at one input. -/
def fnWordsErrWrong : ChangeSpec := { name := "fnWordsErr", vars := ["loop.example/lib-g01189/impl.errRead", "loop.example/lib-g01189/impl.errSplit"], fn := fun _ => fun
  | [d, g1, g2] => { results := [.lit (.bool false)], args := [d], vars := [g1, g2] }
  | _ => none }
def FnWordsErrWrongFalsely : Prop := fnWordsErrRow.holds Tryd.pinned (OpenSpec.ofChange fnWordsErrWrong)

/-- 'laws.FnWordsBroken': WHATEVER THE INPUT: true; the input reads as it did. -/
def fnWordsBrokenSpec : ChangeSpec := { name := "fnWordsBroken", vars := ["loop.example/lib-g01189/impl.errRead", "loop.example/lib-g01189/impl.errSplit"], fn := fun _ => fun
  | [d1, d2, g1, g2] => { results := [.lit (.bool true)], args := [d1, d2], vars := [g1, g2] }
  | _ => none }
def fnWordsBrokenRow : OpenClaim := { program := "ytkafojdjadnfaaadoor", sum := "9bfdba1399d80d3e7315db5b6450fcafd785a74de2ead81d4c55821f7de055fa", func := "loop.example/lib-g01189/laws.FnWordsBroken", spec := "fnWordsBroken", inPlace := ["internal/bytealg.IndexByte"], unfollowed := true, recurses := true, named := ["io.EOF", "loop.example/lib-g01189/impl.errRead", "unicode/utf8.first", "unicode/utf8.acceptRanges", "bufio.ErrFinalToken", "bufio.ErrTooLong", "bufio.ErrBadReadCount", "io.ErrNoProgress", "bufio.ErrNegativeAdvance", "bufio.ErrAdvanceTooFar", "loop.example/lib-g01189/impl.errSplit"], ifaces := true, apart := false, laid := [("unicode/utf8.acceptRanges", laid_unicode_utf8_acceptRanges), ("io.EOF", laid_io_EOF), ("io.ErrNoProgress", laid_io_ErrNoProgress), ("bufio.ErrTooLong", laid_bufio_ErrTooLong), ("bufio.ErrNegativeAdvance", laid_bufio_ErrNegativeAdvance), ("bufio.ErrAdvanceTooFar", laid_bufio_ErrAdvanceTooFar), ("bufio.ErrBadReadCount", laid_bufio_ErrBadReadCount), ("bufio.ErrFinalToken", laid_bufio_ErrFinalToken), ("loop.example/lib-g01189/impl.errSplit", laid_loop_example_lib_g01189_impl_errSplit), ("loop.example/lib-g01189/impl.errRead", laid_loop_example_lib_g01189_impl_errRead), ("unicode/utf8.first", laid_unicode_utf8_first)] }
def FnWordsBrokenSaid : Prop := fnWordsBrokenRow.holds Tryd.pinned (OpenSpec.ofChange fnWordsBrokenSpec)

/-- ITS FALSE NEIGHBOUR: 'it returns false'. Refute it at one input. -/
def fnWordsBrokenWrong : ChangeSpec := { name := "fnWordsBroken", vars := ["loop.example/lib-g01189/impl.errRead", "loop.example/lib-g01189/impl.errSplit"], fn := fun _ => fun
  | [d1, d2, g1, g2] => { results := [.lit (.bool false)], args := [d1, d2], vars := [g1, g2] }
  | _ => none }
def FnWordsBrokenWrongFalsely : Prop := fnWordsBrokenRow.holds Tryd.pinned (OpenSpec.ofChange fnWordsBrokenWrong)

/-- 'laws.FnWordsFrom': WHATEVER THE INPUT: true; the input reads as it did. -/
def fnWordsFromSpec : ChangeSpec := { name := "fnWordsFrom", vars := ["loop.example/lib-g01189/impl.errRead", "loop.example/lib-g01189/impl.errSplit"], fn := fun _ => fun
  | [d1, d2, g1, g2] => { results := [.lit (.bool true)], args := [d1, d2], vars := [g1, g2] }
  | _ => none }
def fnWordsFromRow : OpenClaim := { program := "ytkafojdjadnfaaadoor", sum := "9bfdba1399d80d3e7315db5b6450fcafd785a74de2ead81d4c55821f7de055fa", func := "loop.example/lib-g01189/laws.FnWordsFrom", spec := "fnWordsFrom", inPlace := ["internal/bytealg.IndexByte"], unfollowed := true, recurses := true, named := ["io.EOF", "loop.example/lib-g01189/impl.errRead", "unicode/utf8.first", "unicode/utf8.acceptRanges", "bufio.ErrFinalToken", "bufio.ErrTooLong", "bufio.ErrBadReadCount", "io.ErrNoProgress", "bufio.ErrNegativeAdvance", "bufio.ErrAdvanceTooFar", "loop.example/lib-g01189/impl.errSplit"], ifaces := true, apart := false, laid := [("unicode/utf8.acceptRanges", laid_unicode_utf8_acceptRanges), ("io.EOF", laid_io_EOF), ("io.ErrNoProgress", laid_io_ErrNoProgress), ("bufio.ErrTooLong", laid_bufio_ErrTooLong), ("bufio.ErrNegativeAdvance", laid_bufio_ErrNegativeAdvance), ("bufio.ErrAdvanceTooFar", laid_bufio_ErrAdvanceTooFar), ("bufio.ErrBadReadCount", laid_bufio_ErrBadReadCount), ("bufio.ErrFinalToken", laid_bufio_ErrFinalToken), ("loop.example/lib-g01189/impl.errSplit", laid_loop_example_lib_g01189_impl_errSplit), ("loop.example/lib-g01189/impl.errRead", laid_loop_example_lib_g01189_impl_errRead), ("unicode/utf8.first", laid_unicode_utf8_first)] }
def FnWordsFromSaid : Prop := fnWordsFromRow.holds Tryd.pinned (OpenSpec.ofChange fnWordsFromSpec)

/-- ITS FALSE NEIGHBOUR: 'it returns false'. Refute it at one input. -/
def fnWordsFromWrong : ChangeSpec := { name := "fnWordsFrom", vars := ["loop.example/lib-g01189/impl.errRead", "loop.example/lib-g01189/impl.errSplit"], fn := fun _ => fun
  | [d1, d2, g1, g2] => { results := [.lit (.bool false)], args := [d1, d2], vars := [g1, g2] }
  | _ => none }
def FnWordsFromWrongFalsely : Prop := fnWordsFromRow.holds Tryd.pinned (OpenSpec.ofChange fnWordsFromWrong)

/- THE SECOND FORM. 'bulk': how many values and letters a reading holds, each counted each time it is reached (what is shared counts as often as it is met; a slice's spare places count too). A statement '..UptoSaid' is the law's where the arguments, and the package variables that the reading takes, are together of bulk at most 1048576: NARROWER than '..Said'. Prove '..Said' where nothing that the law and all that it calls make is longer than what came in: it says more and counts as full. Else prove '..UptoSaid'. A law counts once. -/
mutual
def uptoBulk {H : Type} : DataW H → Nat
  | .lit (.string bytes) => bytes.length + 1
  | .lit _ => 1
  | .nil => 1
  | .ptr d => uptoBulk d + 1
  | .slice elems spare => uptoBulkAll elems + uptoBulkAll spare + 1
  | .agg parts => uptoBulkAll parts + 1
  | .iface _ d => uptoBulk d + 1
  | .map entries => uptoBulkEntries entries + 1
  | .held _ => 1
def uptoBulkAll {H : Type} : List (DataW H) → Nat
  | [] => 0
  | d :: r => uptoBulk d + uptoBulkAll r
def uptoBulkEntries {H : Type} : List (Lit × DataW H) → Nat
  | [] => 0
  | x :: r => uptoBulkEntry x + uptoBulkEntries r
def uptoBulkEntry {H : Type} : Lit × DataW H → Nat
  | (.string bytes, d) => bytes.length + uptoBulk d + 1
  | (_, d) => uptoBulk d + 1
 end
def uptoSmall : (H : Type) → List (DataW H) → Bool := fun _ ds => decide (uptoBulkAll ds ≤ 1048576)
def OpenSpec.upto (s : _root_.Go.ChangeSpec) : _root_.Go.OpenSpec := { _root_.Go.OpenSpec.ofChange s with cond := some uptoSmall }

/-- 'laws.FnLinesBut', WHERE WHAT IT READS IS OF BULK AT MOST 1048576: true; the input reads as it did. -/
def fnLinesButUptoRow : OpenClaim := { program := "ytkafojdjadnfaaadoor", sum := "9bfdba1399d80d3e7315db5b6450fcafd785a74de2ead81d4c55821f7de055fa", func := "loop.example/lib-g01189/laws.FnLinesBut", spec := "fnLinesBut", inPlace := ["internal/bytealg.IndexByte"], unfollowed := true, recurses := true, named := ["io.EOF", "loop.example/lib-g01189/impl.errRead", "bufio.ErrFinalToken", "bufio.ErrTooLong", "bufio.ErrBadReadCount", "io.ErrNoProgress", "bufio.ErrNegativeAdvance", "bufio.ErrAdvanceTooFar"], ifaces := true, apart := false, laid := [("io.EOF", laid_io_EOF), ("io.ErrNoProgress", laid_io_ErrNoProgress), ("bufio.ErrTooLong", laid_bufio_ErrTooLong), ("bufio.ErrNegativeAdvance", laid_bufio_ErrNegativeAdvance), ("bufio.ErrAdvanceTooFar", laid_bufio_ErrAdvanceTooFar), ("bufio.ErrBadReadCount", laid_bufio_ErrBadReadCount), ("bufio.ErrFinalToken", laid_bufio_ErrFinalToken), ("loop.example/lib-g01189/impl.errRead", laid_loop_example_lib_g01189_impl_errRead)], narrowed := true }
def FnLinesButUptoSaid : Prop := fnLinesButUptoRow.holds Tryd.pinned (OpenSpec.upto fnLinesButSpec)

/-- 'laws.FnLinesWithin', WHERE WHAT IT READS IS OF BULK AT MOST 1048576: true; the input reads as it did. -/
def fnLinesWithinUptoRow : OpenClaim := { program := "ytkafojdjadnfaaadoor", sum := "9bfdba1399d80d3e7315db5b6450fcafd785a74de2ead81d4c55821f7de055fa", func := "loop.example/lib-g01189/laws.FnLinesWithin", spec := "fnLinesWithin", inPlace := ["internal/bytealg.IndexByte"], unfollowed := true, recurses := true, named := ["io.EOF", "loop.example/lib-g01189/impl.errRead", "bufio.ErrFinalToken", "bufio.ErrTooLong", "bufio.ErrBadReadCount", "io.ErrNoProgress", "bufio.ErrNegativeAdvance", "bufio.ErrAdvanceTooFar"], ifaces := true, apart := false, laid := [("io.EOF", laid_io_EOF), ("io.ErrNoProgress", laid_io_ErrNoProgress), ("bufio.ErrTooLong", laid_bufio_ErrTooLong), ("bufio.ErrNegativeAdvance", laid_bufio_ErrNegativeAdvance), ("bufio.ErrAdvanceTooFar", laid_bufio_ErrAdvanceTooFar), ("bufio.ErrBadReadCount", laid_bufio_ErrBadReadCount), ("bufio.ErrFinalToken", laid_bufio_ErrFinalToken), ("loop.example/lib-g01189/impl.errRead", laid_loop_example_lib_g01189_impl_errRead)], narrowed := true }
def FnLinesWithinUptoSaid : Prop := fnLinesWithinUptoRow.holds Tryd.pinned (OpenSpec.upto fnLinesWithinSpec)

/-- 'laws.FnLinesErr', WHERE WHAT IT READS IS OF BULK AT MOST 1048576: true; the input reads as it did. -/
def fnLinesErrUptoRow : OpenClaim := { program := "ytkafojdjadnfaaadoor", sum := "9bfdba1399d80d3e7315db5b6450fcafd785a74de2ead81d4c55821f7de055fa", func := "loop.example/lib-g01189/laws.FnLinesErr", spec := "fnLinesErr", inPlace := ["internal/bytealg.IndexByte"], unfollowed := true, recurses := true, named := ["io.EOF", "loop.example/lib-g01189/impl.errRead", "bufio.ErrFinalToken", "bufio.ErrTooLong", "bufio.ErrBadReadCount", "io.ErrNoProgress", "bufio.ErrNegativeAdvance", "bufio.ErrAdvanceTooFar", "loop.example/lib-g01189/impl.errSplit"], ifaces := true, apart := false, laid := [("io.EOF", laid_io_EOF), ("io.ErrNoProgress", laid_io_ErrNoProgress), ("bufio.ErrTooLong", laid_bufio_ErrTooLong), ("bufio.ErrNegativeAdvance", laid_bufio_ErrNegativeAdvance), ("bufio.ErrAdvanceTooFar", laid_bufio_ErrAdvanceTooFar), ("bufio.ErrBadReadCount", laid_bufio_ErrBadReadCount), ("bufio.ErrFinalToken", laid_bufio_ErrFinalToken), ("loop.example/lib-g01189/impl.errSplit", laid_loop_example_lib_g01189_impl_errSplit), ("loop.example/lib-g01189/impl.errRead", laid_loop_example_lib_g01189_impl_errRead)], narrowed := true }
def FnLinesErrUptoSaid : Prop := fnLinesErrUptoRow.holds Tryd.pinned (OpenSpec.upto fnLinesErrSpec)

/-- 'laws.FnLineStepMore', WHERE WHAT IT READS IS OF BULK AT MOST 1048576: true; the input reads as it did. -/
def fnLineStepMoreUptoRow : OpenClaim := { program := "ytkafojdjadnfaaadoor", sum := "9bfdba1399d80d3e7315db5b6450fcafd785a74de2ead81d4c55821f7de055fa", func := "loop.example/lib-g01189/laws.FnLineStepMore", spec := "fnLineStepMore", inPlace := ["internal/bytealg.IndexByte"], unfollowed := true, recurses := true, named := ["bufio.ErrTooLong", "bufio.ErrNegativeAdvance", "bufio.ErrAdvanceTooFar", "loop.example/lib-g01189/impl.errSplit", "loop.example/lib-g01189/impl.errRead", "io.EOF", "bufio.ErrFinalToken", "bufio.ErrBadReadCount", "io.ErrNoProgress"], ifaces := true, apart := false, laid := [("io.EOF", laid_io_EOF), ("io.ErrNoProgress", laid_io_ErrNoProgress), ("bufio.ErrTooLong", laid_bufio_ErrTooLong), ("bufio.ErrNegativeAdvance", laid_bufio_ErrNegativeAdvance), ("bufio.ErrAdvanceTooFar", laid_bufio_ErrAdvanceTooFar), ("bufio.ErrBadReadCount", laid_bufio_ErrBadReadCount), ("bufio.ErrFinalToken", laid_bufio_ErrFinalToken), ("loop.example/lib-g01189/impl.errSplit", laid_loop_example_lib_g01189_impl_errSplit), ("loop.example/lib-g01189/impl.errRead", laid_loop_example_lib_g01189_impl_errRead)], narrowed := true }
def FnLineStepMoreUptoSaid : Prop := fnLineStepMoreUptoRow.holds Tryd.pinned (OpenSpec.upto fnLineStepMoreSpec)

/-- 'laws.FnLineSteps', WHERE WHAT IT READS IS OF BULK AT MOST 1048576: true; the input reads as it did. -/
def fnLineStepsUptoRow : OpenClaim := { program := "ytkafojdjadnfaaadoor", sum := "9bfdba1399d80d3e7315db5b6450fcafd785a74de2ead81d4c55821f7de055fa", func := "loop.example/lib-g01189/laws.FnLineSteps", spec := "fnLineSteps", inPlace := ["internal/bytealg.IndexByte"], unfollowed := true, recurses := true, named := ["bufio.ErrTooLong", "bufio.ErrNegativeAdvance", "bufio.ErrAdvanceTooFar", "loop.example/lib-g01189/impl.errSplit", "loop.example/lib-g01189/impl.errRead", "io.EOF", "bufio.ErrFinalToken", "bufio.ErrBadReadCount", "io.ErrNoProgress"], ifaces := true, apart := false, laid := [("io.EOF", laid_io_EOF), ("io.ErrNoProgress", laid_io_ErrNoProgress), ("bufio.ErrTooLong", laid_bufio_ErrTooLong), ("bufio.ErrNegativeAdvance", laid_bufio_ErrNegativeAdvance), ("bufio.ErrAdvanceTooFar", laid_bufio_ErrAdvanceTooFar), ("bufio.ErrBadReadCount", laid_bufio_ErrBadReadCount), ("bufio.ErrFinalToken", laid_bufio_ErrFinalToken), ("loop.example/lib-g01189/impl.errSplit", laid_loop_example_lib_g01189_impl_errSplit), ("loop.example/lib-g01189/impl.errRead", laid_loop_example_lib_g01189_impl_errRead)], narrowed := true }
def FnLineStepsUptoSaid : Prop := fnLineStepsUptoRow.holds Tryd.pinned (OpenSpec.upto fnLineStepsSpec)

/-- 'laws.FnLinesPieces', WHERE WHAT IT READS IS OF BULK AT MOST 1048576: true; the input reads as it did. -/
def fnLinesPiecesUptoRow : OpenClaim := { program := "ytkafojdjadnfaaadoor", sum := "9bfdba1399d80d3e7315db5b6450fcafd785a74de2ead81d4c55821f7de055fa", func := "loop.example/lib-g01189/laws.FnLinesPieces", spec := "fnLinesPieces", inPlace := ["internal/bytealg.IndexByte"], unfollowed := true, recurses := true, named := ["io.EOF", "loop.example/lib-g01189/impl.errRead", "bufio.ErrFinalToken", "bufio.ErrTooLong", "bufio.ErrBadReadCount", "io.ErrNoProgress", "bufio.ErrNegativeAdvance", "bufio.ErrAdvanceTooFar", "loop.example/lib-g01189/impl.errSplit"], ifaces := true, apart := false, laid := [("io.EOF", laid_io_EOF), ("io.ErrNoProgress", laid_io_ErrNoProgress), ("bufio.ErrTooLong", laid_bufio_ErrTooLong), ("bufio.ErrNegativeAdvance", laid_bufio_ErrNegativeAdvance), ("bufio.ErrAdvanceTooFar", laid_bufio_ErrAdvanceTooFar), ("bufio.ErrBadReadCount", laid_bufio_ErrBadReadCount), ("bufio.ErrFinalToken", laid_bufio_ErrFinalToken), ("loop.example/lib-g01189/impl.errSplit", laid_loop_example_lib_g01189_impl_errSplit), ("loop.example/lib-g01189/impl.errRead", laid_loop_example_lib_g01189_impl_errRead)], narrowed := true }
def FnLinesPiecesUptoSaid : Prop := fnLinesPiecesUptoRow.holds Tryd.pinned (OpenSpec.upto fnLinesPiecesSpec)

/-- 'laws.FnWordsPieces', WHERE WHAT IT READS IS OF BULK AT MOST 1048576: true; the input reads as it did. -/
def fnWordsPiecesUptoRow : OpenClaim := { program := "ytkafojdjadnfaaadoor", sum := "9bfdba1399d80d3e7315db5b6450fcafd785a74de2ead81d4c55821f7de055fa", func := "loop.example/lib-g01189/laws.FnWordsPieces", spec := "fnWordsPieces", inPlace := ["internal/bytealg.IndexByte"], unfollowed := true, recurses := true, named := ["io.EOF", "loop.example/lib-g01189/impl.errRead", "unicode/utf8.first", "unicode/utf8.acceptRanges", "bufio.ErrFinalToken", "bufio.ErrTooLong", "bufio.ErrBadReadCount", "io.ErrNoProgress", "bufio.ErrNegativeAdvance", "bufio.ErrAdvanceTooFar", "loop.example/lib-g01189/impl.errSplit"], ifaces := true, apart := false, laid := [("unicode/utf8.acceptRanges", laid_unicode_utf8_acceptRanges), ("io.EOF", laid_io_EOF), ("io.ErrNoProgress", laid_io_ErrNoProgress), ("bufio.ErrTooLong", laid_bufio_ErrTooLong), ("bufio.ErrNegativeAdvance", laid_bufio_ErrNegativeAdvance), ("bufio.ErrAdvanceTooFar", laid_bufio_ErrAdvanceTooFar), ("bufio.ErrBadReadCount", laid_bufio_ErrBadReadCount), ("bufio.ErrFinalToken", laid_bufio_ErrFinalToken), ("loop.example/lib-g01189/impl.errSplit", laid_loop_example_lib_g01189_impl_errSplit), ("loop.example/lib-g01189/impl.errRead", laid_loop_example_lib_g01189_impl_errRead), ("unicode/utf8.first", laid_unicode_utf8_first)], narrowed := true }
def FnWordsPiecesUptoSaid : Prop := fnWordsPiecesUptoRow.holds Tryd.pinned (OpenSpec.upto fnWordsPiecesSpec)

/-- 'laws.FnWordsTooLong', WHERE WHAT IT READS IS OF BULK AT MOST 1048576: true; the input reads as it did. -/
def fnWordsTooLongUptoRow : OpenClaim := { program := "ytkafojdjadnfaaadoor", sum := "9bfdba1399d80d3e7315db5b6450fcafd785a74de2ead81d4c55821f7de055fa", func := "loop.example/lib-g01189/laws.FnWordsTooLong", spec := "fnWordsTooLong", inPlace := ["internal/bytealg.IndexByte"], unfollowed := true, recurses := true, named := ["io.EOF", "loop.example/lib-g01189/impl.errRead", "unicode/utf8.first", "unicode/utf8.acceptRanges", "bufio.ErrFinalToken", "bufio.ErrTooLong", "bufio.ErrBadReadCount", "io.ErrNoProgress", "bufio.ErrNegativeAdvance", "bufio.ErrAdvanceTooFar", "loop.example/lib-g01189/impl.errSplit"], ifaces := true, apart := false, laid := [("unicode/utf8.acceptRanges", laid_unicode_utf8_acceptRanges), ("io.EOF", laid_io_EOF), ("io.ErrNoProgress", laid_io_ErrNoProgress), ("bufio.ErrTooLong", laid_bufio_ErrTooLong), ("bufio.ErrNegativeAdvance", laid_bufio_ErrNegativeAdvance), ("bufio.ErrAdvanceTooFar", laid_bufio_ErrAdvanceTooFar), ("bufio.ErrBadReadCount", laid_bufio_ErrBadReadCount), ("bufio.ErrFinalToken", laid_bufio_ErrFinalToken), ("loop.example/lib-g01189/impl.errSplit", laid_loop_example_lib_g01189_impl_errSplit), ("loop.example/lib-g01189/impl.errRead", laid_loop_example_lib_g01189_impl_errRead), ("unicode/utf8.first", laid_unicode_utf8_first)], narrowed := true }
def FnWordsTooLongUptoSaid : Prop := fnWordsTooLongUptoRow.holds Tryd.pinned (OpenSpec.upto fnWordsTooLongSpec)

/-- 'laws.FnWords', WHERE WHAT IT READS IS OF BULK AT MOST 1048576: true; the input reads as it did. -/
def fnWordsUptoRow : OpenClaim := { program := "ytkafojdjadnfaaadoor", sum := "9bfdba1399d80d3e7315db5b6450fcafd785a74de2ead81d4c55821f7de055fa", func := "loop.example/lib-g01189/laws.FnWords", spec := "fnWords", inPlace := ["internal/bytealg.IndexByte"], unfollowed := true, recurses := true, named := ["io.EOF", "loop.example/lib-g01189/impl.errRead", "unicode/utf8.first", "unicode/utf8.acceptRanges", "bufio.ErrFinalToken", "bufio.ErrTooLong", "bufio.ErrBadReadCount", "io.ErrNoProgress", "bufio.ErrNegativeAdvance", "bufio.ErrAdvanceTooFar"], ifaces := true, apart := false, laid := [("unicode/utf8.acceptRanges", laid_unicode_utf8_acceptRanges), ("io.EOF", laid_io_EOF), ("io.ErrNoProgress", laid_io_ErrNoProgress), ("bufio.ErrTooLong", laid_bufio_ErrTooLong), ("bufio.ErrNegativeAdvance", laid_bufio_ErrNegativeAdvance), ("bufio.ErrAdvanceTooFar", laid_bufio_ErrAdvanceTooFar), ("bufio.ErrBadReadCount", laid_bufio_ErrBadReadCount), ("bufio.ErrFinalToken", laid_bufio_ErrFinalToken), ("loop.example/lib-g01189/impl.errRead", laid_loop_example_lib_g01189_impl_errRead), ("unicode/utf8.first", laid_unicode_utf8_first)], narrowed := true }
def FnWordsUptoSaid : Prop := fnWordsUptoRow.holds Tryd.pinned (OpenSpec.upto fnWordsSpec)

/-- 'laws.FnWordsErr', WHERE WHAT IT READS IS OF BULK AT MOST 1048576: true; the input reads as it did. -/
def fnWordsErrUptoRow : OpenClaim := { program := "ytkafojdjadnfaaadoor", sum := "9bfdba1399d80d3e7315db5b6450fcafd785a74de2ead81d4c55821f7de055fa", func := "loop.example/lib-g01189/laws.FnWordsErr", spec := "fnWordsErr", inPlace := ["internal/bytealg.IndexByte"], unfollowed := true, recurses := true, named := ["io.EOF", "loop.example/lib-g01189/impl.errRead", "unicode/utf8.first", "unicode/utf8.acceptRanges", "bufio.ErrFinalToken", "bufio.ErrTooLong", "bufio.ErrBadReadCount", "io.ErrNoProgress", "bufio.ErrNegativeAdvance", "bufio.ErrAdvanceTooFar", "loop.example/lib-g01189/impl.errSplit"], ifaces := true, apart := false, laid := [("unicode/utf8.acceptRanges", laid_unicode_utf8_acceptRanges), ("io.EOF", laid_io_EOF), ("io.ErrNoProgress", laid_io_ErrNoProgress), ("bufio.ErrTooLong", laid_bufio_ErrTooLong), ("bufio.ErrNegativeAdvance", laid_bufio_ErrNegativeAdvance), ("bufio.ErrAdvanceTooFar", laid_bufio_ErrAdvanceTooFar), ("bufio.ErrBadReadCount", laid_bufio_ErrBadReadCount), ("bufio.ErrFinalToken", laid_bufio_ErrFinalToken), ("loop.example/lib-g01189/impl.errSplit", laid_loop_example_lib_g01189_impl_errSplit), ("loop.example/lib-g01189/impl.errRead", laid_loop_example_lib_g01189_impl_errRead), ("unicode/utf8.first", laid_unicode_utf8_first)], narrowed := true }
def FnWordsErrUptoSaid : Prop := fnWordsErrUptoRow.holds Tryd.pinned (OpenSpec.upto fnWordsErrSpec)

/-- 'laws.FnWordsBroken', WHERE WHAT IT READS IS OF BULK AT MOST 1048576: true; the input reads as it did. -/
def fnWordsBrokenUptoRow : OpenClaim := { program := "ytkafojdjadnfaaadoor", sum := "9bfdba1399d80d3e7315db5b6450fcafd785a74de2ead81d4c55821f7de055fa", func := "loop.example/lib-g01189/laws.FnWordsBroken", spec := "fnWordsBroken", inPlace := ["internal/bytealg.IndexByte"], unfollowed := true, recurses := true, named := ["io.EOF", "loop.example/lib-g01189/impl.errRead", "unicode/utf8.first", "unicode/utf8.acceptRanges", "bufio.ErrFinalToken", "bufio.ErrTooLong", "bufio.ErrBadReadCount", "io.ErrNoProgress", "bufio.ErrNegativeAdvance", "bufio.ErrAdvanceTooFar", "loop.example/lib-g01189/impl.errSplit"], ifaces := true, apart := false, laid := [("unicode/utf8.acceptRanges", laid_unicode_utf8_acceptRanges), ("io.EOF", laid_io_EOF), ("io.ErrNoProgress", laid_io_ErrNoProgress), ("bufio.ErrTooLong", laid_bufio_ErrTooLong), ("bufio.ErrNegativeAdvance", laid_bufio_ErrNegativeAdvance), ("bufio.ErrAdvanceTooFar", laid_bufio_ErrAdvanceTooFar), ("bufio.ErrBadReadCount", laid_bufio_ErrBadReadCount), ("bufio.ErrFinalToken", laid_bufio_ErrFinalToken), ("loop.example/lib-g01189/impl.errSplit", laid_loop_example_lib_g01189_impl_errSplit), ("loop.example/lib-g01189/impl.errRead", laid_loop_example_lib_g01189_impl_errRead), ("unicode/utf8.first", laid_unicode_utf8_first)], narrowed := true }
def FnWordsBrokenUptoSaid : Prop := fnWordsBrokenUptoRow.holds Tryd.pinned (OpenSpec.upto fnWordsBrokenSpec)

/-- 'laws.FnWordsFrom', WHERE WHAT IT READS IS OF BULK AT MOST 1048576: true; the input reads as it did. -/
def fnWordsFromUptoRow : OpenClaim := { program := "ytkafojdjadnfaaadoor", sum := "9bfdba1399d80d3e7315db5b6450fcafd785a74de2ead81d4c55821f7de055fa", func := "loop.example/lib-g01189/laws.FnWordsFrom", spec := "fnWordsFrom", inPlace := ["internal/bytealg.IndexByte"], unfollowed := true, recurses := true, named := ["io.EOF", "loop.example/lib-g01189/impl.errRead", "unicode/utf8.first", "unicode/utf8.acceptRanges", "bufio.ErrFinalToken", "bufio.ErrTooLong", "bufio.ErrBadReadCount", "io.ErrNoProgress", "bufio.ErrNegativeAdvance", "bufio.ErrAdvanceTooFar", "loop.example/lib-g01189/impl.errSplit"], ifaces := true, apart := false, laid := [("unicode/utf8.acceptRanges", laid_unicode_utf8_acceptRanges), ("io.EOF", laid_io_EOF), ("io.ErrNoProgress", laid_io_ErrNoProgress), ("bufio.ErrTooLong", laid_bufio_ErrTooLong), ("bufio.ErrNegativeAdvance", laid_bufio_ErrNegativeAdvance), ("bufio.ErrAdvanceTooFar", laid_bufio_ErrAdvanceTooFar), ("bufio.ErrBadReadCount", laid_bufio_ErrBadReadCount), ("bufio.ErrFinalToken", laid_bufio_ErrFinalToken), ("loop.example/lib-g01189/impl.errSplit", laid_loop_example_lib_g01189_impl_errSplit), ("loop.example/lib-g01189/impl.errRead", laid_loop_example_lib_g01189_impl_errRead), ("unicode/utf8.first", laid_unicode_utf8_first)], narrowed := true }
def FnWordsFromUptoSaid : Prop := fnWordsFromUptoRow.holds Tryd.pinned (OpenSpec.upto fnWordsFromSpec)

end Rows
end Go.Proofs.YtkafojdjadnfaaaDoor
