/-
  NARROWER THAN 'FOR EVERY INPUT', by the rows' own cells (each row's printed sentence says how): FnLinesBut: ifaces, laid · FnLinesWithin: ifaces, laid · FnLinesSplit: ifaces, laid · FnLinesErr: ifaces, laid · FnLineStepMore: ifaces, laid · FnLineSteps: ifaces, laid · FnLinesAllOfBroken: ifaces, laid · FnLinesBroken: ifaces, laid · FnLinesFrom: ifaces, laid · FnLinesPieces: ifaces, laid · FnLinesTooLong: ifaces, laid · FnRoomGreater: ifaces, laid.
  DERIVED. THE GIVEN ROWS OF THIS SEAT. 12 by the template 'for every input the law returns true; each argument reads behind the call as it read before'; 0 by the template 'total and deterministic' (their statements: YtajoidaffnckpaaDoorTotals.lean).
  GIVEN WITH THE SEED: the statements are not yours to turn. If you find one false, say at which input.
  Laid BY PROGRAM, IN A SANDBOX (cutbox-rows.mjs): the forced cells as the released guide's own fill.sh prints them over the translation 602f0d3b1be0709b… (all of the seat's roots in one cut). By AI agents, Wed Nov 11 2026. No macro, syntax, notation, axiom, sorry.
-/
import Derived.Test.YtajoidaffnckpaaDoorChecked
import GoSem.Claim
import GoSem.ClaimJoined
import GoSem.ClaimMapViews
import Derived.JoinedTies
import Derived.KernelRfl
namespace Go.Proofs.YtajoidaffnckpaaDoor
/- THE CELL 'sum', in the pinned program and in every row, IS THE sha256 OF THE DUMP (.gsa) THAT YtajoidaffnckpaaDoorProg.lean LOADS. Nothing in Lean hashes anything: it is a label: what it is worth is what the hold of that sum in a sandbox is worth. -/
noncomputable def Tryd.pinned : Pinned := { name := "ytajoidaffnckpaadoor", sum := "602f0d3b1be0709b1a8230814a541b4a54aae10f45a26b0e3ca3f00d261defa8", checked := Tryd.checked }
namespace Rows
def none {H : Type} : Left H := { results := [], args := [] }

/- WHAT THE LISTED PACKAGE-LEVEL VARIABLES READ AS WHEN THE CALL BEGINS. Each datum BY PROGRAM (the guide's laid-datum.mjs) off the statement by which the dump's own 'gosem.cut.vars' lays the variable. In a bare row this is a premise. The card (YtajoidaffnckpaaDoorCards.lean) ties it to the program's text. -/
def laid_io_EOF {H : Type} : DataW H := .iface "*errors.errorString" (.ptr (.agg [.lit (.string [69, 79, 70])]))
def laid_io_ErrNoProgress {H : Type} : DataW H := .iface "*errors.errorString" (.ptr (.agg [.lit (.string [109, 117, 108, 116, 105, 112, 108, 101, 32, 82, 101, 97, 100, 32, 99, 97, 108, 108, 115, 32, 114, 101, 116, 117, 114, 110, 32, 110, 111, 32, 100, 97, 116, 97, 32, 111, 114, 32, 101, 114, 114, 111, 114])]))
def laid_bufio_ErrTooLong {H : Type} : DataW H := .iface "*errors.errorString" (.ptr (.agg [.lit (.string [98, 117, 102, 105, 111, 46, 83, 99, 97, 110, 110, 101, 114, 58, 32, 116, 111, 107, 101, 110, 32, 116, 111, 111, 32, 108, 111, 110, 103])]))
def laid_bufio_ErrNegativeAdvance {H : Type} : DataW H := .iface "*errors.errorString" (.ptr (.agg [.lit (.string [98, 117, 102, 105, 111, 46, 83, 99, 97, 110, 110, 101, 114, 58, 32, 83, 112, 108, 105, 116, 70, 117, 110, 99, 32, 114, 101, 116, 117, 114, 110, 115, 32, 110, 101, 103, 97, 116, 105, 118, 101, 32, 97, 100, 118, 97, 110, 99, 101, 32, 99, 111, 117, 110, 116])]))
def laid_bufio_ErrAdvanceTooFar {H : Type} : DataW H := .iface "*errors.errorString" (.ptr (.agg [.lit (.string [98, 117, 102, 105, 111, 46, 83, 99, 97, 110, 110, 101, 114, 58, 32, 83, 112, 108, 105, 116, 70, 117, 110, 99, 32, 114, 101, 116, 117, 114, 110, 115, 32, 97, 100, 118, 97, 110, 99, 101, 32, 99, 111, 117, 110, 116, 32, 98, 101, 121, 111, 110, 100, 32, 105, 110, 112, 117, 116])]))
def laid_bufio_ErrBadReadCount {H : Type} : DataW H := .iface "*errors.errorString" (.ptr (.agg [.lit (.string [98, 117, 102, 105, 111, 46, 83, 99, 97, 110, 110, 101, 114, 58, 32, 82, 101, 97, 100, 32, 114, 101, 116, 117, 114, 110, 101, 100, 32, 105, 109, 112, 111, 115, 115, 105, 98, 108, 101, 32, 99, 111, 117, 110, 116])]))
def laid_bufio_ErrFinalToken {H : Type} : DataW H := .iface "*errors.errorString" (.ptr (.agg [.lit (.string [102, 105, 110, 97, 108, 32, 116, 111, 107, 101, 110])]))
def laid_loop_example_lib_g01189_impl_errRead {H : Type} : DataW H := .iface "*errors.errorString" (.ptr (.agg [.lit (.string [114, 101, 97, 100])]))
def laid_loop_example_lib_g01189_impl_errSplit {H : Type} : DataW H := .iface "*errors.errorString" (.ptr (.agg [.lit (.string [115, 112, 108, 105, 116])]))

/-- 'laws.FnLinesBut': WHATEVER THE INPUT: true; the input reads as it did. -/
def fnLinesButSpec : ChangeSpec := { name := "fnLinesBut", vars := ["loop.example/lib-g01189/impl.errRead"], fn := fun _ => fun
  | [d1, d2, g1] => { results := [.lit (.bool true)], args := [d1, d2], vars := [g1] }
  | _ => none }
def fnLinesButRow : OpenClaim := { program := "ytajoidaffnckpaadoor", sum := "602f0d3b1be0709b1a8230814a541b4a54aae10f45a26b0e3ca3f00d261defa8", func := "loop.example/lib-g01189/laws.FnLinesBut", spec := "fnLinesBut", inPlace := ["internal/bytealg.IndexByte"], unfollowed := true, recurses := true, named := ["io.EOF", "loop.example/lib-g01189/impl.errRead", "bufio.ErrFinalToken", "bufio.ErrTooLong", "bufio.ErrBadReadCount", "io.ErrNoProgress", "bufio.ErrNegativeAdvance", "bufio.ErrAdvanceTooFar"], ifaces := true, apart := false, laid := [("io.EOF", laid_io_EOF), ("io.ErrNoProgress", laid_io_ErrNoProgress), ("bufio.ErrTooLong", laid_bufio_ErrTooLong), ("bufio.ErrNegativeAdvance", laid_bufio_ErrNegativeAdvance), ("bufio.ErrAdvanceTooFar", laid_bufio_ErrAdvanceTooFar), ("bufio.ErrBadReadCount", laid_bufio_ErrBadReadCount), ("bufio.ErrFinalToken", laid_bufio_ErrFinalToken), ("loop.example/lib-g01189/impl.errRead", laid_loop_example_lib_g01189_impl_errRead)] }
def FnLinesButSaid : Prop := fnLinesButRow.holds Tryd.pinned (OpenSpec.ofChange fnLinesButSpec)

/-- ITS FALSE NEIGHBOUR: 'it returns false'. Refute it at one input. -/
def fnLinesButWrong : ChangeSpec := { name := "fnLinesBut", vars := ["loop.example/lib-g01189/impl.errRead"], fn := fun _ => fun
  | [d1, d2, g1] => { results := [.lit (.bool false)], args := [d1, d2], vars := [g1] }
  | _ => none }
def FnLinesButWrongFalsely : Prop := fnLinesButRow.holds Tryd.pinned (OpenSpec.ofChange fnLinesButWrong)

/-- 'laws.FnLinesWithin': WHATEVER THE INPUT: true; the input reads as it did. -/
def fnLinesWithinSpec : ChangeSpec := { name := "fnLinesWithin", vars := ["loop.example/lib-g01189/impl.errRead"], fn := fun _ => fun
  | [d1, d2, d3, g1] => { results := [.lit (.bool true)], args := [d1, d2, d3], vars := [g1] }
  | _ => none }
def fnLinesWithinRow : OpenClaim := { program := "ytajoidaffnckpaadoor", sum := "602f0d3b1be0709b1a8230814a541b4a54aae10f45a26b0e3ca3f00d261defa8", func := "loop.example/lib-g01189/laws.FnLinesWithin", spec := "fnLinesWithin", inPlace := ["internal/bytealg.IndexByte"], unfollowed := true, recurses := true, named := ["io.EOF", "loop.example/lib-g01189/impl.errRead", "bufio.ErrFinalToken", "bufio.ErrTooLong", "bufio.ErrBadReadCount", "io.ErrNoProgress", "bufio.ErrNegativeAdvance", "bufio.ErrAdvanceTooFar"], ifaces := true, apart := false, laid := [("io.EOF", laid_io_EOF), ("io.ErrNoProgress", laid_io_ErrNoProgress), ("bufio.ErrTooLong", laid_bufio_ErrTooLong), ("bufio.ErrNegativeAdvance", laid_bufio_ErrNegativeAdvance), ("bufio.ErrAdvanceTooFar", laid_bufio_ErrAdvanceTooFar), ("bufio.ErrBadReadCount", laid_bufio_ErrBadReadCount), ("bufio.ErrFinalToken", laid_bufio_ErrFinalToken), ("loop.example/lib-g01189/impl.errRead", laid_loop_example_lib_g01189_impl_errRead)] }
def FnLinesWithinSaid : Prop := fnLinesWithinRow.holds Tryd.pinned (OpenSpec.ofChange fnLinesWithinSpec)

/-- ITS FALSE NEIGHBOUR: 'it returns false'. Refute it at one input. -/
def fnLinesWithinWrong : ChangeSpec := { name := "fnLinesWithin", vars := ["loop.example/lib-g01189/impl.errRead"], fn := fun _ => fun
  | [d1, d2, d3, g1] => { results := [.lit (.bool false)], args := [d1, d2, d3], vars := [g1] }
  | _ => none }
def FnLinesWithinWrongFalsely : Prop := fnLinesWithinRow.holds Tryd.pinned (OpenSpec.ofChange fnLinesWithinWrong)

/-- 'laws.FnLinesSplit': WHATEVER THE INPUT: true; the input reads as it did. -/
def fnLinesSplitSpec : ChangeSpec := { name := "fnLinesSplit", vars := ["loop.example/lib-g01189/impl.errRead"], fn := fun _ => fun
  | [d, g1] => { results := [.lit (.bool true)], args := [d], vars := [g1] }
  | _ => none }
def fnLinesSplitRow : OpenClaim := { program := "ytajoidaffnckpaadoor", sum := "602f0d3b1be0709b1a8230814a541b4a54aae10f45a26b0e3ca3f00d261defa8", func := "loop.example/lib-g01189/laws.FnLinesSplit", spec := "fnLinesSplit", inPlace := ["internal/bytealg.IndexByte"], unfollowed := true, recurses := true, named := ["io.EOF", "loop.example/lib-g01189/impl.errRead", "bufio.ErrFinalToken", "bufio.ErrTooLong", "bufio.ErrBadReadCount", "io.ErrNoProgress", "bufio.ErrNegativeAdvance", "bufio.ErrAdvanceTooFar"], ifaces := true, apart := false, laid := [("io.EOF", laid_io_EOF), ("io.ErrNoProgress", laid_io_ErrNoProgress), ("bufio.ErrTooLong", laid_bufio_ErrTooLong), ("bufio.ErrNegativeAdvance", laid_bufio_ErrNegativeAdvance), ("bufio.ErrAdvanceTooFar", laid_bufio_ErrAdvanceTooFar), ("bufio.ErrBadReadCount", laid_bufio_ErrBadReadCount), ("bufio.ErrFinalToken", laid_bufio_ErrFinalToken), ("loop.example/lib-g01189/impl.errRead", laid_loop_example_lib_g01189_impl_errRead)] }
def FnLinesSplitSaid : Prop := fnLinesSplitRow.holds Tryd.pinned (OpenSpec.ofChange fnLinesSplitSpec)

/-- ITS FALSE NEIGHBOUR: 'it returns false'. Refute it at one input. -/
def fnLinesSplitWrong : ChangeSpec := { name := "fnLinesSplit", vars := ["loop.example/lib-g01189/impl.errRead"], fn := fun _ => fun
  | [d, g1] => { results := [.lit (.bool false)], args := [d], vars := [g1] }
  | _ => none }
def FnLinesSplitWrongFalsely : Prop := fnLinesSplitRow.holds Tryd.pinned (OpenSpec.ofChange fnLinesSplitWrong)

/-- 'laws.FnLinesErr': WHATEVER THE INPUT: true; the input reads as it did. -/
def fnLinesErrSpec : ChangeSpec := { name := "fnLinesErr", vars := ["loop.example/lib-g01189/impl.errRead", "loop.example/lib-g01189/impl.errSplit"], fn := fun _ => fun
  | [d, g1, g2] => { results := [.lit (.bool true)], args := [d], vars := [g1, g2] }
  | _ => none }
def fnLinesErrRow : OpenClaim := { program := "ytajoidaffnckpaadoor", sum := "602f0d3b1be0709b1a8230814a541b4a54aae10f45a26b0e3ca3f00d261defa8", func := "loop.example/lib-g01189/laws.FnLinesErr", spec := "fnLinesErr", inPlace := ["internal/bytealg.IndexByte"], unfollowed := true, recurses := true, named := ["io.EOF", "loop.example/lib-g01189/impl.errRead", "bufio.ErrFinalToken", "bufio.ErrTooLong", "bufio.ErrBadReadCount", "io.ErrNoProgress", "bufio.ErrNegativeAdvance", "bufio.ErrAdvanceTooFar", "loop.example/lib-g01189/impl.errSplit"], ifaces := true, apart := false, laid := [("io.EOF", laid_io_EOF), ("io.ErrNoProgress", laid_io_ErrNoProgress), ("bufio.ErrTooLong", laid_bufio_ErrTooLong), ("bufio.ErrNegativeAdvance", laid_bufio_ErrNegativeAdvance), ("bufio.ErrAdvanceTooFar", laid_bufio_ErrAdvanceTooFar), ("bufio.ErrBadReadCount", laid_bufio_ErrBadReadCount), ("bufio.ErrFinalToken", laid_bufio_ErrFinalToken), ("loop.example/lib-g01189/impl.errSplit", laid_loop_example_lib_g01189_impl_errSplit), ("loop.example/lib-g01189/impl.errRead", laid_loop_example_lib_g01189_impl_errRead)] }
def FnLinesErrSaid : Prop := fnLinesErrRow.holds Tryd.pinned (OpenSpec.ofChange fnLinesErrSpec)

/-- ITS FALSE NEIGHBOUR: 'it returns false'. Refute it at one input. -/
def fnLinesErrWrong : ChangeSpec := { name := "fnLinesErr", vars := ["loop.example/lib-g01189/impl.errRead", "loop.example/lib-g01189/impl.errSplit"], fn := fun _ => fun
  | [d, g1, g2] => { results := [.lit (.bool false)], args := [d], vars := [g1, g2] }
  | _ => none }
def FnLinesErrWrongFalsely : Prop := fnLinesErrRow.holds Tryd.pinned (OpenSpec.ofChange fnLinesErrWrong)

/-- 'laws.FnLineStepMore': WHATEVER THE INPUT: true; the input reads as it did. -/
def fnLineStepMoreSpec : ChangeSpec := { name := "fnLineStepMore", vars := ["loop.example/lib-g01189/impl.errSplit", "loop.example/lib-g01189/impl.errRead"], fn := fun _ => fun
  | [d, g1, g2] => { results := [.lit (.bool true)], args := [d], vars := [g1, g2] }
  | _ => none }
def fnLineStepMoreRow : OpenClaim := { program := "ytajoidaffnckpaadoor", sum := "602f0d3b1be0709b1a8230814a541b4a54aae10f45a26b0e3ca3f00d261defa8", func := "loop.example/lib-g01189/laws.FnLineStepMore", spec := "fnLineStepMore", inPlace := ["internal/bytealg.IndexByte"], unfollowed := true, recurses := true, named := ["bufio.ErrTooLong", "bufio.ErrNegativeAdvance", "bufio.ErrAdvanceTooFar", "loop.example/lib-g01189/impl.errSplit", "loop.example/lib-g01189/impl.errRead", "io.EOF", "bufio.ErrFinalToken", "bufio.ErrBadReadCount", "io.ErrNoProgress"], ifaces := true, apart := false, laid := [("io.EOF", laid_io_EOF), ("io.ErrNoProgress", laid_io_ErrNoProgress), ("bufio.ErrTooLong", laid_bufio_ErrTooLong), ("bufio.ErrNegativeAdvance", laid_bufio_ErrNegativeAdvance), ("bufio.ErrAdvanceTooFar", laid_bufio_ErrAdvanceTooFar), ("bufio.ErrBadReadCount", laid_bufio_ErrBadReadCount), ("bufio.ErrFinalToken", laid_bufio_ErrFinalToken), ("loop.example/lib-g01189/impl.errSplit", laid_loop_example_lib_g01189_impl_errSplit), ("loop.example/lib-g01189/impl.errRead", laid_loop_example_lib_g01189_impl_errRead)] }
def FnLineStepMoreSaid : Prop := fnLineStepMoreRow.holds Tryd.pinned (OpenSpec.ofChange fnLineStepMoreSpec)

/-- ITS FALSE NEIGHBOUR: 'it returns false'. Refute it at one input. -/
def fnLineStepMoreWrong : ChangeSpec := { name := "fnLineStepMore", vars := ["loop.example/lib-g01189/impl.errSplit", "loop.example/lib-g01189/impl.errRead"], fn := fun _ => fun
  | [d, g1, g2] => { results := [.lit (.bool false)], args := [d], vars := [g1, g2] }
  | _ => none }
def FnLineStepMoreWrongFalsely : Prop := fnLineStepMoreRow.holds Tryd.pinned (OpenSpec.ofChange fnLineStepMoreWrong)

/-- 'laws.FnLineSteps': WHATEVER THE INPUT: true; the input reads as it did. -/
def fnLineStepsSpec : ChangeSpec := { name := "fnLineSteps", vars := ["loop.example/lib-g01189/impl.errSplit", "loop.example/lib-g01189/impl.errRead"], fn := fun _ => fun
  | [d, g1, g2] => { results := [.lit (.bool true)], args := [d], vars := [g1, g2] }
  | _ => none }
def fnLineStepsRow : OpenClaim := { program := "ytajoidaffnckpaadoor", sum := "602f0d3b1be0709b1a8230814a541b4a54aae10f45a26b0e3ca3f00d261defa8", func := "loop.example/lib-g01189/laws.FnLineSteps", spec := "fnLineSteps", inPlace := ["internal/bytealg.IndexByte"], unfollowed := true, recurses := true, named := ["bufio.ErrTooLong", "bufio.ErrNegativeAdvance", "bufio.ErrAdvanceTooFar", "loop.example/lib-g01189/impl.errSplit", "loop.example/lib-g01189/impl.errRead", "io.EOF", "bufio.ErrFinalToken", "bufio.ErrBadReadCount", "io.ErrNoProgress"], ifaces := true, apart := false, laid := [("io.EOF", laid_io_EOF), ("io.ErrNoProgress", laid_io_ErrNoProgress), ("bufio.ErrTooLong", laid_bufio_ErrTooLong), ("bufio.ErrNegativeAdvance", laid_bufio_ErrNegativeAdvance), ("bufio.ErrAdvanceTooFar", laid_bufio_ErrAdvanceTooFar), ("bufio.ErrBadReadCount", laid_bufio_ErrBadReadCount), ("bufio.ErrFinalToken", laid_bufio_ErrFinalToken), ("loop.example/lib-g01189/impl.errSplit", laid_loop_example_lib_g01189_impl_errSplit), ("loop.example/lib-g01189/impl.errRead", laid_loop_example_lib_g01189_impl_errRead)] }
def FnLineStepsSaid : Prop := fnLineStepsRow.holds Tryd.pinned (OpenSpec.ofChange fnLineStepsSpec)

/-- ITS FALSE NEIGHBOUR: 'it returns false'. Refute it at one input. -/
def fnLineStepsWrong : ChangeSpec := { name := "fnLineSteps", vars := ["loop.example/lib-g01189/impl.errSplit", "loop.example/lib-g01189/impl.errRead"], fn := fun _ => fun
  | [d, g1, g2] => { results := [.lit (.bool false)], args := [d], vars := [g1, g2] }
  | _ => none }
def FnLineStepsWrongFalsely : Prop := fnLineStepsRow.holds Tryd.pinned (OpenSpec.ofChange fnLineStepsWrong)

/-- 'laws.FnLinesAllOfBroken': WHATEVER THE INPUT: true; the input reads as it did. -/
def fnLinesAllOfBrokenSpec : ChangeSpec := { name := "fnLinesAllOfBroken", vars := ["loop.example/lib-g01189/impl.errRead", "loop.example/lib-g01189/impl.errSplit"], fn := fun _ => fun
  | [d1, d2, g1, g2] => { results := [.lit (.bool true)], args := [d1, d2], vars := [g1, g2] }
  | _ => none }
def fnLinesAllOfBrokenRow : OpenClaim := { program := "ytajoidaffnckpaadoor", sum := "602f0d3b1be0709b1a8230814a541b4a54aae10f45a26b0e3ca3f00d261defa8", func := "loop.example/lib-g01189/laws.FnLinesAllOfBroken", spec := "fnLinesAllOfBroken", inPlace := ["internal/bytealg.IndexByte"], unfollowed := true, recurses := true, named := ["io.EOF", "loop.example/lib-g01189/impl.errRead", "bufio.ErrFinalToken", "bufio.ErrTooLong", "bufio.ErrBadReadCount", "io.ErrNoProgress", "bufio.ErrNegativeAdvance", "bufio.ErrAdvanceTooFar", "loop.example/lib-g01189/impl.errSplit"], ifaces := true, apart := false, laid := [("io.EOF", laid_io_EOF), ("io.ErrNoProgress", laid_io_ErrNoProgress), ("bufio.ErrTooLong", laid_bufio_ErrTooLong), ("bufio.ErrNegativeAdvance", laid_bufio_ErrNegativeAdvance), ("bufio.ErrAdvanceTooFar", laid_bufio_ErrAdvanceTooFar), ("bufio.ErrBadReadCount", laid_bufio_ErrBadReadCount), ("bufio.ErrFinalToken", laid_bufio_ErrFinalToken), ("loop.example/lib-g01189/impl.errSplit", laid_loop_example_lib_g01189_impl_errSplit), ("loop.example/lib-g01189/impl.errRead", laid_loop_example_lib_g01189_impl_errRead)] }
def FnLinesAllOfBrokenSaid : Prop := fnLinesAllOfBrokenRow.holds Tryd.pinned (OpenSpec.ofChange fnLinesAllOfBrokenSpec)

/-- ITS FALSE NEIGHBOUR: 'it returns false'. Refute it at one input. -/
def fnLinesAllOfBrokenWrong : ChangeSpec := { name := "fnLinesAllOfBroken", vars := ["loop.example/lib-g01189/impl.errRead", "loop.example/lib-g01189/impl.errSplit"], fn := fun _ => fun
  | [d1, d2, g1, g2] => { results := [.lit (.bool false)], args := [d1, d2], vars := [g1, g2] }
  | _ => none }
def FnLinesAllOfBrokenWrongFalsely : Prop := fnLinesAllOfBrokenRow.holds Tryd.pinned (OpenSpec.ofChange fnLinesAllOfBrokenWrong)

/-- 'laws.FnLinesBroken': WHATEVER THE INPUT: true; the input reads as it did. -/
def fnLinesBrokenSpec : ChangeSpec := { name := "fnLinesBroken", vars := ["loop.example/lib-g01189/impl.errRead", "loop.example/lib-g01189/impl.errSplit"], fn := fun _ => fun
  | [d1, d2, g1, g2] => { results := [.lit (.bool true)], args := [d1, d2], vars := [g1, g2] }
  | _ => none }
def fnLinesBrokenRow : OpenClaim := { program := "ytajoidaffnckpaadoor", sum := "602f0d3b1be0709b1a8230814a541b4a54aae10f45a26b0e3ca3f00d261defa8", func := "loop.example/lib-g01189/laws.FnLinesBroken", spec := "fnLinesBroken", inPlace := ["internal/bytealg.IndexByte"], unfollowed := true, recurses := true, named := ["io.EOF", "loop.example/lib-g01189/impl.errRead", "bufio.ErrFinalToken", "bufio.ErrTooLong", "bufio.ErrBadReadCount", "io.ErrNoProgress", "bufio.ErrNegativeAdvance", "bufio.ErrAdvanceTooFar", "loop.example/lib-g01189/impl.errSplit"], ifaces := true, apart := false, laid := [("io.EOF", laid_io_EOF), ("io.ErrNoProgress", laid_io_ErrNoProgress), ("bufio.ErrTooLong", laid_bufio_ErrTooLong), ("bufio.ErrNegativeAdvance", laid_bufio_ErrNegativeAdvance), ("bufio.ErrAdvanceTooFar", laid_bufio_ErrAdvanceTooFar), ("bufio.ErrBadReadCount", laid_bufio_ErrBadReadCount), ("bufio.ErrFinalToken", laid_bufio_ErrFinalToken), ("loop.example/lib-g01189/impl.errSplit", laid_loop_example_lib_g01189_impl_errSplit), ("loop.example/lib-g01189/impl.errRead", laid_loop_example_lib_g01189_impl_errRead)] }
def FnLinesBrokenSaid : Prop := fnLinesBrokenRow.holds Tryd.pinned (OpenSpec.ofChange fnLinesBrokenSpec)

/-- ITS FALSE NEIGHBOUR: 'it returns false'. Refute it at one input. -/
def fnLinesBrokenWrong : ChangeSpec := { name := "fnLinesBroken", vars := ["loop.example/lib-g01189/impl.errRead", "loop.example/lib-g01189/impl.errSplit"], fn := fun _ => fun
  | [d1, d2, g1, g2] => { results := [.lit (.bool false)], args := [d1, d2], vars := [g1, g2] }
  | _ => none }
def FnLinesBrokenWrongFalsely : Prop := fnLinesBrokenRow.holds Tryd.pinned (OpenSpec.ofChange fnLinesBrokenWrong)

/-- 'laws.FnLinesFrom': WHATEVER THE INPUT: true; the input reads as it did. -/
def fnLinesFromSpec : ChangeSpec := { name := "fnLinesFrom", vars := ["loop.example/lib-g01189/impl.errRead", "loop.example/lib-g01189/impl.errSplit"], fn := fun _ => fun
  | [d1, d2, g1, g2] => { results := [.lit (.bool true)], args := [d1, d2], vars := [g1, g2] }
  | _ => none }
def fnLinesFromRow : OpenClaim := { program := "ytajoidaffnckpaadoor", sum := "602f0d3b1be0709b1a8230814a541b4a54aae10f45a26b0e3ca3f00d261defa8", func := "loop.example/lib-g01189/laws.FnLinesFrom", spec := "fnLinesFrom", inPlace := ["internal/bytealg.IndexByte"], unfollowed := true, recurses := true, named := ["io.EOF", "loop.example/lib-g01189/impl.errRead", "bufio.ErrFinalToken", "bufio.ErrTooLong", "bufio.ErrBadReadCount", "io.ErrNoProgress", "bufio.ErrNegativeAdvance", "bufio.ErrAdvanceTooFar", "loop.example/lib-g01189/impl.errSplit"], ifaces := true, apart := false, laid := [("io.EOF", laid_io_EOF), ("io.ErrNoProgress", laid_io_ErrNoProgress), ("bufio.ErrTooLong", laid_bufio_ErrTooLong), ("bufio.ErrNegativeAdvance", laid_bufio_ErrNegativeAdvance), ("bufio.ErrAdvanceTooFar", laid_bufio_ErrAdvanceTooFar), ("bufio.ErrBadReadCount", laid_bufio_ErrBadReadCount), ("bufio.ErrFinalToken", laid_bufio_ErrFinalToken), ("loop.example/lib-g01189/impl.errSplit", laid_loop_example_lib_g01189_impl_errSplit), ("loop.example/lib-g01189/impl.errRead", laid_loop_example_lib_g01189_impl_errRead)] }
def FnLinesFromSaid : Prop := fnLinesFromRow.holds Tryd.pinned (OpenSpec.ofChange fnLinesFromSpec)

/-- ITS FALSE NEIGHBOUR: 'it returns false'. Refute it at one input. -/
def fnLinesFromWrong : ChangeSpec := { name := "fnLinesFrom", vars := ["loop.example/lib-g01189/impl.errRead", "loop.example/lib-g01189/impl.errSplit"], fn := fun _ => fun
  | [d1, d2, g1, g2] => { results := [.lit (.bool false)], args := [d1, d2], vars := [g1, g2] }
  | _ => none }
def FnLinesFromWrongFalsely : Prop := fnLinesFromRow.holds Tryd.pinned (OpenSpec.ofChange fnLinesFromWrong)

/-- 'laws.FnLinesPieces': WHATEVER THE INPUT: true; the input reads as it did. -/
def fnLinesPiecesSpec : ChangeSpec := { name := "fnLinesPieces", vars := ["loop.example/lib-g01189/impl.errRead", "loop.example/lib-g01189/impl.errSplit"], fn := fun _ => fun
  | [d1, d2, d3, d4, d5, d6, g1, g2] => { results := [.lit (.bool true)], args := [d1, d2, d3, d4, d5, d6], vars := [g1, g2] }
  | _ => none }
def fnLinesPiecesRow : OpenClaim := { program := "ytajoidaffnckpaadoor", sum := "602f0d3b1be0709b1a8230814a541b4a54aae10f45a26b0e3ca3f00d261defa8", func := "loop.example/lib-g01189/laws.FnLinesPieces", spec := "fnLinesPieces", inPlace := ["internal/bytealg.IndexByte"], unfollowed := true, recurses := true, named := ["io.EOF", "loop.example/lib-g01189/impl.errRead", "bufio.ErrFinalToken", "bufio.ErrTooLong", "bufio.ErrBadReadCount", "io.ErrNoProgress", "bufio.ErrNegativeAdvance", "bufio.ErrAdvanceTooFar", "loop.example/lib-g01189/impl.errSplit"], ifaces := true, apart := false, laid := [("io.EOF", laid_io_EOF), ("io.ErrNoProgress", laid_io_ErrNoProgress), ("bufio.ErrTooLong", laid_bufio_ErrTooLong), ("bufio.ErrNegativeAdvance", laid_bufio_ErrNegativeAdvance), ("bufio.ErrAdvanceTooFar", laid_bufio_ErrAdvanceTooFar), ("bufio.ErrBadReadCount", laid_bufio_ErrBadReadCount), ("bufio.ErrFinalToken", laid_bufio_ErrFinalToken), ("loop.example/lib-g01189/impl.errSplit", laid_loop_example_lib_g01189_impl_errSplit), ("loop.example/lib-g01189/impl.errRead", laid_loop_example_lib_g01189_impl_errRead)] }
def FnLinesPiecesSaid : Prop := fnLinesPiecesRow.holds Tryd.pinned (OpenSpec.ofChange fnLinesPiecesSpec)

/-- ITS FALSE NEIGHBOUR: 'it returns false'. Refute it at one input. -/
def fnLinesPiecesWrong : ChangeSpec := { name := "fnLinesPieces", vars := ["loop.example/lib-g01189/impl.errRead", "loop.example/lib-g01189/impl.errSplit"], fn := fun _ => fun
  | [d1, d2, d3, d4, d5, d6, g1, g2] => { results := [.lit (.bool false)], args := [d1, d2, d3, d4, d5, d6], vars := [g1, g2] }
  | _ => none }
def FnLinesPiecesWrongFalsely : Prop := fnLinesPiecesRow.holds Tryd.pinned (OpenSpec.ofChange fnLinesPiecesWrong)

/-- 'laws.FnLinesTooLong': WHATEVER THE INPUT: true; the input reads as it did. -/
def fnLinesTooLongSpec : ChangeSpec := { name := "fnLinesTooLong", vars := ["loop.example/lib-g01189/impl.errRead", "loop.example/lib-g01189/impl.errSplit"], fn := fun _ => fun
  | [d1, d2, g1, g2] => { results := [.lit (.bool true)], args := [d1, d2], vars := [g1, g2] }
  | _ => none }
def fnLinesTooLongRow : OpenClaim := { program := "ytajoidaffnckpaadoor", sum := "602f0d3b1be0709b1a8230814a541b4a54aae10f45a26b0e3ca3f00d261defa8", func := "loop.example/lib-g01189/laws.FnLinesTooLong", spec := "fnLinesTooLong", inPlace := ["internal/bytealg.IndexByte"], unfollowed := true, recurses := true, named := ["io.EOF", "loop.example/lib-g01189/impl.errRead", "bufio.ErrFinalToken", "bufio.ErrTooLong", "bufio.ErrBadReadCount", "io.ErrNoProgress", "bufio.ErrNegativeAdvance", "bufio.ErrAdvanceTooFar", "loop.example/lib-g01189/impl.errSplit"], ifaces := true, apart := false, laid := [("io.EOF", laid_io_EOF), ("io.ErrNoProgress", laid_io_ErrNoProgress), ("bufio.ErrTooLong", laid_bufio_ErrTooLong), ("bufio.ErrNegativeAdvance", laid_bufio_ErrNegativeAdvance), ("bufio.ErrAdvanceTooFar", laid_bufio_ErrAdvanceTooFar), ("bufio.ErrBadReadCount", laid_bufio_ErrBadReadCount), ("bufio.ErrFinalToken", laid_bufio_ErrFinalToken), ("loop.example/lib-g01189/impl.errSplit", laid_loop_example_lib_g01189_impl_errSplit), ("loop.example/lib-g01189/impl.errRead", laid_loop_example_lib_g01189_impl_errRead)] }
def FnLinesTooLongSaid : Prop := fnLinesTooLongRow.holds Tryd.pinned (OpenSpec.ofChange fnLinesTooLongSpec)

/-- ITS FALSE NEIGHBOUR: 'it returns false'. Refute it at one input. -/
def fnLinesTooLongWrong : ChangeSpec := { name := "fnLinesTooLong", vars := ["loop.example/lib-g01189/impl.errRead", "loop.example/lib-g01189/impl.errSplit"], fn := fun _ => fun
  | [d1, d2, g1, g2] => { results := [.lit (.bool false)], args := [d1, d2], vars := [g1, g2] }
  | _ => none }
def FnLinesTooLongWrongFalsely : Prop := fnLinesTooLongRow.holds Tryd.pinned (OpenSpec.ofChange fnLinesTooLongWrong)

/-- 'laws.FnRoomGreater': WHATEVER THE INPUT: true; the input reads as it did. -/
def fnRoomGreaterSpec : ChangeSpec := { name := "fnRoomGreater", vars := ["loop.example/lib-g01189/impl.errRead", "loop.example/lib-g01189/impl.errSplit"], fn := fun _ => fun
  | [d1, d2, d3, g1, g2] => { results := [.lit (.bool true)], args := [d1, d2, d3], vars := [g1, g2] }
  | _ => none }
def fnRoomGreaterRow : OpenClaim := { program := "ytajoidaffnckpaadoor", sum := "602f0d3b1be0709b1a8230814a541b4a54aae10f45a26b0e3ca3f00d261defa8", func := "loop.example/lib-g01189/laws.FnRoomGreater", spec := "fnRoomGreater", inPlace := ["internal/bytealg.IndexByte"], unfollowed := true, recurses := true, named := ["io.EOF", "loop.example/lib-g01189/impl.errRead", "bufio.ErrFinalToken", "bufio.ErrTooLong", "bufio.ErrBadReadCount", "io.ErrNoProgress", "bufio.ErrNegativeAdvance", "bufio.ErrAdvanceTooFar", "loop.example/lib-g01189/impl.errSplit"], ifaces := true, apart := false, laid := [("io.EOF", laid_io_EOF), ("io.ErrNoProgress", laid_io_ErrNoProgress), ("bufio.ErrTooLong", laid_bufio_ErrTooLong), ("bufio.ErrNegativeAdvance", laid_bufio_ErrNegativeAdvance), ("bufio.ErrAdvanceTooFar", laid_bufio_ErrAdvanceTooFar), ("bufio.ErrBadReadCount", laid_bufio_ErrBadReadCount), ("bufio.ErrFinalToken", laid_bufio_ErrFinalToken), ("loop.example/lib-g01189/impl.errSplit", laid_loop_example_lib_g01189_impl_errSplit), ("loop.example/lib-g01189/impl.errRead", laid_loop_example_lib_g01189_impl_errRead)] }
def FnRoomGreaterSaid : Prop := fnRoomGreaterRow.holds Tryd.pinned (OpenSpec.ofChange fnRoomGreaterSpec)

/-- ITS FALSE NEIGHBOUR: 'it returns false'. Refute it at one input. -/
def fnRoomGreaterWrong : ChangeSpec := { name := "fnRoomGreater", vars := ["loop.example/lib-g01189/impl.errRead", "loop.example/lib-g01189/impl.errSplit"], fn := fun _ => fun
  | [d1, d2, d3, g1, g2] => { results := [.lit (.bool false)], args := [d1, d2, d3], vars := [g1, g2] }
  | _ => none }
def FnRoomGreaterWrongFalsely : Prop := fnRoomGreaterRow.holds Tryd.pinned (OpenSpec.ofChange fnRoomGreaterWrong)

/- THE SECOND FORM. 'bulk': how many values and letters a reading holds, each counted each time it is reached (what is shared counts as often as it is met; a slice's spare places count too). A statement '..UptoSaid' is the law's where the arguments, and the package variables that the reading takes, are together of bulk at most 1048576: NARROWER than '..Said'. Prove '..Said' where nothing that the law and all that it calls make is longer than what came in: it says more and counts as full. Else prove '..UptoSaid'. A law counts once. -/
mutual
def uptoBulk {H : Type} : DataW H → Nat
  | .lit (.string bytes) => bytes.length + 1
  | .lit _ => 1
  | .nil => 1
  | .ptr d => uptoBulk d + 1
  | .slice elems spare => uptoBulkAll elems + uptoBulkAll spare + 1
  | .agg parts => uptoBulkAll parts + 1
  | .iface _ d => uptoBulk d + 1
  | .map entries => uptoBulkEntries entries + 1
  | .held _ => 1
def uptoBulkAll {H : Type} : List (DataW H) → Nat
  | [] => 0
  | d :: r => uptoBulk d + uptoBulkAll r
def uptoBulkEntries {H : Type} : List (Lit × DataW H) → Nat
  | [] => 0
  | x :: r => uptoBulkEntry x + uptoBulkEntries r
def uptoBulkEntry {H : Type} : Lit × DataW H → Nat
  | (.string bytes, d) => bytes.length + uptoBulk d + 1
  | (_, d) => uptoBulk d + 1
 end
def uptoSmall : (H : Type) → List (DataW H) → Bool := fun _ ds => decide (uptoBulkAll ds ≤ 1048576)
def OpenSpec.upto (s : _root_.Go.ChangeSpec) : _root_.Go.OpenSpec := { _root_.Go.OpenSpec.ofChange s with cond := some uptoSmall }

/-- 'laws.FnLinesBut', WHERE WHAT IT READS IS OF BULK AT MOST 1048576: true; the input reads as it did. -/
def fnLinesButUptoRow : OpenClaim := { program := "ytajoidaffnckpaadoor", sum := "602f0d3b1be0709b1a8230814a541b4a54aae10f45a26b0e3ca3f00d261defa8", func := "loop.example/lib-g01189/laws.FnLinesBut", spec := "fnLinesBut", inPlace := ["internal/bytealg.IndexByte"], unfollowed := true, recurses := true, named := ["io.EOF", "loop.example/lib-g01189/impl.errRead", "bufio.ErrFinalToken", "bufio.ErrTooLong", "bufio.ErrBadReadCount", "io.ErrNoProgress", "bufio.ErrNegativeAdvance", "bufio.ErrAdvanceTooFar"], ifaces := true, apart := false, laid := [("io.EOF", laid_io_EOF), ("io.ErrNoProgress", laid_io_ErrNoProgress), ("bufio.ErrTooLong", laid_bufio_ErrTooLong), ("bufio.ErrNegativeAdvance", laid_bufio_ErrNegativeAdvance), ("bufio.ErrAdvanceTooFar", laid_bufio_ErrAdvanceTooFar), ("bufio.ErrBadReadCount", laid_bufio_ErrBadReadCount), ("bufio.ErrFinalToken", laid_bufio_ErrFinalToken), ("loop.example/lib-g01189/impl.errRead", laid_loop_example_lib_g01189_impl_errRead)], narrowed := true }
def FnLinesButUptoSaid : Prop := fnLinesButUptoRow.holds Tryd.pinned (OpenSpec.upto fnLinesButSpec)

/-- 'laws.FnLinesWithin', WHERE WHAT IT READS IS OF BULK AT MOST 1048576: true; the input reads as it did. -/
def fnLinesWithinUptoRow : OpenClaim := { program := "ytajoidaffnckpaadoor", sum := "602f0d3b1be0709b1a8230814a541b4a54aae10f45a26b0e3ca3f00d261defa8", func := "loop.example/lib-g01189/laws.FnLinesWithin", spec := "fnLinesWithin", inPlace := ["internal/bytealg.IndexByte"], unfollowed := true, recurses := true, named := ["io.EOF", "loop.example/lib-g01189/impl.errRead", "bufio.ErrFinalToken", "bufio.ErrTooLong", "bufio.ErrBadReadCount", "io.ErrNoProgress", "bufio.ErrNegativeAdvance", "bufio.ErrAdvanceTooFar"], ifaces := true, apart := false, laid := [("io.EOF", laid_io_EOF), ("io.ErrNoProgress", laid_io_ErrNoProgress), ("bufio.ErrTooLong", laid_bufio_ErrTooLong), ("bufio.ErrNegativeAdvance", laid_bufio_ErrNegativeAdvance), ("bufio.ErrAdvanceTooFar", laid_bufio_ErrAdvanceTooFar), ("bufio.ErrBadReadCount", laid_bufio_ErrBadReadCount), ("bufio.ErrFinalToken", laid_bufio_ErrFinalToken), ("loop.example/lib-g01189/impl.errRead", laid_loop_example_lib_g01189_impl_errRead)], narrowed := true }
def FnLinesWithinUptoSaid : Prop := fnLinesWithinUptoRow.holds Tryd.pinned (OpenSpec.upto fnLinesWithinSpec)

/-- 'laws.FnLinesSplit', WHERE WHAT IT READS IS OF BULK AT MOST 1048576: true; the input reads as it did. -/
def fnLinesSplitUptoRow : OpenClaim := { program := "ytajoidaffnckpaadoor", sum := "602f0d3b1be0709b1a8230814a541b4a54aae10f45a26b0e3ca3f00d261defa8", func := "loop.example/lib-g01189/laws.FnLinesSplit", spec := "fnLinesSplit", inPlace := ["internal/bytealg.IndexByte"], unfollowed := true, recurses := true, named := ["io.EOF", "loop.example/lib-g01189/impl.errRead", "bufio.ErrFinalToken", "bufio.ErrTooLong", "bufio.ErrBadReadCount", "io.ErrNoProgress", "bufio.ErrNegativeAdvance", "bufio.ErrAdvanceTooFar"], ifaces := true, apart := false, laid := [("io.EOF", laid_io_EOF), ("io.ErrNoProgress", laid_io_ErrNoProgress), ("bufio.ErrTooLong", laid_bufio_ErrTooLong), ("bufio.ErrNegativeAdvance", laid_bufio_ErrNegativeAdvance), ("bufio.ErrAdvanceTooFar", laid_bufio_ErrAdvanceTooFar), ("bufio.ErrBadReadCount", laid_bufio_ErrBadReadCount), ("bufio.ErrFinalToken", laid_bufio_ErrFinalToken), ("loop.example/lib-g01189/impl.errRead", laid_loop_example_lib_g01189_impl_errRead)], narrowed := true }
def FnLinesSplitUptoSaid : Prop := fnLinesSplitUptoRow.holds Tryd.pinned (OpenSpec.upto fnLinesSplitSpec)

/-- 'laws.FnLinesErr', WHERE WHAT IT READS IS OF BULK AT MOST 1048576: true; the input reads as it did. -/
def fnLinesErrUptoRow : OpenClaim := { program := "ytajoidaffnckpaadoor", sum := "602f0d3b1be0709b1a8230814a541b4a54aae10f45a26b0e3ca3f00d261defa8", func := "loop.example/lib-g01189/laws.FnLinesErr", spec := "fnLinesErr", inPlace := ["internal/bytealg.IndexByte"], unfollowed := true, recurses := true, named := ["io.EOF", "loop.example/lib-g01189/impl.errRead", "bufio.ErrFinalToken", "bufio.ErrTooLong", "bufio.ErrBadReadCount", "io.ErrNoProgress", "bufio.ErrNegativeAdvance", "bufio.ErrAdvanceTooFar", "loop.example/lib-g01189/impl.errSplit"], ifaces := true, apart := false, laid := [("io.EOF", laid_io_EOF), ("io.ErrNoProgress", laid_io_ErrNoProgress), ("bufio.ErrTooLong", laid_bufio_ErrTooLong), ("bufio.ErrNegativeAdvance", laid_bufio_ErrNegativeAdvance), ("bufio.ErrAdvanceTooFar", laid_bufio_ErrAdvanceTooFar), ("bufio.ErrBadReadCount", laid_bufio_ErrBadReadCount), ("bufio.ErrFinalToken", laid_bufio_ErrFinalToken), ("loop.example/lib-g01189/impl.errSplit", laid_loop_example_lib_g01189_impl_errSplit), ("loop.example/lib-g01189/impl.errRead", laid_loop_example_lib_g01189_impl_errRead)], narrowed := true }
def FnLinesErrUptoSaid : Prop := fnLinesErrUptoRow.holds Tryd.pinned (OpenSpec.upto fnLinesErrSpec)

/-- 'laws.FnLineStepMore', WHERE WHAT IT READS IS OF BULK AT MOST 1048576: true; the input reads as it did. -/
def fnLineStepMoreUptoRow : OpenClaim := { program := "ytajoidaffnckpaadoor", sum := "602f0d3b1be0709b1a8230814a541b4a54aae10f45a26b0e3ca3f00d261defa8", func := "loop.example/lib-g01189/laws.FnLineStepMore", spec := "fnLineStepMore", inPlace := ["internal/bytealg.IndexByte"], unfollowed := true, recurses := true, named := ["bufio.ErrTooLong", "bufio.ErrNegativeAdvance", "bufio.ErrAdvanceTooFar", "loop.example/lib-g01189/impl.errSplit", "loop.example/lib-g01189/impl.errRead", "io.EOF", "bufio.ErrFinalToken", "bufio.ErrBadReadCount", "io.ErrNoProgress"], ifaces := true, apart := false, laid := [("io.EOF", laid_io_EOF), ("io.ErrNoProgress", laid_io_ErrNoProgress), ("bufio.ErrTooLong", laid_bufio_ErrTooLong), ("bufio.ErrNegativeAdvance", laid_bufio_ErrNegativeAdvance), ("bufio.ErrAdvanceTooFar", laid_bufio_ErrAdvanceTooFar), ("bufio.ErrBadReadCount", laid_bufio_ErrBadReadCount), ("bufio.ErrFinalToken", laid_bufio_ErrFinalToken), ("loop.example/lib-g01189/impl.errSplit", laid_loop_example_lib_g01189_impl_errSplit), ("loop.example/lib-g01189/impl.errRead", laid_loop_example_lib_g01189_impl_errRead)], narrowed := true }
def FnLineStepMoreUptoSaid : Prop := fnLineStepMoreUptoRow.holds Tryd.pinned (OpenSpec.upto fnLineStepMoreSpec)

/-- 'laws.FnLineSteps', WHERE WHAT IT READS IS OF BULK AT MOST 1048576: true; the input reads as it did. -/
def fnLineStepsUptoRow : OpenClaim := { program := "ytajoidaffnckpaadoor", sum := "602f0d3b1be0709b1a8230814a541b4a54aae10f45a26b0e3ca3f00d261defa8", func := "loop.example/lib-g01189/laws.FnLineSteps", spec := "fnLineSteps", inPlace := ["internal/bytealg.IndexByte"], unfollowed := true, recurses := true, named := ["bufio.ErrTooLong", "bufio.ErrNegativeAdvance", "bufio.ErrAdvanceTooFar", "loop.example/lib-g01189/impl.errSplit", "loop.example/lib-g01189/impl.errRead", "io.EOF", "bufio.ErrFinalToken", "bufio.ErrBadReadCount", "io.ErrNoProgress"], ifaces := true, apart := false, laid := [("io.EOF", laid_io_EOF), ("io.ErrNoProgress", laid_io_ErrNoProgress), ("bufio.ErrTooLong", laid_bufio_ErrTooLong), ("bufio.ErrNegativeAdvance", laid_bufio_ErrNegativeAdvance), ("bufio.ErrAdvanceTooFar", laid_bufio_ErrAdvanceTooFar), ("bufio.ErrBadReadCount", laid_bufio_ErrBadReadCount), ("bufio.ErrFinalToken", laid_bufio_ErrFinalToken), ("loop.example/lib-g01189/impl.errSplit", laid_loop_example_lib_g01189_impl_errSplit), ("loop.example/lib-g01189/impl.errRead", laid_loop_example_lib_g01189_impl_errRead)], narrowed := true }
def FnLineStepsUptoSaid : Prop := fnLineStepsUptoRow.holds Tryd.pinned (OpenSpec.upto fnLineStepsSpec)

/-- 'laws.FnLinesAllOfBroken', WHERE WHAT IT READS IS OF BULK AT MOST 1048576: true; the input reads as it did. -/
def fnLinesAllOfBrokenUptoRow : OpenClaim := { program := "ytajoidaffnckpaadoor", sum := "602f0d3b1be0709b1a8230814a541b4a54aae10f45a26b0e3ca3f00d261defa8", func := "loop.example/lib-g01189/laws.FnLinesAllOfBroken", spec := "fnLinesAllOfBroken", inPlace := ["internal/bytealg.IndexByte"], unfollowed := true, recurses := true, named := ["io.EOF", "loop.example/lib-g01189/impl.errRead", "bufio.ErrFinalToken", "bufio.ErrTooLong", "bufio.ErrBadReadCount", "io.ErrNoProgress", "bufio.ErrNegativeAdvance", "bufio.ErrAdvanceTooFar", "loop.example/lib-g01189/impl.errSplit"], ifaces := true, apart := false, laid := [("io.EOF", laid_io_EOF), ("io.ErrNoProgress", laid_io_ErrNoProgress), ("bufio.ErrTooLong", laid_bufio_ErrTooLong), ("bufio.ErrNegativeAdvance", laid_bufio_ErrNegativeAdvance), ("bufio.ErrAdvanceTooFar", laid_bufio_ErrAdvanceTooFar), ("bufio.ErrBadReadCount", laid_bufio_ErrBadReadCount), ("bufio.ErrFinalToken", laid_bufio_ErrFinalToken), ("loop.example/lib-g01189/impl.errSplit", laid_loop_example_lib_g01189_impl_errSplit), ("loop.example/lib-g01189/impl.errRead", laid_loop_example_lib_g01189_impl_errRead)], narrowed := true }
def FnLinesAllOfBrokenUptoSaid : Prop := fnLinesAllOfBrokenUptoRow.holds Tryd.pinned (OpenSpec.upto fnLinesAllOfBrokenSpec)

/-- 'laws.FnLinesBroken', WHERE WHAT IT READS IS OF BULK AT MOST 1048576: true; the input reads as it did. -/
def fnLinesBrokenUptoRow : OpenClaim := { program := "ytajoidaffnckpaadoor", sum := "602f0d3b1be0709b1a8230814a541b4a54aae10f45a26b0e3ca3f00d261defa8", func := "loop.example/lib-g01189/laws.FnLinesBroken", spec := "fnLinesBroken", inPlace := ["internal/bytealg.IndexByte"], unfollowed := true, recurses := true, named := ["io.EOF", "loop.example/lib-g01189/impl.errRead", "bufio.ErrFinalToken", "bufio.ErrTooLong", "bufio.ErrBadReadCount", "io.ErrNoProgress", "bufio.ErrNegativeAdvance", "bufio.ErrAdvanceTooFar", "loop.example/lib-g01189/impl.errSplit"], ifaces := true, apart := false, laid := [("io.EOF", laid_io_EOF), ("io.ErrNoProgress", laid_io_ErrNoProgress), ("bufio.ErrTooLong", laid_bufio_ErrTooLong), ("bufio.ErrNegativeAdvance", laid_bufio_ErrNegativeAdvance), ("bufio.ErrAdvanceTooFar", laid_bufio_ErrAdvanceTooFar), ("bufio.ErrBadReadCount", laid_bufio_ErrBadReadCount), ("bufio.ErrFinalToken", laid_bufio_ErrFinalToken), ("loop.example/lib-g01189/impl.errSplit", laid_loop_example_lib_g01189_impl_errSplit), ("loop.example/lib-g01189/impl.errRead", laid_loop_example_lib_g01189_impl_errRead)], narrowed := true }
def FnLinesBrokenUptoSaid : Prop := fnLinesBrokenUptoRow.holds Tryd.pinned (OpenSpec.upto fnLinesBrokenSpec)

/-- 'laws.FnLinesFrom', WHERE WHAT IT READS IS OF BULK AT MOST 1048576: true; the input reads as it did. -/
def fnLinesFromUptoRow : OpenClaim := { program := "ytajoidaffnckpaadoor", sum := "602f0d3b1be0709b1a8230814a541b4a54aae10f45a26b0e3ca3f00d261defa8", func := "loop.example/lib-g01189/laws.FnLinesFrom", spec := "fnLinesFrom", inPlace := ["internal/bytealg.IndexByte"], unfollowed := true, recurses := true, named := ["io.EOF", "loop.example/lib-g01189/impl.errRead", "bufio.ErrFinalToken", "bufio.ErrTooLong", "bufio.ErrBadReadCount", "io.ErrNoProgress", "bufio.ErrNegativeAdvance", "bufio.ErrAdvanceTooFar", "loop.example/lib-g01189/impl.errSplit"], ifaces := true, apart := false, laid := [("io.EOF", laid_io_EOF), ("io.ErrNoProgress", laid_io_ErrNoProgress), ("bufio.ErrTooLong", laid_bufio_ErrTooLong), ("bufio.ErrNegativeAdvance", laid_bufio_ErrNegativeAdvance), ("bufio.ErrAdvanceTooFar", laid_bufio_ErrAdvanceTooFar), ("bufio.ErrBadReadCount", laid_bufio_ErrBadReadCount), ("bufio.ErrFinalToken", laid_bufio_ErrFinalToken), ("loop.example/lib-g01189/impl.errSplit", laid_loop_example_lib_g01189_impl_errSplit), ("loop.example/lib-g01189/impl.errRead", laid_loop_example_lib_g01189_impl_errRead)], narrowed := true }
def FnLinesFromUptoSaid : Prop := fnLinesFromUptoRow.holds Tryd.pinned (OpenSpec.upto fnLinesFromSpec)

/-- 'laws.FnLinesPieces', WHERE WHAT IT READS IS OF BULK AT MOST 1048576: true; the input reads as it did. -/
def fnLinesPiecesUptoRow : OpenClaim := { program := "ytajoidaffnckpaadoor", sum := "602f0d3b1be0709b1a8230814a541b4a54aae10f45a26b0e3ca3f00d261defa8", func := "loop.example/lib-g01189/laws.FnLinesPieces", spec := "fnLinesPieces", inPlace := ["internal/bytealg.IndexByte"], unfollowed := true, recurses := true, named := ["io.EOF", "loop.example/lib-g01189/impl.errRead", "bufio.ErrFinalToken", "bufio.ErrTooLong", "bufio.ErrBadReadCount", "io.ErrNoProgress", "bufio.ErrNegativeAdvance", "bufio.ErrAdvanceTooFar", "loop.example/lib-g01189/impl.errSplit"], ifaces := true, apart := false, laid := [("io.EOF", laid_io_EOF), ("io.ErrNoProgress", laid_io_ErrNoProgress), ("bufio.ErrTooLong", laid_bufio_ErrTooLong), ("bufio.ErrNegativeAdvance", laid_bufio_ErrNegativeAdvance), ("bufio.ErrAdvanceTooFar", laid_bufio_ErrAdvanceTooFar), ("bufio.ErrBadReadCount", laid_bufio_ErrBadReadCount), ("bufio.ErrFinalToken", laid_bufio_ErrFinalToken), ("loop.example/lib-g01189/impl.errSplit", laid_loop_example_lib_g01189_impl_errSplit), ("loop.example/lib-g01189/impl.errRead", laid_loop_example_lib_g01189_impl_errRead)], narrowed := true }
def FnLinesPiecesUptoSaid : Prop := fnLinesPiecesUptoRow.holds Tryd.pinned (OpenSpec.upto fnLinesPiecesSpec)

/-- 'laws.FnLinesTooLong', WHERE WHAT IT READS IS OF BULK AT MOST 1048576: true; the input reads as it did. -/
def fnLinesTooLongUptoRow : OpenClaim := { program := "ytajoidaffnckpaadoor", sum := "602f0d3b1be0709b1a8230814a541b4a54aae10f45a26b0e3ca3f00d261defa8", func := "loop.example/lib-g01189/laws.FnLinesTooLong", spec := "fnLinesTooLong", inPlace := ["internal/bytealg.IndexByte"], unfollowed := true, recurses := true, named := ["io.EOF", "loop.example/lib-g01189/impl.errRead", "bufio.ErrFinalToken", "bufio.ErrTooLong", "bufio.ErrBadReadCount", "io.ErrNoProgress", "bufio.ErrNegativeAdvance", "bufio.ErrAdvanceTooFar", "loop.example/lib-g01189/impl.errSplit"], ifaces := true, apart := false, laid := [("io.EOF", laid_io_EOF), ("io.ErrNoProgress", laid_io_ErrNoProgress), ("bufio.ErrTooLong", laid_bufio_ErrTooLong), ("bufio.ErrNegativeAdvance", laid_bufio_ErrNegativeAdvance), ("bufio.ErrAdvanceTooFar", laid_bufio_ErrAdvanceTooFar), ("bufio.ErrBadReadCount", laid_bufio_ErrBadReadCount), ("bufio.ErrFinalToken", laid_bufio_ErrFinalToken), ("loop.example/lib-g01189/impl.errSplit", laid_loop_example_lib_g01189_impl_errSplit), ("loop.example/lib-g01189/impl.errRead", laid_loop_example_lib_g01189_impl_errRead)], narrowed := true }
def FnLinesTooLongUptoSaid : Prop := fnLinesTooLongUptoRow.holds Tryd.pinned (OpenSpec.upto fnLinesTooLongSpec)

/-- 'laws.FnRoomGreater', WHERE WHAT IT READS IS OF BULK AT MOST 1048576: true; the input reads as it did. -/
def fnRoomGreaterUptoRow : OpenClaim := { program := "ytajoidaffnckpaadoor", sum := "602f0d3b1be0709b1a8230814a541b4a54aae10f45a26b0e3ca3f00d261defa8", func := "loop.example/lib-g01189/laws.FnRoomGreater", spec := "fnRoomGreater", inPlace := ["internal/bytealg.IndexByte"], unfollowed := true, recurses := true, named := ["io.EOF", "loop.example/lib-g01189/impl.errRead", "bufio.ErrFinalToken", "bufio.ErrTooLong", "bufio.ErrBadReadCount", "io.ErrNoProgress", "bufio.ErrNegativeAdvance", "bufio.ErrAdvanceTooFar", "loop.example/lib-g01189/impl.errSplit"], ifaces := true, apart := false, laid := [("io.EOF", laid_io_EOF), ("io.ErrNoProgress", laid_io_ErrNoProgress), ("bufio.ErrTooLong", laid_bufio_ErrTooLong), ("bufio.ErrNegativeAdvance", laid_bufio_ErrNegativeAdvance), ("bufio.ErrAdvanceTooFar", laid_bufio_ErrAdvanceTooFar), ("bufio.ErrBadReadCount", laid_bufio_ErrBadReadCount), ("bufio.ErrFinalToken", laid_bufio_ErrFinalToken), ("loop.example/lib-g01189/impl.errSplit", laid_loop_example_lib_g01189_impl_errSplit), ("loop.example/lib-g01189/impl.errRead", laid_loop_example_lib_g01189_impl_errRead)], narrowed := true }
def FnRoomGreaterUptoSaid : Prop := fnRoomGreaterUptoRow.holds Tryd.pinned (OpenSpec.upto fnRoomGreaterSpec)

end Rows
end Go.Proofs.YtajoidaffnckpaaDoor
