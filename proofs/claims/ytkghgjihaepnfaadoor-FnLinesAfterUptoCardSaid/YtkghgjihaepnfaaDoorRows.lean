/-
  NARROWER THAN 'FOR EVERY INPUT', by the rows' own cells (each row's printed sentence says how): FnLineStep: ifaces, laid · FnExactErrEarly: ifaces, laid · FnBufferStarted: ifaces, laid · FnLinesAfter: ifaces, laid · FnLinesBytes: ifaces, laid · FnTextTwice: ifaces, laid · FnLines: ifaces, laid · FnLinesAgain: ifaces, laid · FnLinesJoined: ifaces, laid · FnLinesLastReturn: ifaces, laid · FnLinesMany: ifaces, laid · FnLinesReturns: ifaces, laid.
  DERIVED. THE GIVEN ROWS OF THIS SEAT. 12 by the template 'for every input the law returns true; each argument reads behind the call as it read before'; 0 by the template 'total and deterministic' (their statements: YtkghgjihaepnfaaDoorTotals.lean).
  GIVEN WITH THE SEED: the statements are not yours to turn. If you find one false, say at which input.
  Laid BY PROGRAM, IN A SANDBOX (cutbox-rows.mjs): the forced cells as the released guide's own fill.sh prints them over the translation 7360fd6c150f2f30… (all of the seat's roots in one cut). By AI agents, Wed Nov 11 2026. No macro, syntax, notation, axiom, sorry.
-/
import Derived.Test.YtkghgjihaepnfaaDoorChecked
import GoSem.Claim
import GoSem.ClaimJoined
import GoSem.ClaimMapViews
import Derived.JoinedTies
import Derived.KernelRfl
namespace Go.Proofs.YtkghgjihaepnfaaDoor
/- THE CELL 'sum', in the pinned program and in every row, IS THE sha256 OF THE DUMP (.gsa) THAT YtkghgjihaepnfaaDoorProg.lean LOADS. Nothing in Lean hashes anything: it is a label: what it is worth is what the hold of that sum in a sandbox is worth. -/
noncomputable def Tryd.pinned : Pinned := { name := "ytkghgjihaepnfaadoor", sum := "7360fd6c150f2f301086ab1e230ad8df39e93a91111b54ffdc829cfefb76d5fd", checked := Tryd.checked }
namespace Rows
def none {H : Type} : Left H := { results := [], args := [] }

/- WHAT THE LISTED PACKAGE-LEVEL VARIABLES READ AS WHEN THE CALL BEGINS. Each datum BY PROGRAM (the guide's laid-datum.mjs) off the statement by which the dump's own 'gosem.cut.vars' lays the variable. In a bare row this is a premise. The card (YtkghgjihaepnfaaDoorCards.lean) ties it to the program's text. -/
def laid_bufio_ErrTooLong {H : Type} : DataW H := .iface "*errors.errorString" (.ptr (.agg [.lit (.string [98, 117, 102, 105, 111, 46, 83, 99, 97, 110, 110, 101, 114, 58, 32, 116, 111, 107, 101, 110, 32, 116, 111, 111, 32, 108, 111, 110, 103])]))
def laid_bufio_ErrNegativeAdvance {H : Type} : DataW H := .iface "*errors.errorString" (.ptr (.agg [.lit (.string [98, 117, 102, 105, 111, 46, 83, 99, 97, 110, 110, 101, 114, 58, 32, 83, 112, 108, 105, 116, 70, 117, 110, 99, 32, 114, 101, 116, 117, 114, 110, 115, 32, 110, 101, 103, 97, 116, 105, 118, 101, 32, 97, 100, 118, 97, 110, 99, 101, 32, 99, 111, 117, 110, 116])]))
def laid_bufio_ErrAdvanceTooFar {H : Type} : DataW H := .iface "*errors.errorString" (.ptr (.agg [.lit (.string [98, 117, 102, 105, 111, 46, 83, 99, 97, 110, 110, 101, 114, 58, 32, 83, 112, 108, 105, 116, 70, 117, 110, 99, 32, 114, 101, 116, 117, 114, 110, 115, 32, 97, 100, 118, 97, 110, 99, 101, 32, 99, 111, 117, 110, 116, 32, 98, 101, 121, 111, 110, 100, 32, 105, 110, 112, 117, 116])]))
def laid_loop_example_lib_g01189_impl_errSplit {H : Type} : DataW H := .iface "*errors.errorString" (.ptr (.agg [.lit (.string [115, 112, 108, 105, 116])]))
def laid_loop_example_lib_g01189_impl_errRead {H : Type} : DataW H := .iface "*errors.errorString" (.ptr (.agg [.lit (.string [114, 101, 97, 100])]))
def laid_io_EOF {H : Type} : DataW H := .iface "*errors.errorString" (.ptr (.agg [.lit (.string [69, 79, 70])]))
def laid_io_ErrNoProgress {H : Type} : DataW H := .iface "*errors.errorString" (.ptr (.agg [.lit (.string [109, 117, 108, 116, 105, 112, 108, 101, 32, 82, 101, 97, 100, 32, 99, 97, 108, 108, 115, 32, 114, 101, 116, 117, 114, 110, 32, 110, 111, 32, 100, 97, 116, 97, 32, 111, 114, 32, 101, 114, 114, 111, 114])]))
def laid_bufio_ErrBadReadCount {H : Type} : DataW H := .iface "*errors.errorString" (.ptr (.agg [.lit (.string [98, 117, 102, 105, 111, 46, 83, 99, 97, 110, 110, 101, 114, 58, 32, 82, 101, 97, 100, 32, 114, 101, 116, 117, 114, 110, 101, 100, 32, 105, 109, 112, 111, 115, 115, 105, 98, 108, 101, 32, 99, 111, 117, 110, 116])]))
def laid_bufio_ErrFinalToken {H : Type} : DataW H := .iface "*errors.errorString" (.ptr (.agg [.lit (.string [102, 105, 110, 97, 108, 32, 116, 111, 107, 101, 110])]))

/-- 'laws.FnLineStep': WHATEVER THE INPUT: true; the input reads as it did. -/
def fnLineStepSpec : ChangeSpec := { name := "fnLineStep", vars := ["loop.example/lib-g01189/impl.errSplit", "loop.example/lib-g01189/impl.errRead"], fn := fun _ => fun
  | [d1, d2, g1, g2] => { results := [.lit (.bool true)], args := [d1, d2], vars := [g1, g2] }
  | _ => none }
def fnLineStepRow : OpenClaim := { program := "ytkghgjihaepnfaadoor", sum := "7360fd6c150f2f301086ab1e230ad8df39e93a91111b54ffdc829cfefb76d5fd", func := "loop.example/lib-g01189/laws.FnLineStep", spec := "fnLineStep", inPlace := ["internal/bytealg.IndexByte"], named := ["bufio.ErrTooLong", "bufio.ErrNegativeAdvance", "bufio.ErrAdvanceTooFar", "loop.example/lib-g01189/impl.errSplit", "loop.example/lib-g01189/impl.errRead"], ifaces := true, apart := false, laid := [("bufio.ErrTooLong", laid_bufio_ErrTooLong), ("bufio.ErrNegativeAdvance", laid_bufio_ErrNegativeAdvance), ("bufio.ErrAdvanceTooFar", laid_bufio_ErrAdvanceTooFar), ("loop.example/lib-g01189/impl.errSplit", laid_loop_example_lib_g01189_impl_errSplit), ("loop.example/lib-g01189/impl.errRead", laid_loop_example_lib_g01189_impl_errRead)] }
def FnLineStepSaid : Prop := fnLineStepRow.holds Tryd.pinned (OpenSpec.ofChange fnLineStepSpec)

/-- ITS FALSE NEIGHBOUR: 'it returns false'. Refute it at one input. -/
def fnLineStepWrong : ChangeSpec := { name := "fnLineStep", vars := ["loop.example/lib-g01189/impl.errSplit", "loop.example/lib-g01189/impl.errRead"], fn := fun _ => fun
  | [d1, d2, g1, g2] => { results := [.lit (.bool false)], args := [d1, d2], vars := [g1, g2] }
  | _ => none }
def FnLineStepWrongFalsely : Prop := fnLineStepRow.holds Tryd.pinned (OpenSpec.ofChange fnLineStepWrong)

/-- 'laws.FnExactErrEarly': WHATEVER THE INPUT: true; the input reads as it did. -/
def fnExactErrEarlySpec : ChangeSpec := { name := "fnExactErrEarly", vars := ["loop.example/lib-g01189/impl.errRead"], fn := fun _ => fun
  | [d, g1] => { results := [.lit (.bool true)], args := [d], vars := [g1] }
  | _ => none }
def fnExactErrEarlyRow : OpenClaim := { program := "ytkghgjihaepnfaadoor", sum := "7360fd6c150f2f301086ab1e230ad8df39e93a91111b54ffdc829cfefb76d5fd", func := "loop.example/lib-g01189/laws.FnExactErrEarly", spec := "fnExactErrEarly", inPlace := ["internal/bytealg.IndexByte"], named := ["io.EOF", "loop.example/lib-g01189/impl.errRead"], ifaces := true, apart := false, laid := [("io.EOF", laid_io_EOF), ("loop.example/lib-g01189/impl.errRead", laid_loop_example_lib_g01189_impl_errRead)] }
def FnExactErrEarlySaid : Prop := fnExactErrEarlyRow.holds Tryd.pinned (OpenSpec.ofChange fnExactErrEarlySpec)

/-- ITS FALSE NEIGHBOUR: 'it returns false'. Refute it at one input. -/
def fnExactErrEarlyWrong : ChangeSpec := { name := "fnExactErrEarly", vars := ["loop.example/lib-g01189/impl.errRead"], fn := fun _ => fun
  | [d, g1] => { results := [.lit (.bool false)], args := [d], vars := [g1] }
  | _ => none }
def FnExactErrEarlyWrongFalsely : Prop := fnExactErrEarlyRow.holds Tryd.pinned (OpenSpec.ofChange fnExactErrEarlyWrong)

/-- 'laws.FnBufferStarted': WHATEVER THE INPUT: true; the input reads as it did. -/
def fnBufferStartedSpec : ChangeSpec := { name := "fnBufferStarted", vars := ["loop.example/lib-g01189/impl.errRead"], fn := fun _ => fun
  | [d1, d2, d3, g1] => { results := [.lit (.bool true)], args := [d1, d2, d3], vars := [g1] }
  | _ => none }
def fnBufferStartedRow : OpenClaim := { program := "ytkghgjihaepnfaadoor", sum := "7360fd6c150f2f301086ab1e230ad8df39e93a91111b54ffdc829cfefb76d5fd", func := "loop.example/lib-g01189/laws.FnBufferStarted", spec := "fnBufferStarted", inPlace := ["internal/bytealg.IndexByte"], unfollowed := true, recurses := true, named := ["io.EOF", "loop.example/lib-g01189/impl.errRead", "bufio.ErrFinalToken", "bufio.ErrTooLong", "bufio.ErrBadReadCount", "io.ErrNoProgress", "bufio.ErrNegativeAdvance", "bufio.ErrAdvanceTooFar"], ifaces := true, apart := false, laid := [("io.EOF", laid_io_EOF), ("io.ErrNoProgress", laid_io_ErrNoProgress), ("bufio.ErrTooLong", laid_bufio_ErrTooLong), ("bufio.ErrNegativeAdvance", laid_bufio_ErrNegativeAdvance), ("bufio.ErrAdvanceTooFar", laid_bufio_ErrAdvanceTooFar), ("bufio.ErrBadReadCount", laid_bufio_ErrBadReadCount), ("bufio.ErrFinalToken", laid_bufio_ErrFinalToken), ("loop.example/lib-g01189/impl.errRead", laid_loop_example_lib_g01189_impl_errRead)] }
def FnBufferStartedSaid : Prop := fnBufferStartedRow.holds Tryd.pinned (OpenSpec.ofChange fnBufferStartedSpec)

/-- ITS FALSE NEIGHBOUR: 'it returns false'. Refute it at one input. -/
def fnBufferStartedWrong : ChangeSpec := { name := "fnBufferStarted", vars := ["loop.example/lib-g01189/impl.errRead"], fn := fun _ => fun
  | [d1, d2, d3, g1] => { results := [.lit (.bool false)], args := [d1, d2, d3], vars := [g1] }
  | _ => none }
def FnBufferStartedWrongFalsely : Prop := fnBufferStartedRow.holds Tryd.pinned (OpenSpec.ofChange fnBufferStartedWrong)

/-- 'laws.FnLinesAfter': WHATEVER THE INPUT: true; the input reads as it did. -/
def fnLinesAfterSpec : ChangeSpec := { name := "fnLinesAfter", vars := ["loop.example/lib-g01189/impl.errRead"], fn := fun _ => fun
  | [d1, d2, d3, g1] => { results := [.lit (.bool true)], args := [d1, d2, d3], vars := [g1] }
  | _ => none }
def fnLinesAfterRow : OpenClaim := { program := "ytkghgjihaepnfaadoor", sum := "7360fd6c150f2f301086ab1e230ad8df39e93a91111b54ffdc829cfefb76d5fd", func := "loop.example/lib-g01189/laws.FnLinesAfter", spec := "fnLinesAfter", inPlace := ["internal/bytealg.IndexByte"], unfollowed := true, recurses := true, named := ["io.EOF", "loop.example/lib-g01189/impl.errRead", "bufio.ErrFinalToken", "bufio.ErrTooLong", "bufio.ErrBadReadCount", "io.ErrNoProgress", "bufio.ErrNegativeAdvance", "bufio.ErrAdvanceTooFar"], ifaces := true, apart := false, laid := [("io.EOF", laid_io_EOF), ("io.ErrNoProgress", laid_io_ErrNoProgress), ("bufio.ErrTooLong", laid_bufio_ErrTooLong), ("bufio.ErrNegativeAdvance", laid_bufio_ErrNegativeAdvance), ("bufio.ErrAdvanceTooFar", laid_bufio_ErrAdvanceTooFar), ("bufio.ErrBadReadCount", laid_bufio_ErrBadReadCount), ("bufio.ErrFinalToken", laid_bufio_ErrFinalToken), ("loop.example/lib-g01189/impl.errRead", laid_loop_example_lib_g01189_impl_errRead)] }
def FnLinesAfterSaid : Prop := fnLinesAfterRow.holds Tryd.pinned (OpenSpec.ofChange fnLinesAfterSpec)

/-- ITS FALSE NEIGHBOUR: 'it returns false'. Refute it at one input. -/
def fnLinesAfterWrong : ChangeSpec := { name := "fnLinesAfter", vars := ["loop.example/lib-g01189/impl.errRead"], fn := fun _ => fun
  | [d1, d2, d3, g1] => { results := [.lit (.bool false)], args := [d1, d2, d3], vars := [g1] }
  | _ => none }
def FnLinesAfterWrongFalsely : Prop := fnLinesAfterRow.holds Tryd.pinned (OpenSpec.ofChange fnLinesAfterWrong)

/-- 'laws.FnLinesBytes': WHATEVER THE INPUT: true; the input reads as it did. -/
def fnLinesBytesSpec : ChangeSpec := { name := "fnLinesBytes", vars := ["loop.example/lib-g01189/impl.errRead"], fn := fun _ => fun
  | [d, g1] => { results := [.lit (.bool true)], args := [d], vars := [g1] }
  | _ => none }
def fnLinesBytesRow : OpenClaim := { program := "ytkghgjihaepnfaadoor", sum := "7360fd6c150f2f301086ab1e230ad8df39e93a91111b54ffdc829cfefb76d5fd", func := "loop.example/lib-g01189/laws.FnLinesBytes", spec := "fnLinesBytes", inPlace := ["internal/bytealg.IndexByte"], unfollowed := true, recurses := true, named := ["io.EOF", "loop.example/lib-g01189/impl.errRead", "bufio.ErrFinalToken", "bufio.ErrTooLong", "bufio.ErrBadReadCount", "io.ErrNoProgress", "bufio.ErrNegativeAdvance", "bufio.ErrAdvanceTooFar"], ifaces := true, apart := false, laid := [("io.EOF", laid_io_EOF), ("io.ErrNoProgress", laid_io_ErrNoProgress), ("bufio.ErrTooLong", laid_bufio_ErrTooLong), ("bufio.ErrNegativeAdvance", laid_bufio_ErrNegativeAdvance), ("bufio.ErrAdvanceTooFar", laid_bufio_ErrAdvanceTooFar), ("bufio.ErrBadReadCount", laid_bufio_ErrBadReadCount), ("bufio.ErrFinalToken", laid_bufio_ErrFinalToken), ("loop.example/lib-g01189/impl.errRead", laid_loop_example_lib_g01189_impl_errRead)] }
def FnLinesBytesSaid : Prop := fnLinesBytesRow.holds Tryd.pinned (OpenSpec.ofChange fnLinesBytesSpec)

/-- ITS FALSE NEIGHBOUR: 'it returns false'. Refute it at one input. -/
def fnLinesBytesWrong : ChangeSpec := { name := "fnLinesBytes", vars := ["loop.example/lib-g01189/impl.errRead"], fn := fun _ => fun
  | [d, g1] => { results := [.lit (.bool false)], args := [d], vars := [g1] }
  | _ => none }
def FnLinesBytesWrongFalsely : Prop := fnLinesBytesRow.holds Tryd.pinned (OpenSpec.ofChange fnLinesBytesWrong)

/-- 'laws.FnTextTwice': WHATEVER THE INPUT: true; the input reads as it did. -/
def fnTextTwiceSpec : ChangeSpec := { name := "fnTextTwice", vars := ["loop.example/lib-g01189/impl.errRead"], fn := fun _ => fun
  | [d, g1] => { results := [.lit (.bool true)], args := [d], vars := [g1] }
  | _ => none }
def fnTextTwiceRow : OpenClaim := { program := "ytkghgjihaepnfaadoor", sum := "7360fd6c150f2f301086ab1e230ad8df39e93a91111b54ffdc829cfefb76d5fd", func := "loop.example/lib-g01189/laws.FnTextTwice", spec := "fnTextTwice", inPlace := ["internal/bytealg.IndexByte"], unfollowed := true, recurses := true, named := ["io.EOF", "loop.example/lib-g01189/impl.errRead", "bufio.ErrFinalToken", "bufio.ErrTooLong", "bufio.ErrBadReadCount", "io.ErrNoProgress", "bufio.ErrNegativeAdvance", "bufio.ErrAdvanceTooFar"], ifaces := true, apart := false, laid := [("io.EOF", laid_io_EOF), ("io.ErrNoProgress", laid_io_ErrNoProgress), ("bufio.ErrTooLong", laid_bufio_ErrTooLong), ("bufio.ErrNegativeAdvance", laid_bufio_ErrNegativeAdvance), ("bufio.ErrAdvanceTooFar", laid_bufio_ErrAdvanceTooFar), ("bufio.ErrBadReadCount", laid_bufio_ErrBadReadCount), ("bufio.ErrFinalToken", laid_bufio_ErrFinalToken), ("loop.example/lib-g01189/impl.errRead", laid_loop_example_lib_g01189_impl_errRead)] }
def FnTextTwiceSaid : Prop := fnTextTwiceRow.holds Tryd.pinned (OpenSpec.ofChange fnTextTwiceSpec)

/-- ITS FALSE NEIGHBOUR: 'it returns false'. Refute it at one input. -/
def fnTextTwiceWrong : ChangeSpec := { name := "fnTextTwice", vars := ["loop.example/lib-g01189/impl.errRead"], fn := fun _ => fun
  | [d, g1] => { results := [.lit (.bool false)], args := [d], vars := [g1] }
  | _ => none }
def FnTextTwiceWrongFalsely : Prop := fnTextTwiceRow.holds Tryd.pinned (OpenSpec.ofChange fnTextTwiceWrong)

/-- 'laws.FnLines': WHATEVER THE INPUT: true; the input reads as it did. -/
def fnLinesSpec : ChangeSpec := { name := "fnLines", vars := ["loop.example/lib-g01189/impl.errRead"], fn := fun _ => fun
  | [d, g1] => { results := [.lit (.bool true)], args := [d], vars := [g1] }
  | _ => none }
def fnLinesRow : OpenClaim := { program := "ytkghgjihaepnfaadoor", sum := "7360fd6c150f2f301086ab1e230ad8df39e93a91111b54ffdc829cfefb76d5fd", func := "loop.example/lib-g01189/laws.FnLines", spec := "fnLines", inPlace := ["internal/bytealg.IndexByte"], unfollowed := true, recurses := true, named := ["io.EOF", "loop.example/lib-g01189/impl.errRead", "bufio.ErrFinalToken", "bufio.ErrTooLong", "bufio.ErrBadReadCount", "io.ErrNoProgress", "bufio.ErrNegativeAdvance", "bufio.ErrAdvanceTooFar"], ifaces := true, apart := false, laid := [("io.EOF", laid_io_EOF), ("io.ErrNoProgress", laid_io_ErrNoProgress), ("bufio.ErrTooLong", laid_bufio_ErrTooLong), ("bufio.ErrNegativeAdvance", laid_bufio_ErrNegativeAdvance), ("bufio.ErrAdvanceTooFar", laid_bufio_ErrAdvanceTooFar), ("bufio.ErrBadReadCount", laid_bufio_ErrBadReadCount), ("bufio.ErrFinalToken", laid_bufio_ErrFinalToken), ("loop.example/lib-g01189/impl.errRead", laid_loop_example_lib_g01189_impl_errRead)] }
def FnLinesSaid : Prop := fnLinesRow.holds Tryd.pinned (OpenSpec.ofChange fnLinesSpec)

/-- ITS FALSE NEIGHBOUR: 'it returns false'. Refute it at one input. -/
def fnLinesWrong : ChangeSpec := { name := "fnLines", vars := ["loop.example/lib-g01189/impl.errRead"], fn := fun _ => fun
  | [d, g1] => { results := [.lit (.bool false)], args := [d], vars := [g1] }
  | _ => none }
def FnLinesWrongFalsely : Prop := fnLinesRow.holds Tryd.pinned (OpenSpec.ofChange fnLinesWrong)

/-- 'laws.FnLinesAgain': WHATEVER THE INPUT: true; the input reads as it did. -/
def fnLinesAgainSpec : ChangeSpec := { name := "fnLinesAgain", vars := ["loop.example/lib-g01189/impl.errRead"], fn := fun _ => fun
  | [d, g1] => { results := [.lit (.bool true)], args := [d], vars := [g1] }
  | _ => none }
def fnLinesAgainRow : OpenClaim := { program := "ytkghgjihaepnfaadoor", sum := "7360fd6c150f2f301086ab1e230ad8df39e93a91111b54ffdc829cfefb76d5fd", func := "loop.example/lib-g01189/laws.FnLinesAgain", spec := "fnLinesAgain", inPlace := ["internal/bytealg.IndexByte"], unfollowed := true, recurses := true, named := ["io.EOF", "loop.example/lib-g01189/impl.errRead", "bufio.ErrFinalToken", "bufio.ErrTooLong", "bufio.ErrBadReadCount", "io.ErrNoProgress", "bufio.ErrNegativeAdvance", "bufio.ErrAdvanceTooFar"], ifaces := true, apart := false, laid := [("io.EOF", laid_io_EOF), ("io.ErrNoProgress", laid_io_ErrNoProgress), ("bufio.ErrTooLong", laid_bufio_ErrTooLong), ("bufio.ErrNegativeAdvance", laid_bufio_ErrNegativeAdvance), ("bufio.ErrAdvanceTooFar", laid_bufio_ErrAdvanceTooFar), ("bufio.ErrBadReadCount", laid_bufio_ErrBadReadCount), ("bufio.ErrFinalToken", laid_bufio_ErrFinalToken), ("loop.example/lib-g01189/impl.errRead", laid_loop_example_lib_g01189_impl_errRead)] }
def FnLinesAgainSaid : Prop := fnLinesAgainRow.holds Tryd.pinned (OpenSpec.ofChange fnLinesAgainSpec)

/-- ITS FALSE NEIGHBOUR: 'it returns false'. Refute it at one input. -/
def fnLinesAgainWrong : ChangeSpec := { name := "fnLinesAgain", vars := ["loop.example/lib-g01189/impl.errRead"], fn := fun _ => fun
  | [d, g1] => { results := [.lit (.bool false)], args := [d], vars := [g1] }
  | _ => none }
def FnLinesAgainWrongFalsely : Prop := fnLinesAgainRow.holds Tryd.pinned (OpenSpec.ofChange fnLinesAgainWrong)

/-- 'laws.FnLinesJoined': WHATEVER THE INPUT: true; the input reads as it did. -/
def fnLinesJoinedSpec : ChangeSpec := { name := "fnLinesJoined", vars := ["loop.example/lib-g01189/impl.errRead"], fn := fun _ => fun
  | [d1, d2, g1] => { results := [.lit (.bool true)], args := [d1, d2], vars := [g1] }
  | _ => none }
def fnLinesJoinedRow : OpenClaim := { program := "ytkghgjihaepnfaadoor", sum := "7360fd6c150f2f301086ab1e230ad8df39e93a91111b54ffdc829cfefb76d5fd", func := "loop.example/lib-g01189/laws.FnLinesJoined", spec := "fnLinesJoined", inPlace := ["internal/bytealg.IndexByte"], unfollowed := true, recurses := true, named := ["io.EOF", "loop.example/lib-g01189/impl.errRead", "bufio.ErrFinalToken", "bufio.ErrTooLong", "bufio.ErrBadReadCount", "io.ErrNoProgress", "bufio.ErrNegativeAdvance", "bufio.ErrAdvanceTooFar"], ifaces := true, apart := false, laid := [("io.EOF", laid_io_EOF), ("io.ErrNoProgress", laid_io_ErrNoProgress), ("bufio.ErrTooLong", laid_bufio_ErrTooLong), ("bufio.ErrNegativeAdvance", laid_bufio_ErrNegativeAdvance), ("bufio.ErrAdvanceTooFar", laid_bufio_ErrAdvanceTooFar), ("bufio.ErrBadReadCount", laid_bufio_ErrBadReadCount), ("bufio.ErrFinalToken", laid_bufio_ErrFinalToken), ("loop.example/lib-g01189/impl.errRead", laid_loop_example_lib_g01189_impl_errRead)] }
def FnLinesJoinedSaid : Prop := fnLinesJoinedRow.holds Tryd.pinned (OpenSpec.ofChange fnLinesJoinedSpec)

/-- ITS FALSE NEIGHBOUR: 'it returns false'. Refute it at one input. -/
def fnLinesJoinedWrong : ChangeSpec := { name := "fnLinesJoined", vars := ["loop.example/lib-g01189/impl.errRead"], fn := fun _ => fun
  | [d1, d2, g1] => { results := [.lit (.bool false)], args := [d1, d2], vars := [g1] }
  | _ => none }
def FnLinesJoinedWrongFalsely : Prop := fnLinesJoinedRow.holds Tryd.pinned (OpenSpec.ofChange fnLinesJoinedWrong)

/-- 'laws.FnLinesLastReturn': WHATEVER THE INPUT: true; the input reads as it did. -/
def fnLinesLastReturnSpec : ChangeSpec := { name := "fnLinesLastReturn", vars := ["loop.example/lib-g01189/impl.errRead"], fn := fun _ => fun
  | [d, g1] => { results := [.lit (.bool true)], args := [d], vars := [g1] }
  | _ => none }
def fnLinesLastReturnRow : OpenClaim := { program := "ytkghgjihaepnfaadoor", sum := "7360fd6c150f2f301086ab1e230ad8df39e93a91111b54ffdc829cfefb76d5fd", func := "loop.example/lib-g01189/laws.FnLinesLastReturn", spec := "fnLinesLastReturn", inPlace := ["internal/bytealg.IndexByte"], unfollowed := true, recurses := true, named := ["io.EOF", "loop.example/lib-g01189/impl.errRead", "bufio.ErrFinalToken", "bufio.ErrTooLong", "bufio.ErrBadReadCount", "io.ErrNoProgress", "bufio.ErrNegativeAdvance", "bufio.ErrAdvanceTooFar"], ifaces := true, apart := false, laid := [("io.EOF", laid_io_EOF), ("io.ErrNoProgress", laid_io_ErrNoProgress), ("bufio.ErrTooLong", laid_bufio_ErrTooLong), ("bufio.ErrNegativeAdvance", laid_bufio_ErrNegativeAdvance), ("bufio.ErrAdvanceTooFar", laid_bufio_ErrAdvanceTooFar), ("bufio.ErrBadReadCount", laid_bufio_ErrBadReadCount), ("bufio.ErrFinalToken", laid_bufio_ErrFinalToken), ("loop.example/lib-g01189/impl.errRead", laid_loop_example_lib_g01189_impl_errRead)] }
def FnLinesLastReturnSaid : Prop := fnLinesLastReturnRow.holds Tryd.pinned (OpenSpec.ofChange fnLinesLastReturnSpec)

/-- ITS FALSE NEIGHBOUR: 'it returns false'. Refute it at one input. -/
def fnLinesLastReturnWrong : ChangeSpec := { name := "fnLinesLastReturn", vars := ["loop.example/lib-g01189/impl.errRead"], fn := fun _ => fun
  | [d, g1] => { results := [.lit (.bool false)], args := [d], vars := [g1] }
  | _ => none }
def FnLinesLastReturnWrongFalsely : Prop := fnLinesLastReturnRow.holds Tryd.pinned (OpenSpec.ofChange fnLinesLastReturnWrong)

/-- 'laws.FnLinesMany': WHATEVER THE INPUT: true; the input reads as it did. -/
def fnLinesManySpec : ChangeSpec := { name := "fnLinesMany", vars := ["loop.example/lib-g01189/impl.errRead"], fn := fun _ => fun
  | [d, g1] => { results := [.lit (.bool true)], args := [d], vars := [g1] }
  | _ => none }
def fnLinesManyRow : OpenClaim := { program := "ytkghgjihaepnfaadoor", sum := "7360fd6c150f2f301086ab1e230ad8df39e93a91111b54ffdc829cfefb76d5fd", func := "loop.example/lib-g01189/laws.FnLinesMany", spec := "fnLinesMany", inPlace := ["internal/bytealg.IndexByte"], unfollowed := true, recurses := true, named := ["io.EOF", "loop.example/lib-g01189/impl.errRead", "bufio.ErrFinalToken", "bufio.ErrTooLong", "bufio.ErrBadReadCount", "io.ErrNoProgress", "bufio.ErrNegativeAdvance", "bufio.ErrAdvanceTooFar"], ifaces := true, apart := false, laid := [("io.EOF", laid_io_EOF), ("io.ErrNoProgress", laid_io_ErrNoProgress), ("bufio.ErrTooLong", laid_bufio_ErrTooLong), ("bufio.ErrNegativeAdvance", laid_bufio_ErrNegativeAdvance), ("bufio.ErrAdvanceTooFar", laid_bufio_ErrAdvanceTooFar), ("bufio.ErrBadReadCount", laid_bufio_ErrBadReadCount), ("bufio.ErrFinalToken", laid_bufio_ErrFinalToken), ("loop.example/lib-g01189/impl.errRead", laid_loop_example_lib_g01189_impl_errRead)] }
def FnLinesManySaid : Prop := fnLinesManyRow.holds Tryd.pinned (OpenSpec.ofChange fnLinesManySpec)

/-- ITS FALSE NEIGHBOUR: 'it returns false'. Refute it at one input. -/
def fnLinesManyWrong : ChangeSpec := { name := "fnLinesMany", vars := ["loop.example/lib-g01189/impl.errRead"], fn := fun _ => fun
  | [d, g1] => { results := [.lit (.bool false)], args := [d], vars := [g1] }
  | _ => none }
def FnLinesManyWrongFalsely : Prop := fnLinesManyRow.holds Tryd.pinned (OpenSpec.ofChange fnLinesManyWrong)

/-- 'laws.FnLinesReturns': WHATEVER THE INPUT: true; the input reads as it did. -/
def fnLinesReturnsSpec : ChangeSpec := { name := "fnLinesReturns", vars := ["loop.example/lib-g01189/impl.errRead"], fn := fun _ => fun
  | [d, g1] => { results := [.lit (.bool true)], args := [d], vars := [g1] }
  | _ => none }
def fnLinesReturnsRow : OpenClaim := { program := "ytkghgjihaepnfaadoor", sum := "7360fd6c150f2f301086ab1e230ad8df39e93a91111b54ffdc829cfefb76d5fd", func := "loop.example/lib-g01189/laws.FnLinesReturns", spec := "fnLinesReturns", inPlace := ["internal/bytealg.IndexByte"], unfollowed := true, recurses := true, named := ["io.EOF", "loop.example/lib-g01189/impl.errRead", "bufio.ErrFinalToken", "bufio.ErrTooLong", "bufio.ErrBadReadCount", "io.ErrNoProgress", "bufio.ErrNegativeAdvance", "bufio.ErrAdvanceTooFar"], ifaces := true, apart := false, laid := [("io.EOF", laid_io_EOF), ("io.ErrNoProgress", laid_io_ErrNoProgress), ("bufio.ErrTooLong", laid_bufio_ErrTooLong), ("bufio.ErrNegativeAdvance", laid_bufio_ErrNegativeAdvance), ("bufio.ErrAdvanceTooFar", laid_bufio_ErrAdvanceTooFar), ("bufio.ErrBadReadCount", laid_bufio_ErrBadReadCount), ("bufio.ErrFinalToken", laid_bufio_ErrFinalToken), ("loop.example/lib-g01189/impl.errRead", laid_loop_example_lib_g01189_impl_errRead)] }
def FnLinesReturnsSaid : Prop := fnLinesReturnsRow.holds Tryd.pinned (OpenSpec.ofChange fnLinesReturnsSpec)

/-- ITS FALSE NEIGHBOUR: 'it returns false'. Refute it at one input. -/
def fnLinesReturnsWrong : ChangeSpec := { name := "fnLinesReturns", vars := ["loop.example/lib-g01189/impl.errRead"], fn := fun _ => fun
  | [d, g1] => { results := [.lit (.bool false)], args := [d], vars := [g1] }
  | _ => none }
def FnLinesReturnsWrongFalsely : Prop := fnLinesReturnsRow.holds Tryd.pinned (OpenSpec.ofChange fnLinesReturnsWrong)

/- THE SECOND FORM. 'bulk': how many values and letters a reading holds, each counted each time it is reached (what is shared counts as often as it is met; a slice's spare places count too). A statement '..UptoSaid' is the law's where the arguments, and the package variables that the reading takes, are together of bulk at most 1048576: NARROWER than '..Said'. Prove '..Said' where nothing that the law and all that it calls make is longer than what came in: it says more and counts as full. Else prove '..UptoSaid'. A law counts once. -/
mutual
def uptoBulk {H : Type} : DataW H → Nat
  | .lit (.string bytes) => bytes.length + 1
  | .lit _ => 1
  | .nil => 1
  | .ptr d => uptoBulk d + 1
  | .slice elems spare => uptoBulkAll elems + uptoBulkAll spare + 1
  | .agg parts => uptoBulkAll parts + 1
  | .iface _ d => uptoBulk d + 1
  | .map entries => uptoBulkEntries entries + 1
  | .held _ => 1
def uptoBulkAll {H : Type} : List (DataW H) → Nat
  | [] => 0
  | d :: r => uptoBulk d + uptoBulkAll r
def uptoBulkEntries {H : Type} : List (Lit × DataW H) → Nat
  | [] => 0
  | x :: r => uptoBulkEntry x + uptoBulkEntries r
def uptoBulkEntry {H : Type} : Lit × DataW H → Nat
  | (.string bytes, d) => bytes.length + uptoBulk d + 1
  | (_, d) => uptoBulk d + 1
 end
def uptoSmall : (H : Type) → List (DataW H) → Bool := fun _ ds => decide (uptoBulkAll ds ≤ 1048576)
def OpenSpec.upto (s : _root_.Go.ChangeSpec) : _root_.Go.OpenSpec := { _root_.Go.OpenSpec.ofChange s with cond := some uptoSmall }

/-- 'laws.FnLineStep', WHERE WHAT IT READS IS OF BULK AT MOST 1048576: true; the input reads as it did. -/
def fnLineStepUptoRow : OpenClaim := { program := "ytkghgjihaepnfaadoor", sum := "7360fd6c150f2f301086ab1e230ad8df39e93a91111b54ffdc829cfefb76d5fd", func := "loop.example/lib-g01189/laws.FnLineStep", spec := "fnLineStep", inPlace := ["internal/bytealg.IndexByte"], named := ["bufio.ErrTooLong", "bufio.ErrNegativeAdvance", "bufio.ErrAdvanceTooFar", "loop.example/lib-g01189/impl.errSplit", "loop.example/lib-g01189/impl.errRead"], ifaces := true, apart := false, laid := [("bufio.ErrTooLong", laid_bufio_ErrTooLong), ("bufio.ErrNegativeAdvance", laid_bufio_ErrNegativeAdvance), ("bufio.ErrAdvanceTooFar", laid_bufio_ErrAdvanceTooFar), ("loop.example/lib-g01189/impl.errSplit", laid_loop_example_lib_g01189_impl_errSplit), ("loop.example/lib-g01189/impl.errRead", laid_loop_example_lib_g01189_impl_errRead)], narrowed := true }
def FnLineStepUptoSaid : Prop := fnLineStepUptoRow.holds Tryd.pinned (OpenSpec.upto fnLineStepSpec)

/-- 'laws.FnExactErrEarly', WHERE WHAT IT READS IS OF BULK AT MOST 1048576: true; the input reads as it did. -/
def fnExactErrEarlyUptoRow : OpenClaim := { program := "ytkghgjihaepnfaadoor", sum := "7360fd6c150f2f301086ab1e230ad8df39e93a91111b54ffdc829cfefb76d5fd", func := "loop.example/lib-g01189/laws.FnExactErrEarly", spec := "fnExactErrEarly", inPlace := ["internal/bytealg.IndexByte"], named := ["io.EOF", "loop.example/lib-g01189/impl.errRead"], ifaces := true, apart := false, laid := [("io.EOF", laid_io_EOF), ("loop.example/lib-g01189/impl.errRead", laid_loop_example_lib_g01189_impl_errRead)], narrowed := true }
def FnExactErrEarlyUptoSaid : Prop := fnExactErrEarlyUptoRow.holds Tryd.pinned (OpenSpec.upto fnExactErrEarlySpec)

/-- 'laws.FnBufferStarted', WHERE WHAT IT READS IS OF BULK AT MOST 1048576: true; the input reads as it did. -/
def fnBufferStartedUptoRow : OpenClaim := { program := "ytkghgjihaepnfaadoor", sum := "7360fd6c150f2f301086ab1e230ad8df39e93a91111b54ffdc829cfefb76d5fd", func := "loop.example/lib-g01189/laws.FnBufferStarted", spec := "fnBufferStarted", inPlace := ["internal/bytealg.IndexByte"], unfollowed := true, recurses := true, named := ["io.EOF", "loop.example/lib-g01189/impl.errRead", "bufio.ErrFinalToken", "bufio.ErrTooLong", "bufio.ErrBadReadCount", "io.ErrNoProgress", "bufio.ErrNegativeAdvance", "bufio.ErrAdvanceTooFar"], ifaces := true, apart := false, laid := [("io.EOF", laid_io_EOF), ("io.ErrNoProgress", laid_io_ErrNoProgress), ("bufio.ErrTooLong", laid_bufio_ErrTooLong), ("bufio.ErrNegativeAdvance", laid_bufio_ErrNegativeAdvance), ("bufio.ErrAdvanceTooFar", laid_bufio_ErrAdvanceTooFar), ("bufio.ErrBadReadCount", laid_bufio_ErrBadReadCount), ("bufio.ErrFinalToken", laid_bufio_ErrFinalToken), ("loop.example/lib-g01189/impl.errRead", laid_loop_example_lib_g01189_impl_errRead)], narrowed := true }
def FnBufferStartedUptoSaid : Prop := fnBufferStartedUptoRow.holds Tryd.pinned (OpenSpec.upto fnBufferStartedSpec)

/-- 'laws.FnLinesAfter', WHERE WHAT IT READS IS OF BULK AT MOST 1048576: true; the input reads as it did. -/
def fnLinesAfterUptoRow : OpenClaim := { program := "ytkghgjihaepnfaadoor", sum := "7360fd6c150f2f301086ab1e230ad8df39e93a91111b54ffdc829cfefb76d5fd", func := "loop.example/lib-g01189/laws.FnLinesAfter", spec := "fnLinesAfter", inPlace := ["internal/bytealg.IndexByte"], unfollowed := true, recurses := true, named := ["io.EOF", "loop.example/lib-g01189/impl.errRead", "bufio.ErrFinalToken", "bufio.ErrTooLong", "bufio.ErrBadReadCount", "io.ErrNoProgress", "bufio.ErrNegativeAdvance", "bufio.ErrAdvanceTooFar"], ifaces := true, apart := false, laid := [("io.EOF", laid_io_EOF), ("io.ErrNoProgress", laid_io_ErrNoProgress), ("bufio.ErrTooLong", laid_bufio_ErrTooLong), ("bufio.ErrNegativeAdvance", laid_bufio_ErrNegativeAdvance), ("bufio.ErrAdvanceTooFar", laid_bufio_ErrAdvanceTooFar), ("bufio.ErrBadReadCount", laid_bufio_ErrBadReadCount), ("bufio.ErrFinalToken", laid_bufio_ErrFinalToken), ("loop.example/lib-g01189/impl.errRead", laid_loop_example_lib_g01189_impl_errRead)], narrowed := true }
def FnLinesAfterUptoSaid : Prop := fnLinesAfterUptoRow.holds Tryd.pinned (OpenSpec.upto fnLinesAfterSpec)

/-- 'laws.FnLinesBytes', WHERE WHAT IT READS IS OF BULK AT MOST 1048576: true; the input reads as it did. -/
def fnLinesBytesUptoRow : OpenClaim := { program := "ytkghgjihaepnfaadoor", sum := "7360fd6c150f2f301086ab1e230ad8df39e93a91111b54ffdc829cfefb76d5fd", func := "loop.example/lib-g01189/laws.FnLinesBytes", spec := "fnLinesBytes", inPlace := ["internal/bytealg.IndexByte"], unfollowed := true, recurses := true, named := ["io.EOF", "loop.example/lib-g01189/impl.errRead", "bufio.ErrFinalToken", "bufio.ErrTooLong", "bufio.ErrBadReadCount", "io.ErrNoProgress", "bufio.ErrNegativeAdvance", "bufio.ErrAdvanceTooFar"], ifaces := true, apart := false, laid := [("io.EOF", laid_io_EOF), ("io.ErrNoProgress", laid_io_ErrNoProgress), ("bufio.ErrTooLong", laid_bufio_ErrTooLong), ("bufio.ErrNegativeAdvance", laid_bufio_ErrNegativeAdvance), ("bufio.ErrAdvanceTooFar", laid_bufio_ErrAdvanceTooFar), ("bufio.ErrBadReadCount", laid_bufio_ErrBadReadCount), ("bufio.ErrFinalToken", laid_bufio_ErrFinalToken), ("loop.example/lib-g01189/impl.errRead", laid_loop_example_lib_g01189_impl_errRead)], narrowed := true }
def FnLinesBytesUptoSaid : Prop := fnLinesBytesUptoRow.holds Tryd.pinned (OpenSpec.upto fnLinesBytesSpec)

/-- 'laws.FnTextTwice', WHERE WHAT IT READS IS OF BULK AT MOST 1048576: true; the input reads as it did. -/
def fnTextTwiceUptoRow : OpenClaim := { program := "ytkghgjihaepnfaadoor", sum := "7360fd6c150f2f301086ab1e230ad8df39e93a91111b54ffdc829cfefb76d5fd", func := "loop.example/lib-g01189/laws.FnTextTwice", spec := "fnTextTwice", inPlace := ["internal/bytealg.IndexByte"], unfollowed := true, recurses := true, named := ["io.EOF", "loop.example/lib-g01189/impl.errRead", "bufio.ErrFinalToken", "bufio.ErrTooLong", "bufio.ErrBadReadCount", "io.ErrNoProgress", "bufio.ErrNegativeAdvance", "bufio.ErrAdvanceTooFar"], ifaces := true, apart := false, laid := [("io.EOF", laid_io_EOF), ("io.ErrNoProgress", laid_io_ErrNoProgress), ("bufio.ErrTooLong", laid_bufio_ErrTooLong), ("bufio.ErrNegativeAdvance", laid_bufio_ErrNegativeAdvance), ("bufio.ErrAdvanceTooFar", laid_bufio_ErrAdvanceTooFar), ("bufio.ErrBadReadCount", laid_bufio_ErrBadReadCount), ("bufio.ErrFinalToken", laid_bufio_ErrFinalToken), ("loop.example/lib-g01189/impl.errRead", laid_loop_example_lib_g01189_impl_errRead)], narrowed := true }
def FnTextTwiceUptoSaid : Prop := fnTextTwiceUptoRow.holds Tryd.pinned (OpenSpec.upto fnTextTwiceSpec)

/-- 'laws.FnLines', WHERE WHAT IT READS IS OF BULK AT MOST 1048576: true; the input reads as it did. -/
def fnLinesUptoRow : OpenClaim := { program := "ytkghgjihaepnfaadoor", sum := "7360fd6c150f2f301086ab1e230ad8df39e93a91111b54ffdc829cfefb76d5fd", func := "loop.example/lib-g01189/laws.FnLines", spec := "fnLines", inPlace := ["internal/bytealg.IndexByte"], unfollowed := true, recurses := true, named := ["io.EOF", "loop.example/lib-g01189/impl.errRead", "bufio.ErrFinalToken", "bufio.ErrTooLong", "bufio.ErrBadReadCount", "io.ErrNoProgress", "bufio.ErrNegativeAdvance", "bufio.ErrAdvanceTooFar"], ifaces := true, apart := false, laid := [("io.EOF", laid_io_EOF), ("io.ErrNoProgress", laid_io_ErrNoProgress), ("bufio.ErrTooLong", laid_bufio_ErrTooLong), ("bufio.ErrNegativeAdvance", laid_bufio_ErrNegativeAdvance), ("bufio.ErrAdvanceTooFar", laid_bufio_ErrAdvanceTooFar), ("bufio.ErrBadReadCount", laid_bufio_ErrBadReadCount), ("bufio.ErrFinalToken", laid_bufio_ErrFinalToken), ("loop.example/lib-g01189/impl.errRead", laid_loop_example_lib_g01189_impl_errRead)], narrowed := true }
def FnLinesUptoSaid : Prop := fnLinesUptoRow.holds Tryd.pinned (OpenSpec.upto fnLinesSpec)

/-- 'laws.FnLinesAgain', WHERE WHAT IT READS IS OF BULK AT MOST 1048576: true; the input reads as it did. -/
def fnLinesAgainUptoRow : OpenClaim := { program := "ytkghgjihaepnfaadoor", sum := "7360fd6c150f2f301086ab1e230ad8df39e93a91111b54ffdc829cfefb76d5fd", func := "loop.example/lib-g01189/laws.FnLinesAgain", spec := "fnLinesAgain", inPlace := ["internal/bytealg.IndexByte"], unfollowed := true, recurses := true, named := ["io.EOF", "loop.example/lib-g01189/impl.errRead", "bufio.ErrFinalToken", "bufio.ErrTooLong", "bufio.ErrBadReadCount", "io.ErrNoProgress", "bufio.ErrNegativeAdvance", "bufio.ErrAdvanceTooFar"], ifaces := true, apart := false, laid := [("io.EOF", laid_io_EOF), ("io.ErrNoProgress", laid_io_ErrNoProgress), ("bufio.ErrTooLong", laid_bufio_ErrTooLong), ("bufio.ErrNegativeAdvance", laid_bufio_ErrNegativeAdvance), ("bufio.ErrAdvanceTooFar", laid_bufio_ErrAdvanceTooFar), ("bufio.ErrBadReadCount", laid_bufio_ErrBadReadCount), ("bufio.ErrFinalToken", laid_bufio_ErrFinalToken), ("loop.example/lib-g01189/impl.errRead", laid_loop_example_lib_g01189_impl_errRead)], narrowed := true }
def FnLinesAgainUptoSaid : Prop := fnLinesAgainUptoRow.holds Tryd.pinned (OpenSpec.upto fnLinesAgainSpec)

/-- 'laws.FnLinesJoined', WHERE WHAT IT READS IS OF BULK AT MOST 1048576: true; the input reads as it did. -/
def fnLinesJoinedUptoRow : OpenClaim := { program := "ytkghgjihaepnfaadoor", sum := "7360fd6c150f2f301086ab1e230ad8df39e93a91111b54ffdc829cfefb76d5fd", func := "loop.example/lib-g01189/laws.FnLinesJoined", spec := "fnLinesJoined", inPlace := ["internal/bytealg.IndexByte"], unfollowed := true, recurses := true, named := ["io.EOF", "loop.example/lib-g01189/impl.errRead", "bufio.ErrFinalToken", "bufio.ErrTooLong", "bufio.ErrBadReadCount", "io.ErrNoProgress", "bufio.ErrNegativeAdvance", "bufio.ErrAdvanceTooFar"], ifaces := true, apart := false, laid := [("io.EOF", laid_io_EOF), ("io.ErrNoProgress", laid_io_ErrNoProgress), ("bufio.ErrTooLong", laid_bufio_ErrTooLong), ("bufio.ErrNegativeAdvance", laid_bufio_ErrNegativeAdvance), ("bufio.ErrAdvanceTooFar", laid_bufio_ErrAdvanceTooFar), ("bufio.ErrBadReadCount", laid_bufio_ErrBadReadCount), ("bufio.ErrFinalToken", laid_bufio_ErrFinalToken), ("loop.example/lib-g01189/impl.errRead", laid_loop_example_lib_g01189_impl_errRead)], narrowed := true }
def FnLinesJoinedUptoSaid : Prop := fnLinesJoinedUptoRow.holds Tryd.pinned (OpenSpec.upto fnLinesJoinedSpec)

/-- 'laws.FnLinesLastReturn', WHERE WHAT IT READS IS OF BULK AT MOST 1048576: true; the input reads as it did. -/
def fnLinesLastReturnUptoRow : OpenClaim := { program := "ytkghgjihaepnfaadoor", sum := "7360fd6c150f2f301086ab1e230ad8df39e93a91111b54ffdc829cfefb76d5fd", func := "loop.example/lib-g01189/laws.FnLinesLastReturn", spec := "fnLinesLastReturn", inPlace := ["internal/bytealg.IndexByte"], unfollowed := true, recurses := true, named := ["io.EOF", "loop.example/lib-g01189/impl.errRead", "bufio.ErrFinalToken", "bufio.ErrTooLong", "bufio.ErrBadReadCount", "io.ErrNoProgress", "bufio.ErrNegativeAdvance", "bufio.ErrAdvanceTooFar"], ifaces := true, apart := false, laid := [("io.EOF", laid_io_EOF), ("io.ErrNoProgress", laid_io_ErrNoProgress), ("bufio.ErrTooLong", laid_bufio_ErrTooLong), ("bufio.ErrNegativeAdvance", laid_bufio_ErrNegativeAdvance), ("bufio.ErrAdvanceTooFar", laid_bufio_ErrAdvanceTooFar), ("bufio.ErrBadReadCount", laid_bufio_ErrBadReadCount), ("bufio.ErrFinalToken", laid_bufio_ErrFinalToken), ("loop.example/lib-g01189/impl.errRead", laid_loop_example_lib_g01189_impl_errRead)], narrowed := true }
def FnLinesLastReturnUptoSaid : Prop := fnLinesLastReturnUptoRow.holds Tryd.pinned (OpenSpec.upto fnLinesLastReturnSpec)

/-- 'laws.FnLinesMany', WHERE WHAT IT READS IS OF BULK AT MOST 1048576: true; the input reads as it did. -/
def fnLinesManyUptoRow : OpenClaim := { program := "ytkghgjihaepnfaadoor", sum := "7360fd6c150f2f301086ab1e230ad8df39e93a91111b54ffdc829cfefb76d5fd", func := "loop.example/lib-g01189/laws.FnLinesMany", spec := "fnLinesMany", inPlace := ["internal/bytealg.IndexByte"], unfollowed := true, recurses := true, named := ["io.EOF", "loop.example/lib-g01189/impl.errRead", "bufio.ErrFinalToken", "bufio.ErrTooLong", "bufio.ErrBadReadCount", "io.ErrNoProgress", "bufio.ErrNegativeAdvance", "bufio.ErrAdvanceTooFar"], ifaces := true, apart := false, laid := [("io.EOF", laid_io_EOF), ("io.ErrNoProgress", laid_io_ErrNoProgress), ("bufio.ErrTooLong", laid_bufio_ErrTooLong), ("bufio.ErrNegativeAdvance", laid_bufio_ErrNegativeAdvance), ("bufio.ErrAdvanceTooFar", laid_bufio_ErrAdvanceTooFar), ("bufio.ErrBadReadCount", laid_bufio_ErrBadReadCount), ("bufio.ErrFinalToken", laid_bufio_ErrFinalToken), ("loop.example/lib-g01189/impl.errRead", laid_loop_example_lib_g01189_impl_errRead)], narrowed := true }
def FnLinesManyUptoSaid : Prop := fnLinesManyUptoRow.holds Tryd.pinned (OpenSpec.upto fnLinesManySpec)

/-- 'laws.FnLinesReturns', WHERE WHAT IT READS IS OF BULK AT MOST 1048576: true; the input reads as it did. -/
def fnLinesReturnsUptoRow : OpenClaim := { program := "ytkghgjihaepnfaadoor", sum := "7360fd6c150f2f301086ab1e230ad8df39e93a91111b54ffdc829cfefb76d5fd", func := "loop.example/lib-g01189/laws.FnLinesReturns", spec := "fnLinesReturns", inPlace := ["internal/bytealg.IndexByte"], unfollowed := true, recurses := true, named := ["io.EOF", "loop.example/lib-g01189/impl.errRead", "bufio.ErrFinalToken", "bufio.ErrTooLong", "bufio.ErrBadReadCount", "io.ErrNoProgress", "bufio.ErrNegativeAdvance", "bufio.ErrAdvanceTooFar"], ifaces := true, apart := false, laid := [("io.EOF", laid_io_EOF), ("io.ErrNoProgress", laid_io_ErrNoProgress), ("bufio.ErrTooLong", laid_bufio_ErrTooLong), ("bufio.ErrNegativeAdvance", laid_bufio_ErrNegativeAdvance), ("bufio.ErrAdvanceTooFar", laid_bufio_ErrAdvanceTooFar), ("bufio.ErrBadReadCount", laid_bufio_ErrBadReadCount), ("bufio.ErrFinalToken", laid_bufio_ErrFinalToken), ("loop.example/lib-g01189/impl.errRead", laid_loop_example_lib_g01189_impl_errRead)], narrowed := true }
def FnLinesReturnsUptoSaid : Prop := fnLinesReturnsUptoRow.holds Tryd.pinned (OpenSpec.upto fnLinesReturnsSpec)

end Rows
end Go.Proofs.YtkghgjihaepnfaaDoor
