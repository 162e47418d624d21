/-
  DERIVED. GIVEN WITH THE SEED: THE PROGRAM's TIES (one call each: nine closed facts by the kernel) AND EACH ROW's TIE, after the 31st guide's Derived/Test/Toyas{Tie, Card}.lean. No idea stands in it: it is a product of the set-up. Laid BY PROGRAM, IN A SANDBOX (cutbox-door.mjs). By AI agents, Wed Nov 11 2026. No macro, syntax, notation, axiom, sorry.
-/
import Derived.Test.YtkghgjihaepnfaaDoorRows
import Derived.LaidByTextLater
import Derived.SevenTiedAt
import Derived.LaidSub
import Derived.LaidOnce
namespace Go.Proofs.YtkghgjihaepnfaaDoor
open Go
set_option maxRecDepth 100000
theorem seatTie1 : Tryd.prog.laidByTextLater [("io.EOF", Rows.laid_io_EOF), ("io.ErrNoProgress", Rows.laid_io_ErrNoProgress), ("bufio.ErrTooLong", Rows.laid_bufio_ErrTooLong), ("bufio.ErrNegativeAdvance", Rows.laid_bufio_ErrNegativeAdvance), ("bufio.ErrAdvanceTooFar", Rows.laid_bufio_ErrAdvanceTooFar), ("bufio.ErrBadReadCount", Rows.laid_bufio_ErrBadReadCount), ("bufio.ErrFinalToken", Rows.laid_bufio_ErrFinalToken), ("loop.example/lib-g01189/impl.errSplit", Rows.laid_loop_example_lib_g01189_impl_errSplit), ("loop.example/lib-g01189/impl.errRead", Rows.laid_loop_example_lib_g01189_impl_errRead)] [.sentinel, .sentinel, .sentinel, .sentinel, .sentinel, .sentinel, .sentinel, .sentinel, .sentinel] true :=
  Program.laidByTextLater_by_one 180 8 2 (by kernel_rfl) (by kernel_rfl) (by kernel_rfl) (by kernel_rfl) (by kernel_rfl) (by kernel_rfl) (fun _ _ => by kernel_rfl)
theorem noOwnUnsafe : Tryd.pinned.checked.prog.headLifts.contains "ownunsafe" = false := by kernel_rfl
theorem tie : Tryd.prog.laidByTextLater [("bufio.ErrTooLong", Rows.laid_bufio_ErrTooLong), ("bufio.ErrNegativeAdvance", Rows.laid_bufio_ErrNegativeAdvance), ("bufio.ErrAdvanceTooFar", Rows.laid_bufio_ErrAdvanceTooFar), ("loop.example/lib-g01189/impl.errSplit", Rows.laid_loop_example_lib_g01189_impl_errSplit), ("loop.example/lib-g01189/impl.errRead", Rows.laid_loop_example_lib_g01189_impl_errRead)] [.sentinel, .sentinel, .sentinel, .sentinel, .sentinel] true :=
  Program.laidByTextLater.sub seatTie1 ["bufio.ErrTooLong", "bufio.ErrNegativeAdvance", "bufio.ErrAdvanceTooFar", "loop.example/lib-g01189/impl.errSplit", "loop.example/lib-g01189/impl.errRead"] (by kernel_rfl) (by kernel_rfl)
theorem fnLineStep_row_tie : Rows.fnLineStepRow.laidByTextAt .later Tryd.pinned [.sentinel, .sentinel, .sentinel, .sentinel, .sentinel] true :=
  OpenClaim.laidByTextAt_later rfl rfl tie noOwnUnsafe
theorem tie2 : Tryd.prog.laidByTextLater [("io.EOF", Rows.laid_io_EOF), ("loop.example/lib-g01189/impl.errRead", Rows.laid_loop_example_lib_g01189_impl_errRead)] [.sentinel, .sentinel] true :=
  Program.laidByTextLater.sub seatTie1 ["io.EOF", "loop.example/lib-g01189/impl.errRead"] (by kernel_rfl) (by kernel_rfl)
theorem fnExactErrEarly_row_tie : Rows.fnExactErrEarlyRow.laidByTextAt .later Tryd.pinned [.sentinel, .sentinel] true :=
  OpenClaim.laidByTextAt_later rfl rfl tie2 noOwnUnsafe
theorem tie3 : Tryd.prog.laidByTextLater [("io.EOF", Rows.laid_io_EOF), ("io.ErrNoProgress", Rows.laid_io_ErrNoProgress), ("bufio.ErrTooLong", Rows.laid_bufio_ErrTooLong), ("bufio.ErrNegativeAdvance", Rows.laid_bufio_ErrNegativeAdvance), ("bufio.ErrAdvanceTooFar", Rows.laid_bufio_ErrAdvanceTooFar), ("bufio.ErrBadReadCount", Rows.laid_bufio_ErrBadReadCount), ("bufio.ErrFinalToken", Rows.laid_bufio_ErrFinalToken), ("loop.example/lib-g01189/impl.errRead", Rows.laid_loop_example_lib_g01189_impl_errRead)] [.sentinel, .sentinel, .sentinel, .sentinel, .sentinel, .sentinel, .sentinel, .sentinel] true :=
  Program.laidByTextLater.sub seatTie1 ["io.EOF", "io.ErrNoProgress", "bufio.ErrTooLong", "bufio.ErrNegativeAdvance", "bufio.ErrAdvanceTooFar", "bufio.ErrBadReadCount", "bufio.ErrFinalToken", "loop.example/lib-g01189/impl.errRead"] (by kernel_rfl) (by kernel_rfl)
theorem fnBufferStarted_row_tie : Rows.fnBufferStartedRow.laidByTextAt .later Tryd.pinned [.sentinel, .sentinel, .sentinel, .sentinel, .sentinel, .sentinel, .sentinel, .sentinel] true :=
  OpenClaim.laidByTextAt_later rfl rfl tie3 noOwnUnsafe
theorem fnLinesAfter_row_tie : Rows.fnLinesAfterRow.laidByTextAt .later Tryd.pinned [.sentinel, .sentinel, .sentinel, .sentinel, .sentinel, .sentinel, .sentinel, .sentinel] true :=
  OpenClaim.laidByTextAt_later rfl rfl tie3 noOwnUnsafe
theorem fnLinesBytes_row_tie : Rows.fnLinesBytesRow.laidByTextAt .later Tryd.pinned [.sentinel, .sentinel, .sentinel, .sentinel, .sentinel, .sentinel, .sentinel, .sentinel] true :=
  OpenClaim.laidByTextAt_later rfl rfl tie3 noOwnUnsafe
theorem fnTextTwice_row_tie : Rows.fnTextTwiceRow.laidByTextAt .later Tryd.pinned [.sentinel, .sentinel, .sentinel, .sentinel, .sentinel, .sentinel, .sentinel, .sentinel] true :=
  OpenClaim.laidByTextAt_later rfl rfl tie3 noOwnUnsafe
theorem fnLines_row_tie : Rows.fnLinesRow.laidByTextAt .later Tryd.pinned [.sentinel, .sentinel, .sentinel, .sentinel, .sentinel, .sentinel, .sentinel, .sentinel] true :=
  OpenClaim.laidByTextAt_later rfl rfl tie3 noOwnUnsafe
theorem fnLinesAgain_row_tie : Rows.fnLinesAgainRow.laidByTextAt .later Tryd.pinned [.sentinel, .sentinel, .sentinel, .sentinel, .sentinel, .sentinel, .sentinel, .sentinel] true :=
  OpenClaim.laidByTextAt_later rfl rfl tie3 noOwnUnsafe
theorem fnLinesJoined_row_tie : Rows.fnLinesJoinedRow.laidByTextAt .later Tryd.pinned [.sentinel, .sentinel, .sentinel, .sentinel, .sentinel, .sentinel, .sentinel, .sentinel] true :=
  OpenClaim.laidByTextAt_later rfl rfl tie3 noOwnUnsafe
theorem fnLinesLastReturn_row_tie : Rows.fnLinesLastReturnRow.laidByTextAt .later Tryd.pinned [.sentinel, .sentinel, .sentinel, .sentinel, .sentinel, .sentinel, .sentinel, .sentinel] true :=
  OpenClaim.laidByTextAt_later rfl rfl tie3 noOwnUnsafe
theorem fnLinesMany_row_tie : Rows.fnLinesManyRow.laidByTextAt .later Tryd.pinned [.sentinel, .sentinel, .sentinel, .sentinel, .sentinel, .sentinel, .sentinel, .sentinel] true :=
  OpenClaim.laidByTextAt_later rfl rfl tie3 noOwnUnsafe
theorem fnLinesReturns_row_tie : Rows.fnLinesReturnsRow.laidByTextAt .later Tryd.pinned [.sentinel, .sentinel, .sentinel, .sentinel, .sentinel, .sentinel, .sentinel, .sentinel] true :=
  OpenClaim.laidByTextAt_later rfl rfl tie3 noOwnUnsafe
theorem fnLineStepUpto_row_tie : Rows.fnLineStepUptoRow.laidByTextAt .later Tryd.pinned [.sentinel, .sentinel, .sentinel, .sentinel, .sentinel] true :=
  OpenClaim.laidByTextAt_later rfl rfl tie noOwnUnsafe
theorem fnExactErrEarlyUpto_row_tie : Rows.fnExactErrEarlyUptoRow.laidByTextAt .later Tryd.pinned [.sentinel, .sentinel] true :=
  OpenClaim.laidByTextAt_later rfl rfl tie2 noOwnUnsafe
theorem fnBufferStartedUpto_row_tie : Rows.fnBufferStartedUptoRow.laidByTextAt .later Tryd.pinned [.sentinel, .sentinel, .sentinel, .sentinel, .sentinel, .sentinel, .sentinel, .sentinel] true :=
  OpenClaim.laidByTextAt_later rfl rfl tie3 noOwnUnsafe
theorem fnLinesAfterUpto_row_tie : Rows.fnLinesAfterUptoRow.laidByTextAt .later Tryd.pinned [.sentinel, .sentinel, .sentinel, .sentinel, .sentinel, .sentinel, .sentinel, .sentinel] true :=
  OpenClaim.laidByTextAt_later rfl rfl tie3 noOwnUnsafe
theorem fnLinesBytesUpto_row_tie : Rows.fnLinesBytesUptoRow.laidByTextAt .later Tryd.pinned [.sentinel, .sentinel, .sentinel, .sentinel, .sentinel, .sentinel, .sentinel, .sentinel] true :=
  OpenClaim.laidByTextAt_later rfl rfl tie3 noOwnUnsafe
theorem fnTextTwiceUpto_row_tie : Rows.fnTextTwiceUptoRow.laidByTextAt .later Tryd.pinned [.sentinel, .sentinel, .sentinel, .sentinel, .sentinel, .sentinel, .sentinel, .sentinel] true :=
  OpenClaim.laidByTextAt_later rfl rfl tie3 noOwnUnsafe
theorem fnLinesUpto_row_tie : Rows.fnLinesUptoRow.laidByTextAt .later Tryd.pinned [.sentinel, .sentinel, .sentinel, .sentinel, .sentinel, .sentinel, .sentinel, .sentinel] true :=
  OpenClaim.laidByTextAt_later rfl rfl tie3 noOwnUnsafe
theorem fnLinesAgainUpto_row_tie : Rows.fnLinesAgainUptoRow.laidByTextAt .later Tryd.pinned [.sentinel, .sentinel, .sentinel, .sentinel, .sentinel, .sentinel, .sentinel, .sentinel] true :=
  OpenClaim.laidByTextAt_later rfl rfl tie3 noOwnUnsafe
theorem fnLinesJoinedUpto_row_tie : Rows.fnLinesJoinedUptoRow.laidByTextAt .later Tryd.pinned [.sentinel, .sentinel, .sentinel, .sentinel, .sentinel, .sentinel, .sentinel, .sentinel] true :=
  OpenClaim.laidByTextAt_later rfl rfl tie3 noOwnUnsafe
theorem fnLinesLastReturnUpto_row_tie : Rows.fnLinesLastReturnUptoRow.laidByTextAt .later Tryd.pinned [.sentinel, .sentinel, .sentinel, .sentinel, .sentinel, .sentinel, .sentinel, .sentinel] true :=
  OpenClaim.laidByTextAt_later rfl rfl tie3 noOwnUnsafe
theorem fnLinesManyUpto_row_tie : Rows.fnLinesManyUptoRow.laidByTextAt .later Tryd.pinned [.sentinel, .sentinel, .sentinel, .sentinel, .sentinel, .sentinel, .sentinel, .sentinel] true :=
  OpenClaim.laidByTextAt_later rfl rfl tie3 noOwnUnsafe
theorem fnLinesReturnsUpto_row_tie : Rows.fnLinesReturnsUptoRow.laidByTextAt .later Tryd.pinned [.sentinel, .sentinel, .sentinel, .sentinel, .sentinel, .sentinel, .sentinel, .sentinel] true :=
  OpenClaim.laidByTextAt_later rfl rfl tie3 noOwnUnsafe
end Go.Proofs.YtkghgjihaepnfaaDoor
