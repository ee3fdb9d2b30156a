/-
  DERIVED. GIVEN WITH THE SEED: THE PROGRAM's TIES (one call each: nine closed facts by the kernel) AND EACH ROW's TIE, after the 31st guide's Derived/Test/Toyas{Tie, Card}.lean. No idea stands in it: it is a product of the set-up. Laid BY PROGRAM, IN A SANDBOX (cutbox-door.mjs). By AI agents, Wed Nov 11 2026. No macro, syntax, notation, axiom, sorry.
-/
import Derived.Test.Qxb6608719aDoorRows
import Derived.LaidByTextLater
import Derived.SevenTiedAt
import Derived.LaidSub
import Derived.LaidOnce
namespace Go.Proofs.Qxb6608719aDoor
open Go
set_option maxRecDepth 100000
theorem seatTie1 : Tryd.prog.laidByTextLater [("io.EOF", Rows.laid_io_EOF), ("io.ErrNoProgress", Rows.laid_io_ErrNoProgress), ("bufio.ErrTooLong", Rows.laid_bufio_ErrTooLong), ("bufio.ErrNegativeAdvance", Rows.laid_bufio_ErrNegativeAdvance), ("bufio.ErrAdvanceTooFar", Rows.laid_bufio_ErrAdvanceTooFar), ("bufio.ErrBadReadCount", Rows.laid_bufio_ErrBadReadCount), ("bufio.ErrFinalToken", Rows.laid_bufio_ErrFinalToken), ("encoding/hex.ErrLength", Rows.laid_encoding_hex_ErrLength)] [.called, .called, .called, .called, .called, .called, .called, .called] true :=
  Program.laidByTextLater_by_one 161 8 2 (by kernel_rfl) (by kernel_rfl) (by kernel_rfl) (by kernel_rfl) (by kernel_rfl) (by kernel_rfl) (fun _ _ => by kernel_rfl)
theorem noOwnUnsafe : Tryd.pinned.checked.prog.headLifts.contains "ownunsafe" = false := by kernel_rfl
theorem tie : Tryd.prog.laidByTextLater [("io.EOF", Rows.laid_io_EOF), ("io.ErrNoProgress", Rows.laid_io_ErrNoProgress), ("bufio.ErrTooLong", Rows.laid_bufio_ErrTooLong), ("bufio.ErrNegativeAdvance", Rows.laid_bufio_ErrNegativeAdvance), ("bufio.ErrAdvanceTooFar", Rows.laid_bufio_ErrAdvanceTooFar), ("bufio.ErrBadReadCount", Rows.laid_bufio_ErrBadReadCount), ("bufio.ErrFinalToken", Rows.laid_bufio_ErrFinalToken)] [.called, .called, .called, .called, .called, .called, .called] true :=
  Program.laidByTextLater.sub seatTie1 ["io.EOF", "io.ErrNoProgress", "bufio.ErrTooLong", "bufio.ErrNegativeAdvance", "bufio.ErrAdvanceTooFar", "bufio.ErrBadReadCount", "bufio.ErrFinalToken"] (by kernel_rfl) (by kernel_rfl)
theorem fnTraceScannerGivesEachWholeLine_row_tie : Rows.fnTraceScannerGivesEachWholeLineRow.laidByTextAt .later Tryd.pinned [.called, .called, .called, .called, .called, .called, .called] true :=
  OpenClaim.laidByTextAt_later rfl rfl tie noOwnUnsafe
theorem fnTraceScannerGreaterLimitLosesNoLine_row_tie : Rows.fnTraceScannerGreaterLimitLosesNoLineRow.laidByTextAt .later Tryd.pinned [.called, .called, .called, .called, .called, .called, .called] true :=
  OpenClaim.laidByTextAt_later rfl rfl tie noOwnUnsafe
theorem tie2 : Tryd.prog.laidByTextLater [("encoding/hex.ErrLength", Rows.laid_encoding_hex_ErrLength)] [.called] true :=
  Program.laidByTextLater.sub seatTie1 ["encoding/hex.ErrLength"] (by kernel_rfl) (by kernel_rfl)
theorem fnArgBytesJoinsAtEveryByteBoundary_row_tie : Rows.fnArgBytesJoinsAtEveryByteBoundaryRow.laidByTextAt .later Tryd.pinned [.called] true :=
  OpenClaim.laidByTextAt_later rfl rfl tie2 noOwnUnsafe
theorem fnArgBytesOneDigitChanged_row_tie : Rows.fnArgBytesOneDigitChangedRow.laidByTextAt .later Tryd.pinned [.called] true :=
  OpenClaim.laidByTextAt_later rfl rfl tie2 noOwnUnsafe
end Go.Proofs.Qxb6608719aDoor
