/-
  DERIVED. GIVEN WITH THE SEED: THE PROGRAM's TIES (one call each: nine closed facts by the kernel) AND EACH ROW's TIE, after the 31st guide's Derived/Test/Toyas{Tie, Card}.lean. No idea stands in it: it is a product of the set-up. Laid BY PROGRAM, IN A SANDBOX (cutbox-door.mjs). By AI agents, Wed Nov 11 2026. No macro, syntax, notation, axiom, sorry.
-/
import Derived.Test.YtfdlbjibninakaaGreatDoorRows
import Derived.LaidByTextLater
import Derived.SevenTiedAt
import Derived.LaidSub
import Derived.LaidOnce
namespace Go.Proofs.YtfdlbjibninakaaGreatDoor
open Go
set_option maxRecDepth 100000
theorem seatTie1 : Tryz.prog.laidByTextLater [("errors.errorType", Rows.laid_errors_errorType), ("io.ErrShortWrite", Rows.laid_io_ErrShortWrite), ("io.ErrShortBuffer", Rows.laid_io_ErrShortBuffer), ("io.EOF", Rows.laid_io_EOF), ("io.ErrUnexpectedEOF", Rows.laid_io_ErrUnexpectedEOF), ("http2frames/pub/http2frames.ErrFrameTooLarge", Rows.laid_http2frames_pub_http2frames_ErrFrameTooLarge), ("http2frames/pub/http2frames.errStreamID", Rows.laid_http2frames_pub_http2frames_errStreamID), ("http2frames/pub/http2frames.errDepStreamID", Rows.laid_http2frames_pub_http2frames_errDepStreamID), ("http2frames/pub/http2frames.errPadLength", Rows.laid_http2frames_pub_http2frames_errPadLength), ("http2frames/pub/http2frames.errPadBytes", Rows.laid_http2frames_pub_http2frames_errPadBytes)] [.handle, .sentinel, .sentinel, .sentinel, .sentinel, .sentinel, .sentinel, .sentinel, .sentinel, .sentinel] true :=
  Program.laidByTextLater_by_one 187 8 2 (by kernel_rfl) (by kernel_rfl) (by kernel_rfl) (by kernel_rfl) (by kernel_rfl) (by kernel_rfl) (fun _ _ => by kernel_rfl)
theorem noOwnUnsafe : Tryz.pinned.checked.prog.headLifts.contains "ownunsafe" = false := by kernel_rfl
theorem tie : Tryz.prog.laidByTextLater [("errors.errorType", Rows.laid_errors_errorType), ("io.ErrShortBuffer", Rows.laid_io_ErrShortBuffer), ("io.EOF", Rows.laid_io_EOF), ("io.ErrUnexpectedEOF", Rows.laid_io_ErrUnexpectedEOF), ("http2frames/pub/http2frames.ErrFrameTooLarge", Rows.laid_http2frames_pub_http2frames_ErrFrameTooLarge)] [.handle, .sentinel, .sentinel, .sentinel, .sentinel] true :=
  Program.laidByTextLater.sub seatTie1 ["errors.errorType", "io.ErrShortBuffer", "io.EOF", "io.ErrUnexpectedEOF", "http2frames/pub/http2frames.ErrFrameTooLarge"] (by kernel_rfl) (by kernel_rfl)
theorem fnBehind_row_tie : Rows.fnBehindRow.laidByTextAt .later Tryz.pinned [.handle, .sentinel, .sentinel, .sentinel, .sentinel] true :=
  OpenClaim.laidByTextAt_later rfl rfl tie noOwnUnsafe
theorem fnRead_row_tie : Rows.fnReadRow.laidByTextAt .later Tryz.pinned [.handle, .sentinel, .sentinel, .sentinel, .sentinel] true :=
  OpenClaim.laidByTextAt_later rfl rfl tie noOwnUnsafe
theorem tie2 : Tryz.prog.laidByTextLater [("errors.errorType", Rows.laid_errors_errorType), ("io.ErrShortWrite", Rows.laid_io_ErrShortWrite), ("io.ErrShortBuffer", Rows.laid_io_ErrShortBuffer), ("io.EOF", Rows.laid_io_EOF), ("io.ErrUnexpectedEOF", Rows.laid_io_ErrUnexpectedEOF), ("http2frames/pub/http2frames.ErrFrameTooLarge", Rows.laid_http2frames_pub_http2frames_ErrFrameTooLarge), ("http2frames/pub/http2frames.errStreamID", Rows.laid_http2frames_pub_http2frames_errStreamID), ("http2frames/pub/http2frames.errDepStreamID", Rows.laid_http2frames_pub_http2frames_errDepStreamID), ("http2frames/pub/http2frames.errPadLength", Rows.laid_http2frames_pub_http2frames_errPadLength), ("http2frames/pub/http2frames.errPadBytes", Rows.laid_http2frames_pub_http2frames_errPadBytes)] [.handle, .sentinel, .sentinel, .sentinel, .sentinel, .sentinel, .sentinel, .sentinel, .sentinel, .sentinel] true :=
  Program.laidByTextLater.sub seatTie1 ["errors.errorType", "io.ErrShortWrite", "io.ErrShortBuffer", "io.EOF", "io.ErrUnexpectedEOF", "http2frames/pub/http2frames.ErrFrameTooLarge", "http2frames/pub/http2frames.errStreamID", "http2frames/pub/http2frames.errDepStreamID", "http2frames/pub/http2frames.errPadLength", "http2frames/pub/http2frames.errPadBytes"] (by kernel_rfl) (by kernel_rfl)
theorem fnWrite_row_tie : Rows.fnWriteRow.laidByTextAt .later Tryz.pinned [.handle, .sentinel, .sentinel, .sentinel, .sentinel, .sentinel, .sentinel, .sentinel, .sentinel, .sentinel] true :=
  OpenClaim.laidByTextAt_later rfl rfl tie2 noOwnUnsafe
theorem fnWriteRead_row_tie : Rows.fnWriteReadRow.laidByTextAt .later Tryz.pinned [.handle, .sentinel, .sentinel, .sentinel, .sentinel, .sentinel, .sentinel, .sentinel, .sentinel, .sentinel] true :=
  OpenClaim.laidByTextAt_later rfl rfl tie2 noOwnUnsafe
theorem fnBehindUpto_row_tie : Rows.fnBehindUptoRow.laidByTextAt .later Tryz.pinned [.handle, .sentinel, .sentinel, .sentinel, .sentinel] true :=
  OpenClaim.laidByTextAt_later rfl rfl tie noOwnUnsafe
theorem fnReadUpto_row_tie : Rows.fnReadUptoRow.laidByTextAt .later Tryz.pinned [.handle, .sentinel, .sentinel, .sentinel, .sentinel] true :=
  OpenClaim.laidByTextAt_later rfl rfl tie noOwnUnsafe
theorem fnWriteUpto_row_tie : Rows.fnWriteUptoRow.laidByTextAt .later Tryz.pinned [.handle, .sentinel, .sentinel, .sentinel, .sentinel, .sentinel, .sentinel, .sentinel, .sentinel, .sentinel] true :=
  OpenClaim.laidByTextAt_later rfl rfl tie2 noOwnUnsafe
theorem fnWriteReadUpto_row_tie : Rows.fnWriteReadUptoRow.laidByTextAt .later Tryz.pinned [.handle, .sentinel, .sentinel, .sentinel, .sentinel, .sentinel, .sentinel, .sentinel, .sentinel, .sentinel] true :=
  OpenClaim.laidByTextAt_later rfl rfl tie2 noOwnUnsafe
end Go.Proofs.YtfdlbjibninakaaGreatDoor
