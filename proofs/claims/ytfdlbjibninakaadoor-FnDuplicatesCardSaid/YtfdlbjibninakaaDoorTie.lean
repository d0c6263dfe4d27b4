/-
  DERIVED. GIVEN WITH THE SEED: THE PROGRAM's TIES (one call each: nine closed facts by the kernel) AND EACH ROW's TIE, after the 31st guide's Derived/Test/Toyas{Tie, Card}.lean. No idea stands in it: it is a product of the set-up. Laid BY PROGRAM, IN A SANDBOX (cutbox-door.mjs). By AI agents, Wed Nov 11 2026. No macro, syntax, notation, axiom, sorry.
-/
import Derived.Test.YtfdlbjibninakaaDoorRows
import Derived.LaidByTextLater
import Derived.SevenTiedAt
import Derived.LaidSub
import Derived.LaidOnce
namespace Go.Proofs.YtfdlbjibninakaaDoor
open Go
set_option maxRecDepth 100000
theorem seatTie1 : Tryd.prog.laidByTextLater [("errors.errorType", Rows.laid_errors_errorType), ("io.ErrShortWrite", Rows.laid_io_ErrShortWrite), ("io.ErrShortBuffer", Rows.laid_io_ErrShortBuffer), ("io.EOF", Rows.laid_io_EOF), ("io.ErrUnexpectedEOF", Rows.laid_io_ErrUnexpectedEOF), ("http2frames/pub/http2frames.ErrFrameTooLarge", Rows.laid_http2frames_pub_http2frames_ErrFrameTooLarge), ("http2frames/pub/http2frames.errStreamID", Rows.laid_http2frames_pub_http2frames_errStreamID), ("http2frames/pub/http2frames.errDepStreamID", Rows.laid_http2frames_pub_http2frames_errDepStreamID), ("http2frames/pub/http2frames.errPadLength", Rows.laid_http2frames_pub_http2frames_errPadLength), ("http2frames/pub/http2frames.errPadBytes", Rows.laid_http2frames_pub_http2frames_errPadBytes)] [.handle, .sentinel, .sentinel, .sentinel, .sentinel, .sentinel, .sentinel, .sentinel, .sentinel, .sentinel] true :=
  Program.laidByTextLater_by_one 187 8 2 (by kernel_rfl) (by kernel_rfl) (by kernel_rfl) (by kernel_rfl) (by kernel_rfl) (by kernel_rfl) (fun _ _ => by kernel_rfl)
theorem noOwnUnsafe : Tryd.pinned.checked.prog.headLifts.contains "ownunsafe" = false := by kernel_rfl
theorem tie : Tryd.prog.laidByTextLater [("io.ErrShortWrite", Rows.laid_io_ErrShortWrite), ("http2frames/pub/http2frames.ErrFrameTooLarge", Rows.laid_http2frames_pub_http2frames_ErrFrameTooLarge)] [.sentinel, .sentinel] true :=
  Program.laidByTextLater.sub seatTie1 ["io.ErrShortWrite", "http2frames/pub/http2frames.ErrFrameTooLarge"] (by kernel_rfl) (by kernel_rfl)
theorem fnHeaderBytes_row_tie : Rows.fnHeaderBytesRow.laidByTextAt .later Tryd.pinned [.sentinel, .sentinel] true :=
  OpenClaim.laidByTextAt_later rfl rfl tie noOwnUnsafe
theorem tie2 : Tryd.prog.laidByTextLater [("errors.errorType", Rows.laid_errors_errorType), ("io.EOF", Rows.laid_io_EOF), ("io.ErrUnexpectedEOF", Rows.laid_io_ErrUnexpectedEOF), ("http2frames/pub/http2frames.ErrFrameTooLarge", Rows.laid_http2frames_pub_http2frames_ErrFrameTooLarge)] [.handle, .sentinel, .sentinel, .sentinel] true :=
  Program.laidByTextLater.sub seatTie1 ["errors.errorType", "io.EOF", "io.ErrUnexpectedEOF", "http2frames/pub/http2frames.ErrFrameTooLarge"] (by kernel_rfl) (by kernel_rfl)
theorem fnValid_row_tie : Rows.fnValidRow.laidByTextAt .later Tryd.pinned [.handle, .sentinel, .sentinel, .sentinel] true :=
  OpenClaim.laidByTextAt_later rfl rfl tie2 noOwnUnsafe
theorem tie3 : Tryd.prog.laidByTextLater [("io.ErrShortWrite", Rows.laid_io_ErrShortWrite), ("http2frames/pub/http2frames.ErrFrameTooLarge", Rows.laid_http2frames_pub_http2frames_ErrFrameTooLarge), ("http2frames/pub/http2frames.errStreamID", Rows.laid_http2frames_pub_http2frames_errStreamID), ("http2frames/pub/http2frames.errDepStreamID", Rows.laid_http2frames_pub_http2frames_errDepStreamID), ("http2frames/pub/http2frames.errPadLength", Rows.laid_http2frames_pub_http2frames_errPadLength), ("http2frames/pub/http2frames.errPadBytes", Rows.laid_http2frames_pub_http2frames_errPadBytes)] [.sentinel, .sentinel, .sentinel, .sentinel, .sentinel, .sentinel] true :=
  Program.laidByTextLater.sub seatTie1 ["io.ErrShortWrite", "http2frames/pub/http2frames.ErrFrameTooLarge", "http2frames/pub/http2frames.errStreamID", "http2frames/pub/http2frames.errDepStreamID", "http2frames/pub/http2frames.errPadLength", "http2frames/pub/http2frames.errPadBytes"] (by kernel_rfl) (by kernel_rfl)
theorem fnRefused_row_tie : Rows.fnRefusedRow.laidByTextAt .later Tryd.pinned [.sentinel, .sentinel, .sentinel, .sentinel, .sentinel, .sentinel] true :=
  OpenClaim.laidByTextAt_later rfl rfl tie3 noOwnUnsafe
theorem tie4 : Tryd.prog.laidByTextLater [("io.ErrShortBuffer", Rows.laid_io_ErrShortBuffer), ("io.EOF", Rows.laid_io_EOF), ("io.ErrUnexpectedEOF", Rows.laid_io_ErrUnexpectedEOF), ("http2frames/pub/http2frames.ErrFrameTooLarge", Rows.laid_http2frames_pub_http2frames_ErrFrameTooLarge)] [.sentinel, .sentinel, .sentinel, .sentinel] true :=
  Program.laidByTextLater.sub seatTie1 ["io.ErrShortBuffer", "io.EOF", "io.ErrUnexpectedEOF", "http2frames/pub/http2frames.ErrFrameTooLarge"] (by kernel_rfl) (by kernel_rfl)
theorem fnDuplicates_row_tie : Rows.fnDuplicatesRow.laidByTextAt .later Tryd.pinned [.sentinel, .sentinel, .sentinel, .sentinel] true :=
  OpenClaim.laidByTextAt_later rfl rfl tie4 noOwnUnsafe
theorem tie5 : Tryd.prog.laidByTextLater [("errors.errorType", Rows.laid_errors_errorType), ("io.ErrShortBuffer", Rows.laid_io_ErrShortBuffer), ("io.EOF", Rows.laid_io_EOF), ("io.ErrUnexpectedEOF", Rows.laid_io_ErrUnexpectedEOF), ("http2frames/pub/http2frames.ErrFrameTooLarge", Rows.laid_http2frames_pub_http2frames_ErrFrameTooLarge)] [.handle, .sentinel, .sentinel, .sentinel, .sentinel] true :=
  Program.laidByTextLater.sub seatTie1 ["errors.errorType", "io.ErrShortBuffer", "io.EOF", "io.ErrUnexpectedEOF", "http2frames/pub/http2frames.ErrFrameTooLarge"] (by kernel_rfl) (by kernel_rfl)
theorem fnEnds_row_tie : Rows.fnEndsRow.laidByTextAt .later Tryd.pinned [.handle, .sentinel, .sentinel, .sentinel, .sentinel] true :=
  OpenClaim.laidByTextAt_later rfl rfl tie5 noOwnUnsafe
theorem fnIgnored_row_tie : Rows.fnIgnoredRow.laidByTextAt .later Tryd.pinned [.handle, .sentinel, .sentinel, .sentinel, .sentinel] true :=
  OpenClaim.laidByTextAt_later rfl rfl tie5 noOwnUnsafe
theorem fnPieces_row_tie : Rows.fnPiecesRow.laidByTextAt .later Tryd.pinned [.handle, .sentinel, .sentinel, .sentinel, .sentinel] true :=
  OpenClaim.laidByTextAt_later rfl rfl tie5 noOwnUnsafe
theorem fnUnknown_row_tie : Rows.fnUnknownRow.laidByTextAt .later Tryd.pinned [.handle, .sentinel, .sentinel, .sentinel, .sentinel] true :=
  OpenClaim.laidByTextAt_later rfl rfl tie5 noOwnUnsafe
theorem fnHeader_row_tie : Rows.fnHeaderRow.laidByTextAt .later Tryd.pinned [.handle, .sentinel, .sentinel, .sentinel, .sentinel] true :=
  OpenClaim.laidByTextAt_later rfl rfl tie5 noOwnUnsafe
theorem fnHeaderBytesUpto_row_tie : Rows.fnHeaderBytesUptoRow.laidByTextAt .later Tryd.pinned [.sentinel, .sentinel] true :=
  OpenClaim.laidByTextAt_later rfl rfl tie noOwnUnsafe
theorem fnValidUpto_row_tie : Rows.fnValidUptoRow.laidByTextAt .later Tryd.pinned [.handle, .sentinel, .sentinel, .sentinel] true :=
  OpenClaim.laidByTextAt_later rfl rfl tie2 noOwnUnsafe
theorem fnRefusedUpto_row_tie : Rows.fnRefusedUptoRow.laidByTextAt .later Tryd.pinned [.sentinel, .sentinel, .sentinel, .sentinel, .sentinel, .sentinel] true :=
  OpenClaim.laidByTextAt_later rfl rfl tie3 noOwnUnsafe
theorem fnDuplicatesUpto_row_tie : Rows.fnDuplicatesUptoRow.laidByTextAt .later Tryd.pinned [.sentinel, .sentinel, .sentinel, .sentinel] true :=
  OpenClaim.laidByTextAt_later rfl rfl tie4 noOwnUnsafe
theorem fnEndsUpto_row_tie : Rows.fnEndsUptoRow.laidByTextAt .later Tryd.pinned [.handle, .sentinel, .sentinel, .sentinel, .sentinel] true :=
  OpenClaim.laidByTextAt_later rfl rfl tie5 noOwnUnsafe
theorem fnIgnoredUpto_row_tie : Rows.fnIgnoredUptoRow.laidByTextAt .later Tryd.pinned [.handle, .sentinel, .sentinel, .sentinel, .sentinel] true :=
  OpenClaim.laidByTextAt_later rfl rfl tie5 noOwnUnsafe
theorem fnPiecesUpto_row_tie : Rows.fnPiecesUptoRow.laidByTextAt .later Tryd.pinned [.handle, .sentinel, .sentinel, .sentinel, .sentinel] true :=
  OpenClaim.laidByTextAt_later rfl rfl tie5 noOwnUnsafe
theorem fnUnknownUpto_row_tie : Rows.fnUnknownUptoRow.laidByTextAt .later Tryd.pinned [.handle, .sentinel, .sentinel, .sentinel, .sentinel] true :=
  OpenClaim.laidByTextAt_later rfl rfl tie5 noOwnUnsafe
theorem fnHeaderUpto_row_tie : Rows.fnHeaderUptoRow.laidByTextAt .later Tryd.pinned [.handle, .sentinel, .sentinel, .sentinel, .sentinel] true :=
  OpenClaim.laidByTextAt_later rfl rfl tie5 noOwnUnsafe
end Go.Proofs.YtfdlbjibninakaaDoor
