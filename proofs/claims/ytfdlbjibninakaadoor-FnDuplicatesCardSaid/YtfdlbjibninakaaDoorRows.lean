/-
  NARROWER THAN 'FOR EVERY INPUT', by the rows' own cells (each row's printed sentence says how): FnHeaderBytes: laid · FnValid: laid · FnRefused: laid · FnDuplicates: laid · FnEnds: laid · FnIgnored: laid · FnPieces: laid · FnUnknown: laid · FnHeader: laid.
  DERIVED. THE GIVEN ROWS OF THIS SEAT. 9 by the template 'for every input the law returns true; each argument reads behind the call as it read before'; 0 by the template 'total and deterministic' (their statements: YtfdlbjibninakaaDoorTotals.lean).
  GIVEN WITH THE SEED: the statements are not yours to turn. If you find one false, say at which input.
  Laid BY PROGRAM, IN A SANDBOX (cutbox-rows.mjs): the forced cells as the released guide's own fill.sh prints them over the translation 1c6e465cbfae384d… (all of the seat's roots in one cut). By AI agents, Wed Nov 11 2026. No macro, syntax, notation, axiom, sorry.
-/
import Derived.Test.YtfdlbjibninakaaDoorChecked
import GoSem.Claim
import GoSem.ClaimJoined
import GoSem.ClaimMapViews
import Derived.JoinedTies
import Derived.KernelRfl
namespace Go.Proofs.YtfdlbjibninakaaDoor
/- THE CELL 'sum', in the pinned program and in every row, IS THE sha256 OF THE DUMP (.gsa) THAT YtfdlbjibninakaaDoorProg.lean LOADS. Nothing in Lean hashes anything: it is a label: what it is worth is what the hold of that sum in a sandbox is worth. -/
noncomputable def Tryd.pinned : Pinned := { name := "ytfdlbjibninakaadoor", sum := "1c6e465cbfae384d0b82f1f408df49e724d3259966b9a874ff152cd8dbe545c8", checked := Tryd.checked }
namespace Rows
def none {H : Type} : Left H := { results := [], args := [] }

/- WHAT THE LISTED PACKAGE-LEVEL VARIABLES READ AS WHEN THE CALL BEGINS. Each datum BY PROGRAM (the guide's laid-datum.mjs) off the statement by which the dump's own 'gosem.cut.vars' lays the variable. In a bare row this is a premise. The card (YtfdlbjibninakaaDoorCards.lean) ties it to the program's text. -/
def laid_io_ErrShortWrite {H : Type} : DataW H := .iface "*errors.errorString" (.ptr (.agg [.lit (.string [115, 104, 111, 114, 116, 32, 119, 114, 105, 116, 101])]))
def laid_http2frames_pub_http2frames_ErrFrameTooLarge {H : Type} : DataW H := .iface "*errors.errorString" (.ptr (.agg [.lit (.string [104, 116, 116, 112, 50, 58, 32, 102, 114, 97, 109, 101, 32, 116, 111, 111, 32, 108, 97, 114, 103, 101])]))
def laid_errors_errorType {H : Type} : DataW H := .iface "internal/reflectlite.rtype" (.agg [.ptr (.lit (.string [101, 114, 114, 111, 114]))])
def laid_io_EOF {H : Type} : DataW H := .iface "*errors.errorString" (.ptr (.agg [.lit (.string [69, 79, 70])]))
def laid_io_ErrUnexpectedEOF {H : Type} : DataW H := .iface "*errors.errorString" (.ptr (.agg [.lit (.string [117, 110, 101, 120, 112, 101, 99, 116, 101, 100, 32, 69, 79, 70])]))
def laid_http2frames_pub_http2frames_errStreamID {H : Type} : DataW H := .iface "*errors.errorString" (.ptr (.agg [.lit (.string [105, 110, 118, 97, 108, 105, 100, 32, 115, 116, 114, 101, 97, 109, 32, 73, 68])]))
def laid_http2frames_pub_http2frames_errDepStreamID {H : Type} : DataW H := .iface "*errors.errorString" (.ptr (.agg [.lit (.string [105, 110, 118, 97, 108, 105, 100, 32, 100, 101, 112, 101, 110, 100, 101, 110, 116, 32, 115, 116, 114, 101, 97, 109, 32, 73, 68])]))
def laid_http2frames_pub_http2frames_errPadLength {H : Type} : DataW H := .iface "*errors.errorString" (.ptr (.agg [.lit (.string [112, 97, 100, 32, 108, 101, 110, 103, 116, 104, 32, 116, 111, 111, 32, 108, 97, 114, 103, 101])]))
def laid_http2frames_pub_http2frames_errPadBytes {H : Type} : DataW H := .iface "*errors.errorString" (.ptr (.agg [.lit (.string [112, 97, 100, 100, 105, 110, 103, 32, 98, 121, 116, 101, 115, 32, 109, 117, 115, 116, 32, 97, 108, 108, 32, 98, 101, 32, 122, 101, 114, 111, 115, 32, 117, 110, 108, 101, 115, 115, 32, 65, 108, 108, 111, 119, 73, 108, 108, 101, 103, 97, 108, 87, 114, 105, 116, 101, 115, 32, 105, 115, 32, 101, 110, 97, 98, 108, 101, 100])]))
def laid_io_ErrShortBuffer {H : Type} : DataW H := .iface "*errors.errorString" (.ptr (.agg [.lit (.string [115, 104, 111, 114, 116, 32, 98, 117, 102, 102, 101, 114])]))

/-- 'laws.FnHeaderBytes': WHATEVER THE INPUT: true; the input reads as it did. -/
def fnHeaderBytesSpec : ChangeSpec := { name := "fnHeaderBytes", fn := fun _ => fun
  | [d1, d2, d3, d4] => { results := [.lit (.bool true)], args := [d1, d2, d3, d4] }
  | _ => none }
def fnHeaderBytesRow : OpenClaim := { program := "ytfdlbjibninakaadoor", sum := "1c6e465cbfae384d0b82f1f408df49e724d3259966b9a874ff152cd8dbe545c8", func := "http2frames/laws.FnHeaderBytes", spec := "fnHeaderBytes", unfollowed := true, recurses := true, named := ["http2frames/pub/http2frames.ErrFrameTooLarge", "io.ErrShortWrite"], apart := false, laid := [("io.ErrShortWrite", laid_io_ErrShortWrite), ("http2frames/pub/http2frames.ErrFrameTooLarge", laid_http2frames_pub_http2frames_ErrFrameTooLarge)] }
def FnHeaderBytesSaid : Prop := fnHeaderBytesRow.holds Tryd.pinned (OpenSpec.ofChange fnHeaderBytesSpec)

/-- ITS FALSE NEIGHBOUR: 'it returns false'. Refute it at one input. -/
def fnHeaderBytesWrong : ChangeSpec := { name := "fnHeaderBytes", fn := fun _ => fun
  | [d1, d2, d3, d4] => { results := [.lit (.bool false)], args := [d1, d2, d3, d4] }
  | _ => none }
def FnHeaderBytesWrongFalsely : Prop := fnHeaderBytesRow.holds Tryd.pinned (OpenSpec.ofChange fnHeaderBytesWrong)

/-- 'laws.FnValid': WHATEVER THE INPUT: true; the input reads as it did. -/
def fnValidSpec : ChangeSpec := { name := "fnValid", fn := fun _ => fun
  | [d1, d2] => { results := [.lit (.bool true)], args := [d1, d2] }
  | _ => none }
def fnValidRow : OpenClaim := { program := "ytfdlbjibninakaadoor", sum := "1c6e465cbfae384d0b82f1f408df49e724d3259966b9a874ff152cd8dbe545c8", func := "http2frames/laws.FnValid", spec := "fnValid", inPlace := ["internal/reflectlite.TypeOf", "internal/reflectlite.ValueOf", "(internal/reflectlite.Value).Type", "(internal/reflectlite.Value).IsNil", "(internal/reflectlite.Value).Elem", "(internal/reflectlite.Value).Set"], unfollowed := true, recurses := true, named := ["io.EOF", "io.ErrUnexpectedEOF", "http2frames/pub/http2frames.ErrFrameTooLarge", "errors.errorType"], apart := false, laid := [("errors.errorType", laid_errors_errorType), ("io.EOF", laid_io_EOF), ("io.ErrUnexpectedEOF", laid_io_ErrUnexpectedEOF), ("http2frames/pub/http2frames.ErrFrameTooLarge", laid_http2frames_pub_http2frames_ErrFrameTooLarge)] }
def FnValidSaid : Prop := fnValidRow.holds Tryd.pinned (OpenSpec.ofChange fnValidSpec)

/-- ITS FALSE NEIGHBOUR: 'it returns false'. Refute it at one input. -/
def fnValidWrong : ChangeSpec := { name := "fnValid", fn := fun _ => fun
  | [d1, d2] => { results := [.lit (.bool false)], args := [d1, d2] }
  | _ => none }
def FnValidWrongFalsely : Prop := fnValidRow.holds Tryd.pinned (OpenSpec.ofChange fnValidWrong)

/-- 'laws.FnRefused': WHATEVER THE INPUT: true; the input reads as it did. -/
def fnRefusedSpec : ChangeSpec := { name := "fnRefused", fn := fun _ => fun
  | [d1, d2, d3, d4] => { results := [.lit (.bool true)], args := [d1, d2, d3, d4] }
  | _ => none }
def fnRefusedRow : OpenClaim := { program := "ytfdlbjibninakaadoor", sum := "1c6e465cbfae384d0b82f1f408df49e724d3259966b9a874ff152cd8dbe545c8", func := "http2frames/laws.FnRefused", spec := "fnRefused", unfollowed := true, recurses := true, named := ["http2frames/pub/http2frames.errStreamID", "http2frames/pub/http2frames.errPadLength", "http2frames/pub/http2frames.errPadBytes", "http2frames/pub/http2frames.ErrFrameTooLarge", "io.ErrShortWrite", "http2frames/pub/http2frames.errDepStreamID"], apart := false, laid := [("io.ErrShortWrite", laid_io_ErrShortWrite), ("http2frames/pub/http2frames.ErrFrameTooLarge", laid_http2frames_pub_http2frames_ErrFrameTooLarge), ("http2frames/pub/http2frames.errStreamID", laid_http2frames_pub_http2frames_errStreamID), ("http2frames/pub/http2frames.errDepStreamID", laid_http2frames_pub_http2frames_errDepStreamID), ("http2frames/pub/http2frames.errPadLength", laid_http2frames_pub_http2frames_errPadLength), ("http2frames/pub/http2frames.errPadBytes", laid_http2frames_pub_http2frames_errPadBytes)] }
def FnRefusedSaid : Prop := fnRefusedRow.holds Tryd.pinned (OpenSpec.ofChange fnRefusedSpec)

/-- ITS FALSE NEIGHBOUR: 'it returns false'. Refute it at one input. -/
def fnRefusedWrong : ChangeSpec := { name := "fnRefused", fn := fun _ => fun
  | [d1, d2, d3, d4] => { results := [.lit (.bool false)], args := [d1, d2, d3, d4] }
  | _ => none }
def FnRefusedWrongFalsely : Prop := fnRefusedRow.holds Tryd.pinned (OpenSpec.ofChange fnRefusedWrong)

/-- 'laws.FnDuplicates': WHATEVER THE INPUT: true; the input reads as it did. -/
def fnDuplicatesSpec : ChangeSpec := { name := "fnDuplicates", fn := fun _ => fun
  | [d] => { results := [.lit (.bool true)], args := [d] }
  | _ => none }
def fnDuplicatesRow : OpenClaim := { program := "ytfdlbjibninakaadoor", sum := "1c6e465cbfae384d0b82f1f408df49e724d3259966b9a874ff152cd8dbe545c8", func := "http2frames/laws.FnDuplicates", spec := "fnDuplicates", unfollowed := true, recurses := true, named := ["http2frames/pub/http2frames.ErrFrameTooLarge", "encoding/binary.BigEndian", "io.ErrShortBuffer", "io.EOF", "io.ErrUnexpectedEOF"], apart := false, laid := [("io.ErrShortBuffer", laid_io_ErrShortBuffer), ("io.EOF", laid_io_EOF), ("io.ErrUnexpectedEOF", laid_io_ErrUnexpectedEOF), ("http2frames/pub/http2frames.ErrFrameTooLarge", laid_http2frames_pub_http2frames_ErrFrameTooLarge)] }
def FnDuplicatesSaid : Prop := fnDuplicatesRow.holds Tryd.pinned (OpenSpec.ofChange fnDuplicatesSpec)

/-- ITS FALSE NEIGHBOUR: 'it returns false'. Refute it at one input. -/
def fnDuplicatesWrong : ChangeSpec := { name := "fnDuplicates", fn := fun _ => fun
  | [d] => { results := [.lit (.bool false)], args := [d] }
  | _ => none }
def FnDuplicatesWrongFalsely : Prop := fnDuplicatesRow.holds Tryd.pinned (OpenSpec.ofChange fnDuplicatesWrong)

/-- 'laws.FnEnds': WHATEVER THE INPUT: true; the input reads as it did. -/
def fnEndsSpec : ChangeSpec := { name := "fnEnds", fn := fun _ => fun
  | [d1, d2] => { results := [.lit (.bool true)], args := [d1, d2] }
  | _ => none }
def fnEndsRow : OpenClaim := { program := "ytfdlbjibninakaadoor", sum := "1c6e465cbfae384d0b82f1f408df49e724d3259966b9a874ff152cd8dbe545c8", func := "http2frames/laws.FnEnds", spec := "fnEnds", inPlace := ["internal/reflectlite.TypeOf", "internal/reflectlite.ValueOf", "(internal/reflectlite.Value).Type", "(internal/reflectlite.Value).IsNil", "(internal/reflectlite.Value).Elem", "(internal/reflectlite.Value).Set"], unfollowed := true, recurses := true, named := ["http2frames/pub/http2frames.ErrFrameTooLarge", "encoding/binary.BigEndian", "io.ErrShortBuffer", "io.EOF", "io.ErrUnexpectedEOF", "errors.errorType"], apart := false, laid := [("errors.errorType", laid_errors_errorType), ("io.ErrShortBuffer", laid_io_ErrShortBuffer), ("io.EOF", laid_io_EOF), ("io.ErrUnexpectedEOF", laid_io_ErrUnexpectedEOF), ("http2frames/pub/http2frames.ErrFrameTooLarge", laid_http2frames_pub_http2frames_ErrFrameTooLarge)] }
def FnEndsSaid : Prop := fnEndsRow.holds Tryd.pinned (OpenSpec.ofChange fnEndsSpec)

/-- ITS FALSE NEIGHBOUR: 'it returns false'. Refute it at one input. -/
def fnEndsWrong : ChangeSpec := { name := "fnEnds", fn := fun _ => fun
  | [d1, d2] => { results := [.lit (.bool false)], args := [d1, d2] }
  | _ => none }
def FnEndsWrongFalsely : Prop := fnEndsRow.holds Tryd.pinned (OpenSpec.ofChange fnEndsWrong)

/-- 'laws.FnIgnored': WHATEVER THE INPUT: true; the input reads as it did. -/
def fnIgnoredSpec : ChangeSpec := { name := "fnIgnored", fn := fun _ => fun
  | [d1, d2] => { results := [.lit (.bool true)], args := [d1, d2] }
  | _ => none }
def fnIgnoredRow : OpenClaim := { program := "ytfdlbjibninakaadoor", sum := "1c6e465cbfae384d0b82f1f408df49e724d3259966b9a874ff152cd8dbe545c8", func := "http2frames/laws.FnIgnored", spec := "fnIgnored", inPlace := ["internal/reflectlite.TypeOf", "internal/reflectlite.ValueOf", "(internal/reflectlite.Value).Type", "(internal/reflectlite.Value).IsNil", "(internal/reflectlite.Value).Elem", "(internal/reflectlite.Value).Set"], unfollowed := true, recurses := true, named := ["http2frames/pub/http2frames.ErrFrameTooLarge", "encoding/binary.BigEndian", "io.ErrShortBuffer", "io.EOF", "io.ErrUnexpectedEOF", "errors.errorType"], apart := false, laid := [("errors.errorType", laid_errors_errorType), ("io.ErrShortBuffer", laid_io_ErrShortBuffer), ("io.EOF", laid_io_EOF), ("io.ErrUnexpectedEOF", laid_io_ErrUnexpectedEOF), ("http2frames/pub/http2frames.ErrFrameTooLarge", laid_http2frames_pub_http2frames_ErrFrameTooLarge)] }
def FnIgnoredSaid : Prop := fnIgnoredRow.holds Tryd.pinned (OpenSpec.ofChange fnIgnoredSpec)

/-- ITS FALSE NEIGHBOUR: 'it returns false'. Refute it at one input. -/
def fnIgnoredWrong : ChangeSpec := { name := "fnIgnored", fn := fun _ => fun
  | [d1, d2] => { results := [.lit (.bool false)], args := [d1, d2] }
  | _ => none }
def FnIgnoredWrongFalsely : Prop := fnIgnoredRow.holds Tryd.pinned (OpenSpec.ofChange fnIgnoredWrong)

/-- 'laws.FnPieces': WHATEVER THE INPUT: true; the input reads as it did. -/
def fnPiecesSpec : ChangeSpec := { name := "fnPieces", fn := fun _ => fun
  | [d1, d2, d3] => { results := [.lit (.bool true)], args := [d1, d2, d3] }
  | _ => none }
def fnPiecesRow : OpenClaim := { program := "ytfdlbjibninakaadoor", sum := "1c6e465cbfae384d0b82f1f408df49e724d3259966b9a874ff152cd8dbe545c8", func := "http2frames/laws.FnPieces", spec := "fnPieces", inPlace := ["internal/reflectlite.TypeOf", "internal/reflectlite.ValueOf", "(internal/reflectlite.Value).Type", "(internal/reflectlite.Value).IsNil", "(internal/reflectlite.Value).Elem", "(internal/reflectlite.Value).Set"], unfollowed := true, recurses := true, named := ["http2frames/pub/http2frames.ErrFrameTooLarge", "encoding/binary.BigEndian", "io.ErrShortBuffer", "io.EOF", "io.ErrUnexpectedEOF", "errors.errorType"], apart := false, laid := [("errors.errorType", laid_errors_errorType), ("io.ErrShortBuffer", laid_io_ErrShortBuffer), ("io.EOF", laid_io_EOF), ("io.ErrUnexpectedEOF", laid_io_ErrUnexpectedEOF), ("http2frames/pub/http2frames.ErrFrameTooLarge", laid_http2frames_pub_http2frames_ErrFrameTooLarge)] }
def FnPiecesSaid : Prop := fnPiecesRow.holds Tryd.pinned (OpenSpec.ofChange fnPiecesSpec)

/-- ITS FALSE NEIGHBOUR: 'it returns false'. Refute it at one input. -/
def fnPiecesWrong : ChangeSpec := { name := "fnPieces", fn := fun _ => fun
  | [d1, d2, d3] => { results := [.lit (.bool false)], args := [d1, d2, d3] }
  | _ => none }
def FnPiecesWrongFalsely : Prop := fnPiecesRow.holds Tryd.pinned (OpenSpec.ofChange fnPiecesWrong)

/-- 'laws.FnUnknown': WHATEVER THE INPUT: true; the input reads as it did. -/
def fnUnknownSpec : ChangeSpec := { name := "fnUnknown", fn := fun _ => fun
  | [d1, d2, d3, d4, d5] => { results := [.lit (.bool true)], args := [d1, d2, d3, d4, d5] }
  | _ => none }
def fnUnknownRow : OpenClaim := { program := "ytfdlbjibninakaadoor", sum := "1c6e465cbfae384d0b82f1f408df49e724d3259966b9a874ff152cd8dbe545c8", func := "http2frames/laws.FnUnknown", spec := "fnUnknown", inPlace := ["internal/reflectlite.TypeOf", "internal/reflectlite.ValueOf", "(internal/reflectlite.Value).Type", "(internal/reflectlite.Value).IsNil", "(internal/reflectlite.Value).Elem", "(internal/reflectlite.Value).Set"], unfollowed := true, recurses := true, named := ["http2frames/pub/http2frames.ErrFrameTooLarge", "encoding/binary.BigEndian", "io.ErrShortBuffer", "io.EOF", "io.ErrUnexpectedEOF", "errors.errorType"], apart := false, laid := [("errors.errorType", laid_errors_errorType), ("io.ErrShortBuffer", laid_io_ErrShortBuffer), ("io.EOF", laid_io_EOF), ("io.ErrUnexpectedEOF", laid_io_ErrUnexpectedEOF), ("http2frames/pub/http2frames.ErrFrameTooLarge", laid_http2frames_pub_http2frames_ErrFrameTooLarge)] }
def FnUnknownSaid : Prop := fnUnknownRow.holds Tryd.pinned (OpenSpec.ofChange fnUnknownSpec)

/-- ITS FALSE NEIGHBOUR: 'it returns false'. Refute it at one input. -/
def fnUnknownWrong : ChangeSpec := { name := "fnUnknown", fn := fun _ => fun
  | [d1, d2, d3, d4, d5] => { results := [.lit (.bool false)], args := [d1, d2, d3, d4, d5] }
  | _ => none }
def FnUnknownWrongFalsely : Prop := fnUnknownRow.holds Tryd.pinned (OpenSpec.ofChange fnUnknownWrong)

/-- 'laws.FnHeader': WHATEVER THE INPUT: true; the input reads as it did. -/
def fnHeaderSpec : ChangeSpec := { name := "fnHeader", fn := fun _ => fun
  | [d] => { results := [.lit (.bool true)], args := [d] }
  | _ => none }
def fnHeaderRow : OpenClaim := { program := "ytfdlbjibninakaadoor", sum := "1c6e465cbfae384d0b82f1f408df49e724d3259966b9a874ff152cd8dbe545c8", func := "http2frames/laws.FnHeader", spec := "fnHeader", inPlace := ["internal/reflectlite.TypeOf", "internal/reflectlite.ValueOf", "(internal/reflectlite.Value).Type", "(internal/reflectlite.Value).IsNil", "(internal/reflectlite.Value).Elem", "(internal/reflectlite.Value).Set"], unfollowed := true, recurses := true, named := ["encoding/binary.BigEndian", "io.ErrShortBuffer", "io.EOF", "io.ErrUnexpectedEOF", "http2frames/pub/http2frames.ErrFrameTooLarge", "errors.errorType"], apart := false, laid := [("errors.errorType", laid_errors_errorType), ("io.ErrShortBuffer", laid_io_ErrShortBuffer), ("io.EOF", laid_io_EOF), ("io.ErrUnexpectedEOF", laid_io_ErrUnexpectedEOF), ("http2frames/pub/http2frames.ErrFrameTooLarge", laid_http2frames_pub_http2frames_ErrFrameTooLarge)] }
def FnHeaderSaid : Prop := fnHeaderRow.holds Tryd.pinned (OpenSpec.ofChange fnHeaderSpec)

/-- ITS FALSE NEIGHBOUR: 'it returns false'. Refute it at one input. -/
def fnHeaderWrong : ChangeSpec := { name := "fnHeader", fn := fun _ => fun
  | [d] => { results := [.lit (.bool false)], args := [d] }
  | _ => none }
def FnHeaderWrongFalsely : Prop := fnHeaderRow.holds Tryd.pinned (OpenSpec.ofChange fnHeaderWrong)

/- THE SECOND FORM. 'bulk': how many values and letters a reading holds, each counted each time it is reached (what is shared counts as often as it is met; a slice's spare places count too). A statement '..UptoSaid' is the law's where the arguments, and the package variables that the reading takes, are together of bulk at most 1048576: NARROWER than '..Said'. Prove '..Said' where nothing that the law and all that it calls make is longer than what came in: it says more and counts as full. Else prove '..UptoSaid'. A law counts once. -/
mutual
def uptoBulk {H : Type} : DataW H → Nat
  | .lit (.string bytes) => bytes.length + 1
  | .lit _ => 1
  | .nil => 1
  | .ptr d => uptoBulk d + 1
  | .slice elems spare => uptoBulkAll elems + uptoBulkAll spare + 1
  | .agg parts => uptoBulkAll parts + 1
  | .iface _ d => uptoBulk d + 1
  | .map entries => uptoBulkEntries entries + 1
  | .held _ => 1
def uptoBulkAll {H : Type} : List (DataW H) → Nat
  | [] => 0
  | d :: r => uptoBulk d + uptoBulkAll r
def uptoBulkEntries {H : Type} : List (Lit × DataW H) → Nat
  | [] => 0
  | x :: r => uptoBulkEntry x + uptoBulkEntries r
def uptoBulkEntry {H : Type} : Lit × DataW H → Nat
  | (.string bytes, d) => bytes.length + uptoBulk d + 1
  | (_, d) => uptoBulk d + 1
 end
def uptoSmall : (H : Type) → List (DataW H) → Bool := fun _ ds => decide (uptoBulkAll ds ≤ 1048576)
def OpenSpec.upto (s : _root_.Go.ChangeSpec) : _root_.Go.OpenSpec := { _root_.Go.OpenSpec.ofChange s with cond := some uptoSmall }

/-- 'laws.FnHeaderBytes', WHERE WHAT IT READS IS OF BULK AT MOST 1048576: true; the input reads as it did. -/
def fnHeaderBytesUptoRow : OpenClaim := { program := "ytfdlbjibninakaadoor", sum := "1c6e465cbfae384d0b82f1f408df49e724d3259966b9a874ff152cd8dbe545c8", func := "http2frames/laws.FnHeaderBytes", spec := "fnHeaderBytes", unfollowed := true, recurses := true, named := ["http2frames/pub/http2frames.ErrFrameTooLarge", "io.ErrShortWrite"], apart := false, laid := [("io.ErrShortWrite", laid_io_ErrShortWrite), ("http2frames/pub/http2frames.ErrFrameTooLarge", laid_http2frames_pub_http2frames_ErrFrameTooLarge)], narrowed := true }
def FnHeaderBytesUptoSaid : Prop := fnHeaderBytesUptoRow.holds Tryd.pinned (OpenSpec.upto fnHeaderBytesSpec)

/-- 'laws.FnValid', WHERE WHAT IT READS IS OF BULK AT MOST 1048576: true; the input reads as it did. -/
def fnValidUptoRow : OpenClaim := { program := "ytfdlbjibninakaadoor", sum := "1c6e465cbfae384d0b82f1f408df49e724d3259966b9a874ff152cd8dbe545c8", func := "http2frames/laws.FnValid", spec := "fnValid", inPlace := ["internal/reflectlite.TypeOf", "internal/reflectlite.ValueOf", "(internal/reflectlite.Value).Type", "(internal/reflectlite.Value).IsNil", "(internal/reflectlite.Value).Elem", "(internal/reflectlite.Value).Set"], unfollowed := true, recurses := true, named := ["io.EOF", "io.ErrUnexpectedEOF", "http2frames/pub/http2frames.ErrFrameTooLarge", "errors.errorType"], apart := false, laid := [("errors.errorType", laid_errors_errorType), ("io.EOF", laid_io_EOF), ("io.ErrUnexpectedEOF", laid_io_ErrUnexpectedEOF), ("http2frames/pub/http2frames.ErrFrameTooLarge", laid_http2frames_pub_http2frames_ErrFrameTooLarge)], narrowed := true }
def FnValidUptoSaid : Prop := fnValidUptoRow.holds Tryd.pinned (OpenSpec.upto fnValidSpec)

/-- 'laws.FnRefused', WHERE WHAT IT READS IS OF BULK AT MOST 1048576: true; the input reads as it did. -/
def fnRefusedUptoRow : OpenClaim := { program := "ytfdlbjibninakaadoor", sum := "1c6e465cbfae384d0b82f1f408df49e724d3259966b9a874ff152cd8dbe545c8", func := "http2frames/laws.FnRefused", spec := "fnRefused", unfollowed := true, recurses := true, named := ["http2frames/pub/http2frames.errStreamID", "http2frames/pub/http2frames.errPadLength", "http2frames/pub/http2frames.errPadBytes", "http2frames/pub/http2frames.ErrFrameTooLarge", "io.ErrShortWrite", "http2frames/pub/http2frames.errDepStreamID"], apart := false, laid := [("io.ErrShortWrite", laid_io_ErrShortWrite), ("http2frames/pub/http2frames.ErrFrameTooLarge", laid_http2frames_pub_http2frames_ErrFrameTooLarge), ("http2frames/pub/http2frames.errStreamID", laid_http2frames_pub_http2frames_errStreamID), ("http2frames/pub/http2frames.errDepStreamID", laid_http2frames_pub_http2frames_errDepStreamID), ("http2frames/pub/http2frames.errPadLength", laid_http2frames_pub_http2frames_errPadLength), ("http2frames/pub/http2frames.errPadBytes", laid_http2frames_pub_http2frames_errPadBytes)], narrowed := true }
def FnRefusedUptoSaid : Prop := fnRefusedUptoRow.holds Tryd.pinned (OpenSpec.upto fnRefusedSpec)

/-- 'laws.FnDuplicates', WHERE WHAT IT READS IS OF BULK AT MOST 1048576: true; the input reads as it did. -/
def fnDuplicatesUptoRow : OpenClaim := { program := "ytfdlbjibninakaadoor", sum := "1c6e465cbfae384d0b82f1f408df49e724d3259966b9a874ff152cd8dbe545c8", func := "http2frames/laws.FnDuplicates", spec := "fnDuplicates", unfollowed := true, recurses := true, named := ["http2frames/pub/http2frames.ErrFrameTooLarge", "encoding/binary.BigEndian", "io.ErrShortBuffer", "io.EOF", "io.ErrUnexpectedEOF"], apart := false, laid := [("io.ErrShortBuffer", laid_io_ErrShortBuffer), ("io.EOF", laid_io_EOF), ("io.ErrUnexpectedEOF", laid_io_ErrUnexpectedEOF), ("http2frames/pub/http2frames.ErrFrameTooLarge", laid_http2frames_pub_http2frames_ErrFrameTooLarge)], narrowed := true }
def FnDuplicatesUptoSaid : Prop := fnDuplicatesUptoRow.holds Tryd.pinned (OpenSpec.upto fnDuplicatesSpec)

/-- 'laws.FnEnds', WHERE WHAT IT READS IS OF BULK AT MOST 1048576: true; the input reads as it did. -/
def fnEndsUptoRow : OpenClaim := { program := "ytfdlbjibninakaadoor", sum := "1c6e465cbfae384d0b82f1f408df49e724d3259966b9a874ff152cd8dbe545c8", func := "http2frames/laws.FnEnds", spec := "fnEnds", inPlace := ["internal/reflectlite.TypeOf", "internal/reflectlite.ValueOf", "(internal/reflectlite.Value).Type", "(internal/reflectlite.Value).IsNil", "(internal/reflectlite.Value).Elem", "(internal/reflectlite.Value).Set"], unfollowed := true, recurses := true, named := ["http2frames/pub/http2frames.ErrFrameTooLarge", "encoding/binary.BigEndian", "io.ErrShortBuffer", "io.EOF", "io.ErrUnexpectedEOF", "errors.errorType"], apart := false, laid := [("errors.errorType", laid_errors_errorType), ("io.ErrShortBuffer", laid_io_ErrShortBuffer), ("io.EOF", laid_io_EOF), ("io.ErrUnexpectedEOF", laid_io_ErrUnexpectedEOF), ("http2frames/pub/http2frames.ErrFrameTooLarge", laid_http2frames_pub_http2frames_ErrFrameTooLarge)], narrowed := true }
def FnEndsUptoSaid : Prop := fnEndsUptoRow.holds Tryd.pinned (OpenSpec.upto fnEndsSpec)

/-- 'laws.FnIgnored', WHERE WHAT IT READS IS OF BULK AT MOST 1048576: true; the input reads as it did. -/
def fnIgnoredUptoRow : OpenClaim := { program := "ytfdlbjibninakaadoor", sum := "1c6e465cbfae384d0b82f1f408df49e724d3259966b9a874ff152cd8dbe545c8", func := "http2frames/laws.FnIgnored", spec := "fnIgnored", inPlace := ["internal/reflectlite.TypeOf", "internal/reflectlite.ValueOf", "(internal/reflectlite.Value).Type", "(internal/reflectlite.Value).IsNil", "(internal/reflectlite.Value).Elem", "(internal/reflectlite.Value).Set"], unfollowed := true, recurses := true, named := ["http2frames/pub/http2frames.ErrFrameTooLarge", "encoding/binary.BigEndian", "io.ErrShortBuffer", "io.EOF", "io.ErrUnexpectedEOF", "errors.errorType"], apart := false, laid := [("errors.errorType", laid_errors_errorType), ("io.ErrShortBuffer", laid_io_ErrShortBuffer), ("io.EOF", laid_io_EOF), ("io.ErrUnexpectedEOF", laid_io_ErrUnexpectedEOF), ("http2frames/pub/http2frames.ErrFrameTooLarge", laid_http2frames_pub_http2frames_ErrFrameTooLarge)], narrowed := true }
def FnIgnoredUptoSaid : Prop := fnIgnoredUptoRow.holds Tryd.pinned (OpenSpec.upto fnIgnoredSpec)

/-- 'laws.FnPieces', WHERE WHAT IT READS IS OF BULK AT MOST 1048576: true; the input reads as it did. -/
def fnPiecesUptoRow : OpenClaim := { program := "ytfdlbjibninakaadoor", sum := "1c6e465cbfae384d0b82f1f408df49e724d3259966b9a874ff152cd8dbe545c8", func := "http2frames/laws.FnPieces", spec := "fnPieces", inPlace := ["internal/reflectlite.TypeOf", "internal/reflectlite.ValueOf", "(internal/reflectlite.Value).Type", "(internal/reflectlite.Value).IsNil", "(internal/reflectlite.Value).Elem", "(internal/reflectlite.Value).Set"], unfollowed := true, recurses := true, named := ["http2frames/pub/http2frames.ErrFrameTooLarge", "encoding/binary.BigEndian", "io.ErrShortBuffer", "io.EOF", "io.ErrUnexpectedEOF", "errors.errorType"], apart := false, laid := [("errors.errorType", laid_errors_errorType), ("io.ErrShortBuffer", laid_io_ErrShortBuffer), ("io.EOF", laid_io_EOF), ("io.ErrUnexpectedEOF", laid_io_ErrUnexpectedEOF), ("http2frames/pub/http2frames.ErrFrameTooLarge", laid_http2frames_pub_http2frames_ErrFrameTooLarge)], narrowed := true }
def FnPiecesUptoSaid : Prop := fnPiecesUptoRow.holds Tryd.pinned (OpenSpec.upto fnPiecesSpec)

/-- 'laws.FnUnknown', WHERE WHAT IT READS IS OF BULK AT MOST 1048576: true; the input reads as it did. -/
def fnUnknownUptoRow : OpenClaim := { program := "ytfdlbjibninakaadoor", sum := "1c6e465cbfae384d0b82f1f408df49e724d3259966b9a874ff152cd8dbe545c8", func := "http2frames/laws.FnUnknown", spec := "fnUnknown", inPlace := ["internal/reflectlite.TypeOf", "internal/reflectlite.ValueOf", "(internal/reflectlite.Value).Type", "(internal/reflectlite.Value).IsNil", "(internal/reflectlite.Value).Elem", "(internal/reflectlite.Value).Set"], unfollowed := true, recurses := true, named := ["http2frames/pub/http2frames.ErrFrameTooLarge", "encoding/binary.BigEndian", "io.ErrShortBuffer", "io.EOF", "io.ErrUnexpectedEOF", "errors.errorType"], apart := false, laid := [("errors.errorType", laid_errors_errorType), ("io.ErrShortBuffer", laid_io_ErrShortBuffer), ("io.EOF", laid_io_EOF), ("io.ErrUnexpectedEOF", laid_io_ErrUnexpectedEOF), ("http2frames/pub/http2frames.ErrFrameTooLarge", laid_http2frames_pub_http2frames_ErrFrameTooLarge)], narrowed := true }
def FnUnknownUptoSaid : Prop := fnUnknownUptoRow.holds Tryd.pinned (OpenSpec.upto fnUnknownSpec)

/-- 'laws.FnHeader', WHERE WHAT IT READS IS OF BULK AT MOST 1048576: true; the input reads as it did. -/
def fnHeaderUptoRow : OpenClaim := { program := "ytfdlbjibninakaadoor", sum := "1c6e465cbfae384d0b82f1f408df49e724d3259966b9a874ff152cd8dbe545c8", func := "http2frames/laws.FnHeader", spec := "fnHeader", inPlace := ["internal/reflectlite.TypeOf", "internal/reflectlite.ValueOf", "(internal/reflectlite.Value).Type", "(internal/reflectlite.Value).IsNil", "(internal/reflectlite.Value).Elem", "(internal/reflectlite.Value).Set"], unfollowed := true, recurses := true, named := ["encoding/binary.BigEndian", "io.ErrShortBuffer", "io.EOF", "io.ErrUnexpectedEOF", "http2frames/pub/http2frames.ErrFrameTooLarge", "errors.errorType"], apart := false, laid := [("errors.errorType", laid_errors_errorType), ("io.ErrShortBuffer", laid_io_ErrShortBuffer), ("io.EOF", laid_io_EOF), ("io.ErrUnexpectedEOF", laid_io_ErrUnexpectedEOF), ("http2frames/pub/http2frames.ErrFrameTooLarge", laid_http2frames_pub_http2frames_ErrFrameTooLarge)], narrowed := true }
def FnHeaderUptoSaid : Prop := fnHeaderUptoRow.holds Tryd.pinned (OpenSpec.upto fnHeaderSpec)

end Rows
end Go.Proofs.YtfdlbjibninakaaDoor
