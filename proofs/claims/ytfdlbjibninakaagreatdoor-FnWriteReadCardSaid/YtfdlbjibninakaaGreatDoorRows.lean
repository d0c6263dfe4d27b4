/-
  NARROWER THAN 'FOR EVERY INPUT', by the rows' own cells (each row's printed sentence says how): FnBehind: laid · FnRead: laid · FnWrite: laid · FnWriteRead: laid.
  DERIVED. THE GIVEN ROWS OF THIS SEAT. 4 by the template 'for every input the law returns true; each argument reads behind the call as it read before'; 0 by the template 'total and deterministic' (their statements: YtfdlbjibninakaaGreatDoorTotals.lean).
  GIVEN WITH THE SEED: the statements are not yours to turn. If you find one false, say at which input.
  Laid BY PROGRAM, IN A SANDBOX (cutbox-rows.mjs): the forced cells as the released guide's own fill.sh prints them over the translation 66292048e7c77f44… (all of the seat's roots in one cut). By AI agents, Wed Nov 11 2026. No macro, syntax, notation, axiom, sorry.
-/
import Derived.Test.YtfdlbjibninakaaGreatDoorChecked
import GoSem.Claim
import GoSem.ClaimJoined
import GoSem.ClaimMapViews
import Derived.JoinedTies
import Derived.KernelRfl
namespace Go.Proofs.YtfdlbjibninakaaGreatDoor
/- THE CELL 'sum', in the pinned program and in every row, IS THE sha256 OF THE DUMP (.gsa) THAT YtfdlbjibninakaaGreatDoorProg.lean LOADS. Nothing in Lean hashes anything: it is a label: what it is worth is what the hold of that sum in a sandbox is worth. -/
noncomputable def Tryz.pinned : Pinned := { name := "ytfdlbjibninakaagreatdoor", sum := "66292048e7c77f44a4749165eb9df1a1f9c6d81d7d92f8cd19bcfb6a30a09f76", checked := Tryz.checked }
namespace Rows
def none {H : Type} : Left H := { results := [], args := [] }

/- WHAT THE LISTED PACKAGE-LEVEL VARIABLES READ AS WHEN THE CALL BEGINS. Each datum BY PROGRAM (the guide's laid-datum.mjs) off the statement by which the dump's own 'gosem.cut.vars' lays the variable. In a bare row this is a premise. The card (YtfdlbjibninakaaGreatDoorCards.lean) ties it to the program's text. -/
def laid_errors_errorType {H : Type} : DataW H := .iface "internal/reflectlite.rtype" (.agg [.ptr (.lit (.string [101, 114, 114, 111, 114]))])
def laid_io_ErrShortBuffer {H : Type} : DataW H := .iface "*errors.errorString" (.ptr (.agg [.lit (.string [115, 104, 111, 114, 116, 32, 98, 117, 102, 102, 101, 114])]))
def laid_io_EOF {H : Type} : DataW H := .iface "*errors.errorString" (.ptr (.agg [.lit (.string [69, 79, 70])]))
def laid_io_ErrUnexpectedEOF {H : Type} : DataW H := .iface "*errors.errorString" (.ptr (.agg [.lit (.string [117, 110, 101, 120, 112, 101, 99, 116, 101, 100, 32, 69, 79, 70])]))
def laid_http2frames_pub_http2frames_ErrFrameTooLarge {H : Type} : DataW H := .iface "*errors.errorString" (.ptr (.agg [.lit (.string [104, 116, 116, 112, 50, 58, 32, 102, 114, 97, 109, 101, 32, 116, 111, 111, 32, 108, 97, 114, 103, 101])]))
def laid_io_ErrShortWrite {H : Type} : DataW H := .iface "*errors.errorString" (.ptr (.agg [.lit (.string [115, 104, 111, 114, 116, 32, 119, 114, 105, 116, 101])]))
def laid_http2frames_pub_http2frames_errStreamID {H : Type} : DataW H := .iface "*errors.errorString" (.ptr (.agg [.lit (.string [105, 110, 118, 97, 108, 105, 100, 32, 115, 116, 114, 101, 97, 109, 32, 73, 68])]))
def laid_http2frames_pub_http2frames_errDepStreamID {H : Type} : DataW H := .iface "*errors.errorString" (.ptr (.agg [.lit (.string [105, 110, 118, 97, 108, 105, 100, 32, 100, 101, 112, 101, 110, 100, 101, 110, 116, 32, 115, 116, 114, 101, 97, 109, 32, 73, 68])]))
def laid_http2frames_pub_http2frames_errPadLength {H : Type} : DataW H := .iface "*errors.errorString" (.ptr (.agg [.lit (.string [112, 97, 100, 32, 108, 101, 110, 103, 116, 104, 32, 116, 111, 111, 32, 108, 97, 114, 103, 101])]))
def laid_http2frames_pub_http2frames_errPadBytes {H : Type} : DataW H := .iface "*errors.errorString" (.ptr (.agg [.lit (.string [112, 97, 100, 100, 105, 110, 103, 32, 98, 121, 116, 101, 115, 32, 109, 117, 115, 116, 32, 97, 108, 108, 32, 98, 101, 32, 122, 101, 114, 111, 115, 32, 117, 110, 108, 101, 115, 115, 32, 65, 108, 108, 111, 119, 73, 108, 108, 101, 103, 97, 108, 87, 114, 105, 116, 101, 115, 32, 105, 115, 32, 101, 110, 97, 98, 108, 101, 100])]))

/-- 'laws.FnBehind': WHATEVER THE INPUT: true; the input reads as it did. -/
def fnBehindSpec : ChangeSpec := { name := "fnBehind", fn := fun _ => fun
  | [d1, d2, d3] => { results := [.lit (.bool true)], args := [d1, d2, d3] }
  | _ => none }
def fnBehindRow : OpenClaim := { program := "ytfdlbjibninakaagreatdoor", sum := "66292048e7c77f44a4749165eb9df1a1f9c6d81d7d92f8cd19bcfb6a30a09f76", func := "http2frames/laws.FnBehind", spec := "fnBehind", inPlace := ["internal/reflectlite.TypeOf", "internal/reflectlite.ValueOf", "(internal/reflectlite.Value).Type", "(internal/reflectlite.Value).IsNil", "(internal/reflectlite.Value).Elem", "(internal/reflectlite.Value).Set"], unfollowed := true, recurses := true, named := ["http2frames/pub/http2frames.ErrFrameTooLarge", "encoding/binary.BigEndian", "io.ErrShortBuffer", "io.EOF", "io.ErrUnexpectedEOF", "errors.errorType"], apart := false, laid := [("errors.errorType", laid_errors_errorType), ("io.ErrShortBuffer", laid_io_ErrShortBuffer), ("io.EOF", laid_io_EOF), ("io.ErrUnexpectedEOF", laid_io_ErrUnexpectedEOF), ("http2frames/pub/http2frames.ErrFrameTooLarge", laid_http2frames_pub_http2frames_ErrFrameTooLarge)] }
def FnBehindSaid : Prop := fnBehindRow.holds Tryz.pinned (OpenSpec.ofChange fnBehindSpec)

/-- ITS FALSE NEIGHBOUR: 'it returns false'. Refute it at one input. -/
def fnBehindWrong : ChangeSpec := { name := "fnBehind", fn := fun _ => fun
  | [d1, d2, d3] => { results := [.lit (.bool false)], args := [d1, d2, d3] }
  | _ => none }
def FnBehindWrongFalsely : Prop := fnBehindRow.holds Tryz.pinned (OpenSpec.ofChange fnBehindWrong)

/-- 'laws.FnRead': WHATEVER THE INPUT: true; the input reads as it did. -/
def fnReadSpec : ChangeSpec := { name := "fnRead", fn := fun _ => fun
  | [d1, d2, d3] => { results := [.lit (.bool true)], args := [d1, d2, d3] }
  | _ => none }
def fnReadRow : OpenClaim := { program := "ytfdlbjibninakaagreatdoor", sum := "66292048e7c77f44a4749165eb9df1a1f9c6d81d7d92f8cd19bcfb6a30a09f76", func := "http2frames/laws.FnRead", spec := "fnRead", inPlace := ["internal/reflectlite.TypeOf", "internal/reflectlite.ValueOf", "(internal/reflectlite.Value).Type", "(internal/reflectlite.Value).IsNil", "(internal/reflectlite.Value).Elem", "(internal/reflectlite.Value).Set"], unfollowed := true, recurses := true, named := ["http2frames/pub/http2frames.ErrFrameTooLarge", "encoding/binary.BigEndian", "io.ErrShortBuffer", "io.EOF", "io.ErrUnexpectedEOF", "errors.errorType"], apart := false, laid := [("errors.errorType", laid_errors_errorType), ("io.ErrShortBuffer", laid_io_ErrShortBuffer), ("io.EOF", laid_io_EOF), ("io.ErrUnexpectedEOF", laid_io_ErrUnexpectedEOF), ("http2frames/pub/http2frames.ErrFrameTooLarge", laid_http2frames_pub_http2frames_ErrFrameTooLarge)] }
def FnReadSaid : Prop := fnReadRow.holds Tryz.pinned (OpenSpec.ofChange fnReadSpec)

/-- ITS FALSE NEIGHBOUR: 'it returns false'. Refute it at one input. -/
def fnReadWrong : ChangeSpec := { name := "fnRead", fn := fun _ => fun
  | [d1, d2, d3] => { results := [.lit (.bool false)], args := [d1, d2, d3] }
  | _ => none }
def FnReadWrongFalsely : Prop := fnReadRow.holds Tryz.pinned (OpenSpec.ofChange fnReadWrong)

/-- 'laws.FnWrite': WHATEVER THE INPUT: true; the input reads as it did. -/
def fnWriteSpec : ChangeSpec := { name := "fnWrite", fn := fun _ => fun
  | [d1, d2] => { results := [.lit (.bool true)], args := [d1, d2] }
  | _ => none }
def fnWriteRow : OpenClaim := { program := "ytfdlbjibninakaagreatdoor", sum := "66292048e7c77f44a4749165eb9df1a1f9c6d81d7d92f8cd19bcfb6a30a09f76", func := "http2frames/laws.FnWrite", spec := "fnWrite", inPlace := ["internal/reflectlite.TypeOf", "internal/reflectlite.ValueOf", "(internal/reflectlite.Value).Type", "(internal/reflectlite.Value).IsNil", "(internal/reflectlite.Value).Elem", "(internal/reflectlite.Value).Set"], unfollowed := true, recurses := true, named := ["http2frames/pub/http2frames.errStreamID", "http2frames/pub/http2frames.errPadLength", "http2frames/pub/http2frames.errPadBytes", "http2frames/pub/http2frames.ErrFrameTooLarge", "io.ErrShortWrite", "http2frames/pub/http2frames.errDepStreamID", "encoding/binary.BigEndian", "io.ErrShortBuffer", "io.EOF", "io.ErrUnexpectedEOF", "errors.errorType"], apart := false, laid := [("errors.errorType", laid_errors_errorType), ("io.ErrShortWrite", laid_io_ErrShortWrite), ("io.ErrShortBuffer", laid_io_ErrShortBuffer), ("io.EOF", laid_io_EOF), ("io.ErrUnexpectedEOF", laid_io_ErrUnexpectedEOF), ("http2frames/pub/http2frames.ErrFrameTooLarge", laid_http2frames_pub_http2frames_ErrFrameTooLarge), ("http2frames/pub/http2frames.errStreamID", laid_http2frames_pub_http2frames_errStreamID), ("http2frames/pub/http2frames.errDepStreamID", laid_http2frames_pub_http2frames_errDepStreamID), ("http2frames/pub/http2frames.errPadLength", laid_http2frames_pub_http2frames_errPadLength), ("http2frames/pub/http2frames.errPadBytes", laid_http2frames_pub_http2frames_errPadBytes)] }
def FnWriteSaid : Prop := fnWriteRow.holds Tryz.pinned (OpenSpec.ofChange fnWriteSpec)

/-- ITS FALSE NEIGHBOUR: 'it returns false'. Refute it at one input. -/
def fnWriteWrong : ChangeSpec := { name := "fnWrite", fn := fun _ => fun
  | [d1, d2] => { results := [.lit (.bool false)], args := [d1, d2] }
  | _ => none }
def FnWriteWrongFalsely : Prop := fnWriteRow.holds Tryz.pinned (OpenSpec.ofChange fnWriteWrong)

/-- 'laws.FnWriteRead': WHATEVER THE INPUT: true; the input reads as it did. -/
def fnWriteReadSpec : ChangeSpec := { name := "fnWriteRead", fn := fun _ => fun
  | [d1, d2, d3] => { results := [.lit (.bool true)], args := [d1, d2, d3] }
  | _ => none }
def fnWriteReadRow : OpenClaim := { program := "ytfdlbjibninakaagreatdoor", sum := "66292048e7c77f44a4749165eb9df1a1f9c6d81d7d92f8cd19bcfb6a30a09f76", func := "http2frames/laws.FnWriteRead", spec := "fnWriteRead", inPlace := ["internal/reflectlite.TypeOf", "internal/reflectlite.ValueOf", "(internal/reflectlite.Value).Type", "(internal/reflectlite.Value).IsNil", "(internal/reflectlite.Value).Elem", "(internal/reflectlite.Value).Set"], unfollowed := true, recurses := true, named := ["http2frames/pub/http2frames.errStreamID", "http2frames/pub/http2frames.errPadLength", "http2frames/pub/http2frames.errPadBytes", "http2frames/pub/http2frames.ErrFrameTooLarge", "io.ErrShortWrite", "http2frames/pub/http2frames.errDepStreamID", "encoding/binary.BigEndian", "io.ErrShortBuffer", "io.EOF", "io.ErrUnexpectedEOF", "errors.errorType"], apart := false, laid := [("errors.errorType", laid_errors_errorType), ("io.ErrShortWrite", laid_io_ErrShortWrite), ("io.ErrShortBuffer", laid_io_ErrShortBuffer), ("io.EOF", laid_io_EOF), ("io.ErrUnexpectedEOF", laid_io_ErrUnexpectedEOF), ("http2frames/pub/http2frames.ErrFrameTooLarge", laid_http2frames_pub_http2frames_ErrFrameTooLarge), ("http2frames/pub/http2frames.errStreamID", laid_http2frames_pub_http2frames_errStreamID), ("http2frames/pub/http2frames.errDepStreamID", laid_http2frames_pub_http2frames_errDepStreamID), ("http2frames/pub/http2frames.errPadLength", laid_http2frames_pub_http2frames_errPadLength), ("http2frames/pub/http2frames.errPadBytes", laid_http2frames_pub_http2frames_errPadBytes)] }
def FnWriteReadSaid : Prop := fnWriteReadRow.holds Tryz.pinned (OpenSpec.ofChange fnWriteReadSpec)

/-- ITS FALSE NEIGHBOUR: 'it returns false'. Refute it at one input. -/
def fnWriteReadWrong : ChangeSpec := { name := "fnWriteRead", fn := fun _ => fun
  | [d1, d2, d3] => { results := [.lit (.bool false)], args := [d1, d2, d3] }
  | _ => none }
def FnWriteReadWrongFalsely : Prop := fnWriteReadRow.holds Tryz.pinned (OpenSpec.ofChange fnWriteReadWrong)

/- THE SECOND FORM. 'bulk': how many values and letters a reading holds, each counted each time it is reached (what is shared counts as often as it is met; a slice's spare places count too). A statement '..UptoSaid' is the law's where the arguments, and the package variables that the reading takes, are together of bulk at most 1048576: NARROWER than '..Said'. Prove '..Said' where nothing that the law and all that it calls make is longer than what came in: it says more and counts as full. Else prove '..UptoSaid'. A law counts once. -/
mutual
def uptoBulk {H : Type} : DataW H → Nat
  | .lit (.string bytes) => bytes.length + 1
  | .lit _ => 1
  | .nil => 1
  | .ptr d => uptoBulk d + 1
  | .slice elems spare => uptoBulkAll elems + uptoBulkAll spare + 1
  | .agg parts => uptoBulkAll parts + 1
  | .iface _ d => uptoBulk d + 1
  | .map entries => uptoBulkEntries entries + 1
  | .held _ => 1
def uptoBulkAll {H : Type} : List (DataW H) → Nat
  | [] => 0
  | d :: r => uptoBulk d + uptoBulkAll r
def uptoBulkEntries {H : Type} : List (Lit × DataW H) → Nat
  | [] => 0
  | x :: r => uptoBulkEntry x + uptoBulkEntries r
def uptoBulkEntry {H : Type} : Lit × DataW H → Nat
  | (.string bytes, d) => bytes.length + uptoBulk d + 1
  | (_, d) => uptoBulk d + 1
 end
def uptoSmall : (H : Type) → List (DataW H) → Bool := fun _ ds => decide (uptoBulkAll ds ≤ 1048576)
def OpenSpec.upto (s : _root_.Go.ChangeSpec) : _root_.Go.OpenSpec := { _root_.Go.OpenSpec.ofChange s with cond := some uptoSmall }

/-- 'laws.FnBehind', WHERE WHAT IT READS IS OF BULK AT MOST 1048576: true; the input reads as it did. -/
def fnBehindUptoRow : OpenClaim := { program := "ytfdlbjibninakaagreatdoor", sum := "66292048e7c77f44a4749165eb9df1a1f9c6d81d7d92f8cd19bcfb6a30a09f76", func := "http2frames/laws.FnBehind", spec := "fnBehind", inPlace := ["internal/reflectlite.TypeOf", "internal/reflectlite.ValueOf", "(internal/reflectlite.Value).Type", "(internal/reflectlite.Value).IsNil", "(internal/reflectlite.Value).Elem", "(internal/reflectlite.Value).Set"], unfollowed := true, recurses := true, named := ["http2frames/pub/http2frames.ErrFrameTooLarge", "encoding/binary.BigEndian", "io.ErrShortBuffer", "io.EOF", "io.ErrUnexpectedEOF", "errors.errorType"], apart := false, laid := [("errors.errorType", laid_errors_errorType), ("io.ErrShortBuffer", laid_io_ErrShortBuffer), ("io.EOF", laid_io_EOF), ("io.ErrUnexpectedEOF", laid_io_ErrUnexpectedEOF), ("http2frames/pub/http2frames.ErrFrameTooLarge", laid_http2frames_pub_http2frames_ErrFrameTooLarge)], narrowed := true }
def FnBehindUptoSaid : Prop := fnBehindUptoRow.holds Tryz.pinned (OpenSpec.upto fnBehindSpec)

/-- 'laws.FnRead', WHERE WHAT IT READS IS OF BULK AT MOST 1048576: true; the input reads as it did. -/
def fnReadUptoRow : OpenClaim := { program := "ytfdlbjibninakaagreatdoor", sum := "66292048e7c77f44a4749165eb9df1a1f9c6d81d7d92f8cd19bcfb6a30a09f76", func := "http2frames/laws.FnRead", spec := "fnRead", inPlace := ["internal/reflectlite.TypeOf", "internal/reflectlite.ValueOf", "(internal/reflectlite.Value).Type", "(internal/reflectlite.Value).IsNil", "(internal/reflectlite.Value).Elem", "(internal/reflectlite.Value).Set"], unfollowed := true, recurses := true, named := ["http2frames/pub/http2frames.ErrFrameTooLarge", "encoding/binary.BigEndian", "io.ErrShortBuffer", "io.EOF", "io.ErrUnexpectedEOF", "errors.errorType"], apart := false, laid := [("errors.errorType", laid_errors_errorType), ("io.ErrShortBuffer", laid_io_ErrShortBuffer), ("io.EOF", laid_io_EOF), ("io.ErrUnexpectedEOF", laid_io_ErrUnexpectedEOF), ("http2frames/pub/http2frames.ErrFrameTooLarge", laid_http2frames_pub_http2frames_ErrFrameTooLarge)], narrowed := true }
def FnReadUptoSaid : Prop := fnReadUptoRow.holds Tryz.pinned (OpenSpec.upto fnReadSpec)

/-- 'laws.FnWrite', WHERE WHAT IT READS IS OF BULK AT MOST 1048576: true; the input reads as it did. -/
def fnWriteUptoRow : OpenClaim := { program := "ytfdlbjibninakaagreatdoor", sum := "66292048e7c77f44a4749165eb9df1a1f9c6d81d7d92f8cd19bcfb6a30a09f76", func := "http2frames/laws.FnWrite", spec := "fnWrite", inPlace := ["internal/reflectlite.TypeOf", "internal/reflectlite.ValueOf", "(internal/reflectlite.Value).Type", "(internal/reflectlite.Value).IsNil", "(internal/reflectlite.Value).Elem", "(internal/reflectlite.Value).Set"], unfollowed := true, recurses := true, named := ["http2frames/pub/http2frames.errStreamID", "http2frames/pub/http2frames.errPadLength", "http2frames/pub/http2frames.errPadBytes", "http2frames/pub/http2frames.ErrFrameTooLarge", "io.ErrShortWrite", "http2frames/pub/http2frames.errDepStreamID", "encoding/binary.BigEndian", "io.ErrShortBuffer", "io.EOF", "io.ErrUnexpectedEOF", "errors.errorType"], apart := false, laid := [("errors.errorType", laid_errors_errorType), ("io.ErrShortWrite", laid_io_ErrShortWrite), ("io.ErrShortBuffer", laid_io_ErrShortBuffer), ("io.EOF", laid_io_EOF), ("io.ErrUnexpectedEOF", laid_io_ErrUnexpectedEOF), ("http2frames/pub/http2frames.ErrFrameTooLarge", laid_http2frames_pub_http2frames_ErrFrameTooLarge), ("http2frames/pub/http2frames.errStreamID", laid_http2frames_pub_http2frames_errStreamID), ("http2frames/pub/http2frames.errDepStreamID", laid_http2frames_pub_http2frames_errDepStreamID), ("http2frames/pub/http2frames.errPadLength", laid_http2frames_pub_http2frames_errPadLength), ("http2frames/pub/http2frames.errPadBytes", laid_http2frames_pub_http2frames_errPadBytes)], narrowed := true }
def FnWriteUptoSaid : Prop := fnWriteUptoRow.holds Tryz.pinned (OpenSpec.upto fnWriteSpec)

/-- 'laws.FnWriteRead', WHERE WHAT IT READS IS OF BULK AT MOST 1048576: true; the input reads as it did. -/
def fnWriteReadUptoRow : OpenClaim := { program := "ytfdlbjibninakaagreatdoor", sum := "66292048e7c77f44a4749165eb9df1a1f9c6d81d7d92f8cd19bcfb6a30a09f76", func := "http2frames/laws.FnWriteRead", spec := "fnWriteRead", inPlace := ["internal/reflectlite.TypeOf", "internal/reflectlite.ValueOf", "(internal/reflectlite.Value).Type", "(internal/reflectlite.Value).IsNil", "(internal/reflectlite.Value).Elem", "(internal/reflectlite.Value).Set"], unfollowed := true, recurses := true, named := ["http2frames/pub/http2frames.errStreamID", "http2frames/pub/http2frames.errPadLength", "http2frames/pub/http2frames.errPadBytes", "http2frames/pub/http2frames.ErrFrameTooLarge", "io.ErrShortWrite", "http2frames/pub/http2frames.errDepStreamID", "encoding/binary.BigEndian", "io.ErrShortBuffer", "io.EOF", "io.ErrUnexpectedEOF", "errors.errorType"], apart := false, laid := [("errors.errorType", laid_errors_errorType), ("io.ErrShortWrite", laid_io_ErrShortWrite), ("io.ErrShortBuffer", laid_io_ErrShortBuffer), ("io.EOF", laid_io_EOF), ("io.ErrUnexpectedEOF", laid_io_ErrUnexpectedEOF), ("http2frames/pub/http2frames.ErrFrameTooLarge", laid_http2frames_pub_http2frames_ErrFrameTooLarge), ("http2frames/pub/http2frames.errStreamID", laid_http2frames_pub_http2frames_errStreamID), ("http2frames/pub/http2frames.errDepStreamID", laid_http2frames_pub_http2frames_errDepStreamID), ("http2frames/pub/http2frames.errPadLength", laid_http2frames_pub_http2frames_errPadLength), ("http2frames/pub/http2frames.errPadBytes", laid_http2frames_pub_http2frames_errPadBytes)], narrowed := true }
def FnWriteReadUptoSaid : Prop := fnWriteReadUptoRow.holds Tryz.pinned (OpenSpec.upto fnWriteReadSpec)

end Rows
end Go.Proofs.YtfdlbjibninakaaGreatDoor
