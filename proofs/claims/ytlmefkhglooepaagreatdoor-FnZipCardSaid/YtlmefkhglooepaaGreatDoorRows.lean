/-
  NARROWER THAN 'FOR EVERY INPUT', by the rows' own cells (each row's printed sentence says how): FnZip: ifaces, laid.
  DERIVED. THE GIVEN ROWS OF THIS SEAT. 1 by the template 'for every input the law returns true; each argument reads behind the call as it read before'; 0 by the template 'total and deterministic' (their statements: YtlmefkhglooepaaGreatDoorTotals.lean).
  GIVEN WITH THE SEED: the statements are not yours to turn. If you find one false, say at which input.
  Laid BY PROGRAM, IN A SANDBOX (cutbox-rows.mjs): the forced cells as the released guide's own fill.sh prints them over the translation c966bd586e21beca… (all of the seat's roots in one cut). By AI agents, Wed Nov 11 2026. No macro, syntax, notation, axiom, sorry.
-/
import Derived.Test.YtlmefkhglooepaaGreatDoorChecked
import GoSem.PinnedTables
import GoSem.Claim
import GoSem.ClaimJoined
import GoSem.ClaimMapViews
import Derived.JoinedTies
import Derived.KernelRfl
namespace Go.Proofs.YtlmefkhglooepaaGreatDoor
/- THE CELL 'sum', in the pinned program and in every row, IS THE sha256 OF THE DUMP (.gsa) THAT YtlmefkhglooepaaGreatDoorProg.lean LOADS. Nothing in Lean hashes anything: it is a label: what it is worth is what the hold of that sum in a sandbox is worth. -/
noncomputable def Tryz.pinned : Pinned := { name := "ytlmefkhglooepaagreatdoor", sum := "c966bd586e21becad9fc909d9e36f52f2de62676e5bcec2b98c09ab30db9b210", checked := Tryz.checked }
namespace Rows
def none {H : Type} : Left H := { results := [], args := [] }

/- WHAT THE LISTED PACKAGE-LEVEL VARIABLES READ AS WHEN THE CALL BEGINS. Each datum BY PROGRAM (the guide's laid-datum.mjs) off the statement by which the dump's own 'gosem.cut.vars' lays the variable. In a bare row this is a premise. The card (YtlmefkhglooepaaGreatDoorCards.lean) ties it to the program's text. -/
def laid_unicode_utf8_acceptRanges {H : Type} : DataW H := .agg [.agg [.lit (.int .u8 128), .lit (.int .u8 191)], .agg [.lit (.int .u8 160), .lit (.int .u8 191)], .agg [.lit (.int .u8 128), .lit (.int .u8 159)], .agg [.lit (.int .u8 144), .lit (.int .u8 191)], .agg [.lit (.int .u8 128), .lit (.int .u8 143)], .agg [.lit (.int .u8 0), .lit (.int .u8 0)], .agg [.lit (.int .u8 0), .lit (.int .u8 0)], .agg [.lit (.int .u8 0), .lit (.int .u8 0)], .agg [.lit (.int .u8 0), .lit (.int .u8 0)], .agg [.lit (.int .u8 0), .lit (.int .u8 0)], .agg [.lit (.int .u8 0), .lit (.int .u8 0)], .agg [.lit (.int .u8 0), .lit (.int .u8 0)], .agg [.lit (.int .u8 0), .lit (.int .u8 0)], .agg [.lit (.int .u8 0), .lit (.int .u8 0)], .agg [.lit (.int .u8 0), .lit (.int .u8 0)], .agg [.lit (.int .u8 0), .lit (.int .u8 0)]]
def laid_io_ErrShortWrite {H : Type} : DataW H := .iface "*errors.errorString" (.ptr (.agg [.lit (.string [115, 104, 111, 114, 116, 32, 119, 114, 105, 116, 101])]))
def laid_io_ErrShortBuffer {H : Type} : DataW H := .iface "*errors.errorString" (.ptr (.agg [.lit (.string [115, 104, 111, 114, 116, 32, 98, 117, 102, 102, 101, 114])]))
def laid_io_EOF {H : Type} : DataW H := .iface "*errors.errorString" (.ptr (.agg [.lit (.string [69, 79, 70])]))
def laid_io_ErrUnexpectedEOF {H : Type} : DataW H := .iface "*errors.errorString" (.ptr (.agg [.lit (.string [117, 110, 101, 120, 112, 101, 99, 116, 101, 100, 32, 69, 79, 70])]))
def laid_io_errWhence {H : Type} : DataW H := .iface "*errors.errorString" (.ptr (.agg [.lit (.string [83, 101, 101, 107, 58, 32, 105, 110, 118, 97, 108, 105, 100, 32, 119, 104, 101, 110, 99, 101])]))
def laid_io_errOffset {H : Type} : DataW H := .iface "*errors.errorString" (.ptr (.agg [.lit (.string [83, 101, 101, 107, 58, 32, 105, 110, 118, 97, 108, 105, 100, 32, 111, 102, 102, 115, 101, 116])]))
def laid_loop_example_pub_ziptheorem_pub_gozip_ErrFormat {H : Type} : DataW H := .iface "*errors.errorString" (.ptr (.agg [.lit (.string [122, 105, 112, 58, 32, 110, 111, 116, 32, 97, 32, 118, 97, 108, 105, 100, 32, 122, 105, 112, 32, 102, 105, 108, 101])]))
def laid_loop_example_pub_ziptheorem_pub_gozip_ErrAlgorithm {H : Type} : DataW H := .iface "*errors.errorString" (.ptr (.agg [.lit (.string [122, 105, 112, 58, 32, 117, 110, 115, 117, 112, 112, 111, 114, 116, 101, 100, 32, 99, 111, 109, 112, 114, 101, 115, 115, 105, 111, 110, 32, 97, 108, 103, 111, 114, 105, 116, 104, 109])]))
def laid_loop_example_pub_ziptheorem_pub_gozip_ErrChecksum {H : Type} : DataW H := .iface "*errors.errorString" (.ptr (.agg [.lit (.string [122, 105, 112, 58, 32, 99, 104, 101, 99, 107, 115, 117, 109, 32, 101, 114, 114, 111, 114])]))
def laid_loop_example_pub_ziptheorem_pub_gozip_ErrInsecurePath {H : Type} : DataW H := .iface "*errors.errorString" (.ptr (.agg [.lit (.string [122, 105, 112, 58, 32, 105, 110, 115, 101, 99, 117, 114, 101, 32, 102, 105, 108, 101, 32, 112, 97, 116, 104])]))
def laid_loop_example_pub_ziptheorem_pub_gozip_errLongName {H : Type} : DataW H := .iface "*errors.errorString" (.ptr (.agg [.lit (.string [122, 105, 112, 58, 32, 70, 105, 108, 101, 72, 101, 97, 100, 101, 114, 46, 78, 97, 109, 101, 32, 116, 111, 111, 32, 108, 111, 110, 103])]))
def laid_loop_example_pub_ziptheorem_pub_gozip_errLongExtra {H : Type} : DataW H := .iface "*errors.errorString" (.ptr (.agg [.lit (.string [122, 105, 112, 58, 32, 70, 105, 108, 101, 72, 101, 97, 100, 101, 114, 46, 69, 120, 116, 114, 97, 32, 116, 111, 111, 32, 108, 111, 110, 103])]))
/-- One of Go's own tables, pinned by name: the form's constant. -/
def laid_unicode_utf8_first : DataW Unit := Go.Pinned.utf8First

/-- 'laws.FnZip': WHATEVER THE INPUT: true; the input reads as it did. -/
def fnZipSpec : ChangeSpec := { name := "fnZip", vars := ["loop.example/pub-ziptheorem/pub/gozip.ErrInsecurePath", "loop.example/pub-ziptheorem/pub/gozip.ErrFormat", "loop.example/pub-ziptheorem/pub/gozip.ErrAlgorithm", "loop.example/pub-ziptheorem/pub/gozip.ErrChecksum", "loop.example/pub-ziptheorem/pub/gozip.errLongName", "loop.example/pub-ziptheorem/pub/gozip.errLongExtra"], fn := fun _ => fun
  | [d1, d2, g1, g2, g3, g4, g5, g6] => { results := [.lit (.bool true)], args := [d1, d2], vars := [g1, g2, g3, g4, g5, g6] }
  | _ => none }
def fnZipRow : OpenClaim := { program := "ytlmefkhglooepaagreatdoor", sum := "c966bd586e21becad9fc909d9e36f52f2de62676e5bcec2b98c09ab30db9b210", func := "loop.example/pub-ziptheorem/laws.FnZip", spec := "fnZip", unfollowed := true, recurses := true, named := ["loop.example/pub-ziptheorem/pub/gozip.ErrInsecurePath", "loop.example/pub-ziptheorem/pub/gozip.ErrFormat", "io.ErrUnexpectedEOF", "io.EOF", "io.ErrShortBuffer", "unicode/utf8.first", "unicode/utf8.acceptRanges", "io.errWhence", "io.errOffset", "loop.example/pub-ziptheorem/pub/gozip.ErrAlgorithm", "loop.example/pub-ziptheorem/pub/gozip.ErrChecksum", "loop.example/pub-ziptheorem/pub/gozip.errLongName", "loop.example/pub-ziptheorem/pub/gozip.errLongExtra", "io.ErrShortWrite"], ifaces := true, apart := false, laid := [("unicode/utf8.acceptRanges", laid_unicode_utf8_acceptRanges), ("io.ErrShortWrite", laid_io_ErrShortWrite), ("io.ErrShortBuffer", laid_io_ErrShortBuffer), ("io.EOF", laid_io_EOF), ("io.ErrUnexpectedEOF", laid_io_ErrUnexpectedEOF), ("io.errWhence", laid_io_errWhence), ("io.errOffset", laid_io_errOffset), ("loop.example/pub-ziptheorem/pub/gozip.ErrFormat", laid_loop_example_pub_ziptheorem_pub_gozip_ErrFormat), ("loop.example/pub-ziptheorem/pub/gozip.ErrAlgorithm", laid_loop_example_pub_ziptheorem_pub_gozip_ErrAlgorithm), ("loop.example/pub-ziptheorem/pub/gozip.ErrChecksum", laid_loop_example_pub_ziptheorem_pub_gozip_ErrChecksum), ("loop.example/pub-ziptheorem/pub/gozip.ErrInsecurePath", laid_loop_example_pub_ziptheorem_pub_gozip_ErrInsecurePath), ("loop.example/pub-ziptheorem/pub/gozip.errLongName", laid_loop_example_pub_ziptheorem_pub_gozip_errLongName), ("loop.example/pub-ziptheorem/pub/gozip.errLongExtra", laid_loop_example_pub_ziptheorem_pub_gozip_errLongExtra), ("unicode/utf8.first", laid_unicode_utf8_first)] }
def FnZipSaid : Prop := fnZipRow.holds Tryz.pinned (OpenSpec.ofChange fnZipSpec)

/-- ITS FALSE NEIGHBOUR: 'it returns false'. Refute it at one input. -/
def fnZipWrong : ChangeSpec := { name := "fnZip", vars := ["loop.example/pub-ziptheorem/pub/gozip.ErrInsecurePath", "loop.example/pub-ziptheorem/pub/gozip.ErrFormat", "loop.example/pub-ziptheorem/pub/gozip.ErrAlgorithm", "loop.example/pub-ziptheorem/pub/gozip.ErrChecksum", "loop.example/pub-ziptheorem/pub/gozip.errLongName", "loop.example/pub-ziptheorem/pub/gozip.errLongExtra"], fn := fun _ => fun
  | [d1, d2, g1, g2, g3, g4, g5, g6] => { results := [.lit (.bool false)], args := [d1, d2], vars := [g1, g2, g3, g4, g5, g6] }
  | _ => none }
def FnZipWrongFalsely : Prop := fnZipRow.holds Tryz.pinned (OpenSpec.ofChange fnZipWrong)

/- THE SECOND FORM. 'bulk': how many values and letters a reading holds, each counted each time it is reached (what is shared counts as often as it is met; a slice's spare places count too). A statement '..UptoSaid' is the law's where the arguments, and the package variables that the reading takes, are together of bulk at most 1048576: NARROWER than '..Said'. Prove '..Said' where nothing that the law and all that it calls make is longer than what came in: it says more and counts as full. Else prove '..UptoSaid'. A law counts once. -/
mutual
def uptoBulk {H : Type} : DataW H → Nat
  | .lit (.string bytes) => bytes.length + 1
  | .lit _ => 1
  | .nil => 1
  | .ptr d => uptoBulk d + 1
  | .slice elems spare => uptoBulkAll elems + uptoBulkAll spare + 1
  | .agg parts => uptoBulkAll parts + 1
  | .iface _ d => uptoBulk d + 1
  | .map entries => uptoBulkEntries entries + 1
  | .held _ => 1
def uptoBulkAll {H : Type} : List (DataW H) → Nat
  | [] => 0
  | d :: r => uptoBulk d + uptoBulkAll r
def uptoBulkEntries {H : Type} : List (Lit × DataW H) → Nat
  | [] => 0
  | x :: r => uptoBulkEntry x + uptoBulkEntries r
def uptoBulkEntry {H : Type} : Lit × DataW H → Nat
  | (.string bytes, d) => bytes.length + uptoBulk d + 1
  | (_, d) => uptoBulk d + 1
 end
def uptoSmall : (H : Type) → List (DataW H) → Bool := fun _ ds => decide (uptoBulkAll ds ≤ 1048576)
def OpenSpec.upto (s : _root_.Go.ChangeSpec) : _root_.Go.OpenSpec := { _root_.Go.OpenSpec.ofChange s with cond := some uptoSmall }

/-- 'laws.FnZip', WHERE WHAT IT READS IS OF BULK AT MOST 1048576: true; the input reads as it did. -/
def fnZipUptoRow : OpenClaim := { program := "ytlmefkhglooepaagreatdoor", sum := "c966bd586e21becad9fc909d9e36f52f2de62676e5bcec2b98c09ab30db9b210", func := "loop.example/pub-ziptheorem/laws.FnZip", spec := "fnZip", unfollowed := true, recurses := true, named := ["loop.example/pub-ziptheorem/pub/gozip.ErrInsecurePath", "loop.example/pub-ziptheorem/pub/gozip.ErrFormat", "io.ErrUnexpectedEOF", "io.EOF", "io.ErrShortBuffer", "unicode/utf8.first", "unicode/utf8.acceptRanges", "io.errWhence", "io.errOffset", "loop.example/pub-ziptheorem/pub/gozip.ErrAlgorithm", "loop.example/pub-ziptheorem/pub/gozip.ErrChecksum", "loop.example/pub-ziptheorem/pub/gozip.errLongName", "loop.example/pub-ziptheorem/pub/gozip.errLongExtra", "io.ErrShortWrite"], ifaces := true, apart := false, laid := [("unicode/utf8.acceptRanges", laid_unicode_utf8_acceptRanges), ("io.ErrShortWrite", laid_io_ErrShortWrite), ("io.ErrShortBuffer", laid_io_ErrShortBuffer), ("io.EOF", laid_io_EOF), ("io.ErrUnexpectedEOF", laid_io_ErrUnexpectedEOF), ("io.errWhence", laid_io_errWhence), ("io.errOffset", laid_io_errOffset), ("loop.example/pub-ziptheorem/pub/gozip.ErrFormat", laid_loop_example_pub_ziptheorem_pub_gozip_ErrFormat), ("loop.example/pub-ziptheorem/pub/gozip.ErrAlgorithm", laid_loop_example_pub_ziptheorem_pub_gozip_ErrAlgorithm), ("loop.example/pub-ziptheorem/pub/gozip.ErrChecksum", laid_loop_example_pub_ziptheorem_pub_gozip_ErrChecksum), ("loop.example/pub-ziptheorem/pub/gozip.ErrInsecurePath", laid_loop_example_pub_ziptheorem_pub_gozip_ErrInsecurePath), ("loop.example/pub-ziptheorem/pub/gozip.errLongName", laid_loop_example_pub_ziptheorem_pub_gozip_errLongName), ("loop.example/pub-ziptheorem/pub/gozip.errLongExtra", laid_loop_example_pub_ziptheorem_pub_gozip_errLongExtra), ("unicode/utf8.first", laid_unicode_utf8_first)], narrowed := true }
def FnZipUptoSaid : Prop := fnZipUptoRow.holds Tryz.pinned (OpenSpec.upto fnZipSpec)

end Rows
end Go.Proofs.YtlmefkhglooepaaGreatDoor
