/-
  NARROWER THAN 'FOR EVERY INPUT', by the rows' own cells (each row's printed sentence says how): FnWireNumberPieces: laid · FnWireStringPieces: ifaces, laid.
  DERIVED. THE GIVEN ROWS OF THIS SEAT. 2 by the template 'for every input the law returns true; each argument reads behind the call as it read before'; 0 by the template 'total and deterministic' (their statements: YtifemmjblamfkaaDoorTotals.lean).
  GIVEN WITH THE SEED: the statements are not yours to turn. If you find one false, say at which input.
  Laid BY PROGRAM, IN A SANDBOX (cutbox-rows.mjs): the forced cells as the released guide's own fill.sh prints them over the translation 6ac60c300344b8cc… (all of the seat's roots in one cut). By AI agents, Wed Nov 11 2026. No macro, syntax, notation, axiom, sorry.
-/
import Derived.Test.YtifemmjblamfkaaDoorChecked
import GoSem.PinnedTables
import GoSem.Claim
import GoSem.ClaimJoined
import GoSem.ClaimMapViews
import Derived.JoinedTies
import Derived.KernelRfl
namespace Go.Proofs.YtifemmjblamfkaaDoor
/- THE CELL 'sum', in the pinned program and in every row, IS THE sha256 OF THE DUMP (.gsa) THAT YtifemmjblamfkaaDoorProg.lean LOADS. Nothing in Lean hashes anything: it is a label: what it is worth is what the hold of that sum in a sandbox is worth. -/
noncomputable def Tryd.pinned : Pinned := { name := "ytifemmjblamfkaadoor", sum := "6ac60c300344b8cccb88ba2369c0a7ff2f743d79dfabcc463091735c5d650fee", checked := Tryd.checked }
namespace Rows
def none {H : Type} : Left H := { results := [], args := [] }

/- WHAT THE LISTED PACKAGE-LEVEL VARIABLES READ AS WHEN THE CALL BEGINS. Each datum BY PROGRAM (the guide's laid-datum.mjs) off the statement by which the dump's own 'gosem.cut.vars' lays the variable. In a bare row this is a premise. The card (YtifemmjblamfkaaDoorCards.lean) ties it to the program's text. -/
def laid_unicode_utf8_acceptRanges {H : Type} : DataW H := .agg [.agg [.lit (.int .u8 128), .lit (.int .u8 191)], .agg [.lit (.int .u8 160), .lit (.int .u8 191)], .agg [.lit (.int .u8 128), .lit (.int .u8 159)], .agg [.lit (.int .u8 144), .lit (.int .u8 191)], .agg [.lit (.int .u8 128), .lit (.int .u8 143)], .agg [.lit (.int .u8 0), .lit (.int .u8 0)], .agg [.lit (.int .u8 0), .lit (.int .u8 0)], .agg [.lit (.int .u8 0), .lit (.int .u8 0)], .agg [.lit (.int .u8 0), .lit (.int .u8 0)], .agg [.lit (.int .u8 0), .lit (.int .u8 0)], .agg [.lit (.int .u8 0), .lit (.int .u8 0)], .agg [.lit (.int .u8 0), .lit (.int .u8 0)], .agg [.lit (.int .u8 0), .lit (.int .u8 0)], .agg [.lit (.int .u8 0), .lit (.int .u8 0)], .agg [.lit (.int .u8 0), .lit (.int .u8 0)], .agg [.lit (.int .u8 0), .lit (.int .u8 0)]]
def laid_io_ErrUnexpectedEOF {H : Type} : DataW H := .iface "*errors.errorString" (.ptr (.agg [.lit (.string [117, 110, 101, 120, 112, 101, 99, 116, 101, 100, 32, 69, 79, 70])]))
/-- One of Go's own tables, pinned by name: the form's constant. -/
def laid_unicode_utf8_first : DataW Unit := Go.Pinned.utf8First
def laid_loop_example_pub_g01450_pub_jsontext_internal_jsonwire_ErrInvalidUTF8 {H : Type} : DataW H := .iface "*errors.errorString" (.ptr (.agg [.lit (.string [105, 110, 118, 97, 108, 105, 100, 32, 85, 84, 70, 45, 56])]))

/-- 'laws.FnWireNumberPieces': WHATEVER THE INPUT: true; the input reads as it did. -/
def fnWireNumberPiecesSpec : ChangeSpec := { name := "fnWireNumberPieces", fn := fun _ => fun
  | [d1, d2] => { results := [.lit (.bool true)], args := [d1, d2] }
  | _ => none }
def fnWireNumberPiecesRow : OpenClaim := { program := "ytifemmjblamfkaadoor", sum := "6ac60c300344b8cccb88ba2369c0a7ff2f743d79dfabcc463091735c5d650fee", func := "loop.example/pub-g01450/laws.FnWireNumberPieces", spec := "fnWireNumberPieces", inPlace := ["internal/reflectlite.TypeOf"], unfollowed := true, recurses := true, named := ["io.ErrUnexpectedEOF", "unicode/utf8.first", "unicode/utf8.acceptRanges"], apart := false, laid := [("unicode/utf8.acceptRanges", laid_unicode_utf8_acceptRanges), ("io.ErrUnexpectedEOF", laid_io_ErrUnexpectedEOF), ("unicode/utf8.first", laid_unicode_utf8_first)] }
def FnWireNumberPiecesSaid : Prop := fnWireNumberPiecesRow.holds Tryd.pinned (OpenSpec.ofChange fnWireNumberPiecesSpec)

/-- ITS FALSE NEIGHBOUR: 'it returns false'. Refute it at one input. -/
def fnWireNumberPiecesWrong : ChangeSpec := { name := "fnWireNumberPieces", fn := fun _ => fun
  | [d1, d2] => { results := [.lit (.bool false)], args := [d1, d2] }
  | _ => none }
def FnWireNumberPiecesWrongFalsely : Prop := fnWireNumberPiecesRow.holds Tryd.pinned (OpenSpec.ofChange fnWireNumberPiecesWrong)

/-- 'laws.FnWireStringPieces': WHATEVER THE INPUT: true; the input reads as it did. -/
def fnWireStringPiecesSpec : ChangeSpec := { name := "fnWireStringPieces", vars := ["loop.example/pub-g01450/pub/jsontext_internal_jsonwire.ErrInvalidUTF8"], fn := fun _ => fun
  | [d1, d2, d3, g1] => { results := [.lit (.bool true)], args := [d1, d2, d3], vars := [g1] }
  | _ => none }
def fnWireStringPiecesRow : OpenClaim := { program := "ytifemmjblamfkaadoor", sum := "6ac60c300344b8cccb88ba2369c0a7ff2f743d79dfabcc463091735c5d650fee", func := "loop.example/pub-g01450/laws.FnWireStringPieces", spec := "fnWireStringPieces", inPlace := ["internal/reflectlite.TypeOf"], unfollowed := true, recurses := true, named := ["io.ErrUnexpectedEOF", "loop.example/pub-g01450/pub/jsontext_internal_jsonwire.ErrInvalidUTF8", "unicode/utf8.first", "unicode/utf8.acceptRanges"], ifaces := true, apart := false, laid := [("unicode/utf8.acceptRanges", laid_unicode_utf8_acceptRanges), ("io.ErrUnexpectedEOF", laid_io_ErrUnexpectedEOF), ("loop.example/pub-g01450/pub/jsontext_internal_jsonwire.ErrInvalidUTF8", laid_loop_example_pub_g01450_pub_jsontext_internal_jsonwire_ErrInvalidUTF8), ("unicode/utf8.first", laid_unicode_utf8_first)] }
def FnWireStringPiecesSaid : Prop := fnWireStringPiecesRow.holds Tryd.pinned (OpenSpec.ofChange fnWireStringPiecesSpec)

/-- ITS FALSE NEIGHBOUR: 'it returns false'. Refute it at one input. -/
def fnWireStringPiecesWrong : ChangeSpec := { name := "fnWireStringPieces", vars := ["loop.example/pub-g01450/pub/jsontext_internal_jsonwire.ErrInvalidUTF8"], fn := fun _ => fun
  | [d1, d2, d3, g1] => { results := [.lit (.bool false)], args := [d1, d2, d3], vars := [g1] }
  | _ => none }
def FnWireStringPiecesWrongFalsely : Prop := fnWireStringPiecesRow.holds Tryd.pinned (OpenSpec.ofChange fnWireStringPiecesWrong)

/- THE SECOND FORM. 'bulk': how many values and letters a reading holds, each counted each time it is reached (what is shared counts as often as it is met; a slice's spare places count too). A statement '..UptoSaid' is the law's where the arguments, and the package variables that the reading takes, are together of bulk at most 1048576: NARROWER than '..Said'. Prove '..Said' where nothing that the law and all that it calls make is longer than what came in: it says more and counts as full. Else prove '..UptoSaid'. A law counts once. -/
mutual
def uptoBulk {H : Type} : DataW H → Nat
  | .lit (.string bytes) => bytes.length + 1
  | .lit _ => 1
  | .nil => 1
  | .ptr d => uptoBulk d + 1
  | .slice elems spare => uptoBulkAll elems + uptoBulkAll spare + 1
  | .agg parts => uptoBulkAll parts + 1
  | .iface _ d => uptoBulk d + 1
  | .map entries => uptoBulkEntries entries + 1
  | .held _ => 1
def uptoBulkAll {H : Type} : List (DataW H) → Nat
  | [] => 0
  | d :: r => uptoBulk d + uptoBulkAll r
def uptoBulkEntries {H : Type} : List (Lit × DataW H) → Nat
  | [] => 0
  | x :: r => uptoBulkEntry x + uptoBulkEntries r
def uptoBulkEntry {H : Type} : Lit × DataW H → Nat
  | (.string bytes, d) => bytes.length + uptoBulk d + 1
  | (_, d) => uptoBulk d + 1
 end
def uptoSmall : (H : Type) → List (DataW H) → Bool := fun _ ds => decide (uptoBulkAll ds ≤ 1048576)
def OpenSpec.upto (s : _root_.Go.ChangeSpec) : _root_.Go.OpenSpec := { _root_.Go.OpenSpec.ofChange s with cond := some uptoSmall }

/-- 'laws.FnWireNumberPieces', WHERE WHAT IT READS IS OF BULK AT MOST 1048576: true; the input reads as it did. -/
def fnWireNumberPiecesUptoRow : OpenClaim := { program := "ytifemmjblamfkaadoor", sum := "6ac60c300344b8cccb88ba2369c0a7ff2f743d79dfabcc463091735c5d650fee", func := "loop.example/pub-g01450/laws.FnWireNumberPieces", spec := "fnWireNumberPieces", inPlace := ["internal/reflectlite.TypeOf"], unfollowed := true, recurses := true, named := ["io.ErrUnexpectedEOF", "unicode/utf8.first", "unicode/utf8.acceptRanges"], apart := false, laid := [("unicode/utf8.acceptRanges", laid_unicode_utf8_acceptRanges), ("io.ErrUnexpectedEOF", laid_io_ErrUnexpectedEOF), ("unicode/utf8.first", laid_unicode_utf8_first)], narrowed := true }
def FnWireNumberPiecesUptoSaid : Prop := fnWireNumberPiecesUptoRow.holds Tryd.pinned (OpenSpec.upto fnWireNumberPiecesSpec)

/-- 'laws.FnWireStringPieces', WHERE WHAT IT READS IS OF BULK AT MOST 1048576: true; the input reads as it did. -/
def fnWireStringPiecesUptoRow : OpenClaim := { program := "ytifemmjblamfkaadoor", sum := "6ac60c300344b8cccb88ba2369c0a7ff2f743d79dfabcc463091735c5d650fee", func := "loop.example/pub-g01450/laws.FnWireStringPieces", spec := "fnWireStringPieces", inPlace := ["internal/reflectlite.TypeOf"], unfollowed := true, recurses := true, named := ["io.ErrUnexpectedEOF", "loop.example/pub-g01450/pub/jsontext_internal_jsonwire.ErrInvalidUTF8", "unicode/utf8.first", "unicode/utf8.acceptRanges"], ifaces := true, apart := false, laid := [("unicode/utf8.acceptRanges", laid_unicode_utf8_acceptRanges), ("io.ErrUnexpectedEOF", laid_io_ErrUnexpectedEOF), ("loop.example/pub-g01450/pub/jsontext_internal_jsonwire.ErrInvalidUTF8", laid_loop_example_pub_g01450_pub_jsontext_internal_jsonwire_ErrInvalidUTF8), ("unicode/utf8.first", laid_unicode_utf8_first)], narrowed := true }
def FnWireStringPiecesUptoSaid : Prop := fnWireStringPiecesUptoRow.holds Tryd.pinned (OpenSpec.upto fnWireStringPiecesSpec)

end Rows
end Go.Proofs.YtifemmjblamfkaaDoor
