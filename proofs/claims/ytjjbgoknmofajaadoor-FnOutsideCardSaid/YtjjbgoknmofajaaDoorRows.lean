/-
  NARROWER THAN 'FOR EVERY INPUT', by the rows' own cells (each row's printed sentence says how): FnNeedsEscape: laid · FnQuoteBy: ifaces, laid · FnUnquoted: ifaces, laid · FnOutside: ifaces, laid · FnQuotePlain: ifaces, laid · FnBytes: ifaces, laid.
  DERIVED. THE GIVEN ROWS OF THIS SEAT. 6 by the template 'for every input the law returns true; each argument reads behind the call as it read before'; 0 by the template 'total and deterministic' (their statements: YtjjbgoknmofajaaDoorTotals.lean).
  GIVEN WITH THE SEED: the statements are not yours to turn. If you find one false, say at which input.
  Laid BY PROGRAM, IN A SANDBOX (cutbox-rows.mjs): the forced cells as the released guide's own fill.sh prints them over the translation 026e02d4befd65b9… (all of the seat's roots in one cut). By AI agents, Wed Nov 11 2026. No macro, syntax, notation, axiom, sorry.
-/
import Derived.Test.YtjjbgoknmofajaaDoorChecked
import GoSem.PinnedTables
import GoSem.Claim
import GoSem.ClaimJoined
import GoSem.ClaimMapViews
import Derived.JoinedTies
import Derived.KernelRfl
namespace Go.Proofs.YtjjbgoknmofajaaDoor
/- THE CELL 'sum', in the pinned program and in every row, IS THE sha256 OF THE DUMP (.gsa) THAT YtjjbgoknmofajaaDoorProg.lean LOADS. Nothing in Lean hashes anything: it is a label: what it is worth is what the hold of that sum in a sandbox is worth. -/
noncomputable def Tryd.pinned : Pinned := { name := "ytjjbgoknmofajaadoor", sum := "026e02d4befd65b9669ee75a67950759add8e75d250b4eb5786af03c151ca44a", checked := Tryd.checked }
namespace Rows
def none {H : Type} : Left H := { results := [], args := [] }

/- WHAT THE LISTED PACKAGE-LEVEL VARIABLES READ AS WHEN THE CALL BEGINS. Each datum BY PROGRAM (the guide's laid-datum.mjs) off the statement by which the dump's own 'gosem.cut.vars' lays the variable. In a bare row this is a premise. The card (YtjjbgoknmofajaaDoorCards.lean) ties it to the program's text. -/
def laid_unicode_utf8_acceptRanges {H : Type} : DataW H := .agg [.agg [.lit (.int .u8 128), .lit (.int .u8 191)], .agg [.lit (.int .u8 160), .lit (.int .u8 191)], .agg [.lit (.int .u8 128), .lit (.int .u8 159)], .agg [.lit (.int .u8 144), .lit (.int .u8 191)], .agg [.lit (.int .u8 128), .lit (.int .u8 143)], .agg [.lit (.int .u8 0), .lit (.int .u8 0)], .agg [.lit (.int .u8 0), .lit (.int .u8 0)], .agg [.lit (.int .u8 0), .lit (.int .u8 0)], .agg [.lit (.int .u8 0), .lit (.int .u8 0)], .agg [.lit (.int .u8 0), .lit (.int .u8 0)], .agg [.lit (.int .u8 0), .lit (.int .u8 0)], .agg [.lit (.int .u8 0), .lit (.int .u8 0)], .agg [.lit (.int .u8 0), .lit (.int .u8 0)], .agg [.lit (.int .u8 0), .lit (.int .u8 0)], .agg [.lit (.int .u8 0), .lit (.int .u8 0)], .agg [.lit (.int .u8 0), .lit (.int .u8 0)]]
def laid_loop_example_pub_g01450_pub_jsontext_internal_jsonwire_escapeASCII {H : Type} : DataW H := .agg [.lit (.int .u8 1), .lit (.int .u8 1), .lit (.int .u8 1), .lit (.int .u8 1), .lit (.int .u8 1), .lit (.int .u8 1), .lit (.int .u8 1), .lit (.int .u8 1), .lit (.int .u8 1), .lit (.int .u8 1), .lit (.int .u8 1), .lit (.int .u8 1), .lit (.int .u8 1), .lit (.int .u8 1), .lit (.int .u8 1), .lit (.int .u8 1), .lit (.int .u8 1), .lit (.int .u8 1), .lit (.int .u8 1), .lit (.int .u8 1), .lit (.int .u8 1), .lit (.int .u8 1), .lit (.int .u8 1), .lit (.int .u8 1), .lit (.int .u8 1), .lit (.int .u8 1), .lit (.int .u8 1), .lit (.int .u8 1), .lit (.int .u8 1), .lit (.int .u8 1), .lit (.int .u8 1), .lit (.int .u8 1), .lit (.int .u8 0), .lit (.int .u8 0), .lit (.int .u8 1), .lit (.int .u8 0), .lit (.int .u8 0), .lit (.int .u8 0), .lit (.int .u8 1), .lit (.int .u8 0), .lit (.int .u8 0), .lit (.int .u8 0), .lit (.int .u8 0), .lit (.int .u8 0), .lit (.int .u8 0), .lit (.int .u8 0), .lit (.int .u8 0), .lit (.int .u8 0), .lit (.int .u8 0), .lit (.int .u8 0), .lit (.int .u8 0), .lit (.int .u8 0), .lit (.int .u8 0), .lit (.int .u8 0), .lit (.int .u8 0), .lit (.int .u8 0), .lit (.int .u8 0), .lit (.int .u8 0), .lit (.int .u8 0), .lit (.int .u8 0), .lit (.int .u8 1), .lit (.int .u8 0), .lit (.int .u8 1), .lit (.int .u8 0), .lit (.int .u8 0), .lit (.int .u8 0), .lit (.int .u8 0), .lit (.int .u8 0), .lit (.int .u8 0), .lit (.int .u8 0), .lit (.int .u8 0), .lit (.int .u8 0), .lit (.int .u8 0), .lit (.int .u8 0), .lit (.int .u8 0), .lit (.int .u8 0), .lit (.int .u8 0), .lit (.int .u8 0), .lit (.int .u8 0), .lit (.int .u8 0), .lit (.int .u8 0), .lit (.int .u8 0), .lit (.int .u8 0), .lit (.int .u8 0), .lit (.int .u8 0), .lit (.int .u8 0), .lit (.int .u8 0), .lit (.int .u8 0), .lit (.int .u8 0), .lit (.int .u8 0), .lit (.int .u8 0), .lit (.int .u8 0), .lit (.int .u8 1), .lit (.int .u8 0), .lit (.int .u8 0), .lit (.int .u8 0), .lit (.int .u8 0), .lit (.int .u8 0), .lit (.int .u8 0), .lit (.int .u8 0), .lit (.int .u8 0), .lit (.int .u8 0), .lit (.int .u8 0), .lit (.int .u8 0), .lit (.int .u8 0), .lit (.int .u8 0), .lit (.int .u8 0), .lit (.int .u8 0), .lit (.int .u8 0), .lit (.int .u8 0), .lit (.int .u8 0), .lit (.int .u8 0), .lit (.int .u8 0), .lit (.int .u8 0), .lit (.int .u8 0), .lit (.int .u8 0), .lit (.int .u8 0), .lit (.int .u8 0), .lit (.int .u8 0), .lit (.int .u8 0), .lit (.int .u8 0), .lit (.int .u8 0), .lit (.int .u8 0), .lit (.int .u8 0), .lit (.int .u8 0), .lit (.int .u8 0), .lit (.int .u8 0), .lit (.int .u8 0)]
/-- One of Go's own tables, pinned by name: the form's constant. -/
def laid_unicode_utf8_first : DataW Unit := Go.Pinned.utf8First
def laid_loop_example_pub_g01450_pub_jsontext_internal_jsonwire_ErrInvalidUTF8 {H : Type} : DataW H := .iface "*errors.errorString" (.ptr (.agg [.lit (.string [105, 110, 118, 97, 108, 105, 100, 32, 85, 84, 70, 45, 56])]))
def laid_io_ErrUnexpectedEOF {H : Type} : DataW H := .iface "*errors.errorString" (.ptr (.agg [.lit (.string [117, 110, 101, 120, 112, 101, 99, 116, 101, 100, 32, 69, 79, 70])]))

/-- 'laws.FnNeedsEscape': WHATEVER THE INPUT: true; the input reads as it did. -/
def fnNeedsEscapeSpec : ChangeSpec := { name := "fnNeedsEscape", vars := ["loop.example/pub-g01450/pub/jsontext_internal_jsonwire.escapeASCII"], fn := fun _ => fun
  | [d, g1] => { results := [.lit (.bool true)], args := [d], vars := [g1] }
  | _ => none }
def fnNeedsEscapeRow : OpenClaim := { program := "ytjjbgoknmofajaadoor", sum := "026e02d4befd65b9669ee75a67950759add8e75d250b4eb5786af03c151ca44a", func := "loop.example/pub-g01450/laws.FnNeedsEscape", spec := "fnNeedsEscape", named := ["loop.example/pub-g01450/pub/jsontext_internal_jsonwire.escapeASCII", "unicode/utf8.first", "unicode/utf8.acceptRanges"], apart := false, laid := [("unicode/utf8.acceptRanges", laid_unicode_utf8_acceptRanges), ("loop.example/pub-g01450/pub/jsontext_internal_jsonwire.escapeASCII", laid_loop_example_pub_g01450_pub_jsontext_internal_jsonwire_escapeASCII), ("unicode/utf8.first", laid_unicode_utf8_first)] }
def FnNeedsEscapeSaid : Prop := fnNeedsEscapeRow.holds Tryd.pinned (OpenSpec.ofChange fnNeedsEscapeSpec)

/-- ITS FALSE NEIGHBOUR: 'it returns false'. Refute it at one input. -/
def fnNeedsEscapeWrong : ChangeSpec := { name := "fnNeedsEscape", vars := ["loop.example/pub-g01450/pub/jsontext_internal_jsonwire.escapeASCII"], fn := fun _ => fun
  | [d, g1] => { results := [.lit (.bool false)], args := [d], vars := [g1] }
  | _ => none }
def FnNeedsEscapeWrongFalsely : Prop := fnNeedsEscapeRow.holds Tryd.pinned (OpenSpec.ofChange fnNeedsEscapeWrong)

/-- 'laws.FnQuoteBy': WHATEVER THE INPUT: true; the input reads as it did. -/
def fnQuoteBySpec : ChangeSpec := { name := "fnQuoteBy", vars := ["loop.example/pub-g01450/pub/jsontext_internal_jsonwire.escapeASCII", "loop.example/pub-g01450/pub/jsontext_internal_jsonwire.ErrInvalidUTF8"], fn := fun _ => fun
  | [d1, d2, d3, g1, g2] => { results := [.lit (.bool true)], args := [d1, d2, d3], vars := [g1, g2] }
  | _ => none }
def fnQuoteByRow : OpenClaim := { program := "ytjjbgoknmofajaadoor", sum := "026e02d4befd65b9669ee75a67950759add8e75d250b4eb5786af03c151ca44a", func := "loop.example/pub-g01450/laws.FnQuoteBy", spec := "fnQuoteBy", named := ["loop.example/pub-g01450/pub/jsontext_internal_jsonwire.escapeASCII", "loop.example/pub-g01450/pub/jsontext_internal_jsonwire.ErrInvalidUTF8", "unicode/utf8.first", "unicode/utf8.acceptRanges"], ifaces := true, apart := false, laid := [("unicode/utf8.acceptRanges", laid_unicode_utf8_acceptRanges), ("loop.example/pub-g01450/pub/jsontext_internal_jsonwire.escapeASCII", laid_loop_example_pub_g01450_pub_jsontext_internal_jsonwire_escapeASCII), ("loop.example/pub-g01450/pub/jsontext_internal_jsonwire.ErrInvalidUTF8", laid_loop_example_pub_g01450_pub_jsontext_internal_jsonwire_ErrInvalidUTF8), ("unicode/utf8.first", laid_unicode_utf8_first)] }
def FnQuoteBySaid : Prop := fnQuoteByRow.holds Tryd.pinned (OpenSpec.ofChange fnQuoteBySpec)

/-- ITS FALSE NEIGHBOUR: 'it returns false'. Refute it at one input. -/
def fnQuoteByWrong : ChangeSpec := { name := "fnQuoteBy", vars := ["loop.example/pub-g01450/pub/jsontext_internal_jsonwire.escapeASCII", "loop.example/pub-g01450/pub/jsontext_internal_jsonwire.ErrInvalidUTF8"], fn := fun _ => fun
  | [d1, d2, d3, g1, g2] => { results := [.lit (.bool false)], args := [d1, d2, d3], vars := [g1, g2] }
  | _ => none }
def FnQuoteByWrongFalsely : Prop := fnQuoteByRow.holds Tryd.pinned (OpenSpec.ofChange fnQuoteByWrong)

/-- 'laws.FnUnquoted': WHATEVER THE INPUT: true; the input reads as it did. -/
def fnUnquotedSpec : ChangeSpec := { name := "fnUnquoted", vars := ["loop.example/pub-g01450/pub/jsontext_internal_jsonwire.ErrInvalidUTF8"], fn := fun _ => fun
  | [d, g1] => { results := [.lit (.bool true)], args := [d], vars := [g1] }
  | _ => none }
def fnUnquotedRow : OpenClaim := { program := "ytjjbgoknmofajaadoor", sum := "026e02d4befd65b9669ee75a67950759add8e75d250b4eb5786af03c151ca44a", func := "loop.example/pub-g01450/laws.FnUnquoted", spec := "fnUnquoted", unfollowed := true, recurses := true, named := ["io.ErrUnexpectedEOF", "loop.example/pub-g01450/pub/jsontext_internal_jsonwire.ErrInvalidUTF8", "unicode/utf8.first", "unicode/utf8.acceptRanges"], ifaces := true, apart := false, laid := [("unicode/utf8.acceptRanges", laid_unicode_utf8_acceptRanges), ("io.ErrUnexpectedEOF", laid_io_ErrUnexpectedEOF), ("loop.example/pub-g01450/pub/jsontext_internal_jsonwire.ErrInvalidUTF8", laid_loop_example_pub_g01450_pub_jsontext_internal_jsonwire_ErrInvalidUTF8), ("unicode/utf8.first", laid_unicode_utf8_first)] }
def FnUnquotedSaid : Prop := fnUnquotedRow.holds Tryd.pinned (OpenSpec.ofChange fnUnquotedSpec)

/-- ITS FALSE NEIGHBOUR: 'it returns false'. Refute it at one input. -/
def fnUnquotedWrong : ChangeSpec := { name := "fnUnquoted", vars := ["loop.example/pub-g01450/pub/jsontext_internal_jsonwire.ErrInvalidUTF8"], fn := fun _ => fun
  | [d, g1] => { results := [.lit (.bool false)], args := [d], vars := [g1] }
  | _ => none }
def FnUnquotedWrongFalsely : Prop := fnUnquotedRow.holds Tryd.pinned (OpenSpec.ofChange fnUnquotedWrong)

/-- 'laws.FnOutside': WHATEVER THE INPUT: true; the input reads as it did. -/
def fnOutsideSpec : ChangeSpec := { name := "fnOutside", vars := ["loop.example/pub-g01450/pub/jsontext_internal_jsonwire.escapeASCII", "loop.example/pub-g01450/pub/jsontext_internal_jsonwire.ErrInvalidUTF8"], fn := fun _ => fun
  | [d1, d2, d3, g1, g2] => { results := [.lit (.bool true)], args := [d1, d2, d3], vars := [g1, g2] }
  | _ => none }
def fnOutsideRow : OpenClaim := { program := "ytjjbgoknmofajaadoor", sum := "026e02d4befd65b9669ee75a67950759add8e75d250b4eb5786af03c151ca44a", func := "loop.example/pub-g01450/laws.FnOutside", spec := "fnOutside", unfollowed := true, recurses := true, named := ["loop.example/pub-g01450/pub/jsontext_internal_jsonwire.escapeASCII", "loop.example/pub-g01450/pub/jsontext_internal_jsonwire.ErrInvalidUTF8", "unicode/utf8.first", "unicode/utf8.acceptRanges", "io.ErrUnexpectedEOF"], ifaces := true, apart := false, laid := [("unicode/utf8.acceptRanges", laid_unicode_utf8_acceptRanges), ("io.ErrUnexpectedEOF", laid_io_ErrUnexpectedEOF), ("loop.example/pub-g01450/pub/jsontext_internal_jsonwire.escapeASCII", laid_loop_example_pub_g01450_pub_jsontext_internal_jsonwire_escapeASCII), ("loop.example/pub-g01450/pub/jsontext_internal_jsonwire.ErrInvalidUTF8", laid_loop_example_pub_g01450_pub_jsontext_internal_jsonwire_ErrInvalidUTF8), ("unicode/utf8.first", laid_unicode_utf8_first)] }
def FnOutsideSaid : Prop := fnOutsideRow.holds Tryd.pinned (OpenSpec.ofChange fnOutsideSpec)

/-- ITS FALSE NEIGHBOUR: 'it returns false'. Refute it at one input. -/
def fnOutsideWrong : ChangeSpec := { name := "fnOutside", vars := ["loop.example/pub-g01450/pub/jsontext_internal_jsonwire.escapeASCII", "loop.example/pub-g01450/pub/jsontext_internal_jsonwire.ErrInvalidUTF8"], fn := fun _ => fun
  | [d1, d2, d3, g1, g2] => { results := [.lit (.bool false)], args := [d1, d2, d3], vars := [g1, g2] }
  | _ => none }
def FnOutsideWrongFalsely : Prop := fnOutsideRow.holds Tryd.pinned (OpenSpec.ofChange fnOutsideWrong)

/-- 'laws.FnQuotePlain': WHATEVER THE INPUT: true; the input reads as it did. -/
def fnQuotePlainSpec : ChangeSpec := { name := "fnQuotePlain", vars := ["loop.example/pub-g01450/pub/jsontext_internal_jsonwire.escapeASCII", "loop.example/pub-g01450/pub/jsontext_internal_jsonwire.ErrInvalidUTF8"], fn := fun _ => fun
  | [d, g1, g2] => { results := [.lit (.bool true)], args := [d], vars := [g1, g2] }
  | _ => none }
def fnQuotePlainRow : OpenClaim := { program := "ytjjbgoknmofajaadoor", sum := "026e02d4befd65b9669ee75a67950759add8e75d250b4eb5786af03c151ca44a", func := "loop.example/pub-g01450/laws.FnQuotePlain", spec := "fnQuotePlain", unfollowed := true, recurses := true, named := ["loop.example/pub-g01450/pub/jsontext_internal_jsonwire.escapeASCII", "loop.example/pub-g01450/pub/jsontext_internal_jsonwire.ErrInvalidUTF8", "unicode/utf8.first", "unicode/utf8.acceptRanges", "io.ErrUnexpectedEOF"], ifaces := true, apart := false, laid := [("unicode/utf8.acceptRanges", laid_unicode_utf8_acceptRanges), ("io.ErrUnexpectedEOF", laid_io_ErrUnexpectedEOF), ("loop.example/pub-g01450/pub/jsontext_internal_jsonwire.escapeASCII", laid_loop_example_pub_g01450_pub_jsontext_internal_jsonwire_escapeASCII), ("loop.example/pub-g01450/pub/jsontext_internal_jsonwire.ErrInvalidUTF8", laid_loop_example_pub_g01450_pub_jsontext_internal_jsonwire_ErrInvalidUTF8), ("unicode/utf8.first", laid_unicode_utf8_first)] }
def FnQuotePlainSaid : Prop := fnQuotePlainRow.holds Tryd.pinned (OpenSpec.ofChange fnQuotePlainSpec)

/-- ITS FALSE NEIGHBOUR: 'it returns false'. Refute it at one input. -/
def fnQuotePlainWrong : ChangeSpec := { name := "fnQuotePlain", vars := ["loop.example/pub-g01450/pub/jsontext_internal_jsonwire.escapeASCII", "loop.example/pub-g01450/pub/jsontext_internal_jsonwire.ErrInvalidUTF8"], fn := fun _ => fun
  | [d, g1, g2] => { results := [.lit (.bool false)], args := [d], vars := [g1, g2] }
  | _ => none }
def FnQuotePlainWrongFalsely : Prop := fnQuotePlainRow.holds Tryd.pinned (OpenSpec.ofChange fnQuotePlainWrong)

/-- 'laws.FnBytes': WHATEVER THE INPUT: true; the input reads as it did. -/
def fnBytesSpec : ChangeSpec := { name := "fnBytes", vars := ["loop.example/pub-g01450/pub/jsontext_internal_jsonwire.escapeASCII", "loop.example/pub-g01450/pub/jsontext_internal_jsonwire.ErrInvalidUTF8"], fn := fun _ => fun
  | [d1, d2, g1, g2] => { results := [.lit (.bool true)], args := [d1, d2], vars := [g1, g2] }
  | _ => none }
def fnBytesRow : OpenClaim := { program := "ytjjbgoknmofajaadoor", sum := "026e02d4befd65b9669ee75a67950759add8e75d250b4eb5786af03c151ca44a", func := "loop.example/pub-g01450/laws.FnBytes", spec := "fnBytes", unfollowed := true, recurses := true, named := ["loop.example/pub-g01450/pub/jsontext_internal_jsonwire.escapeASCII", "loop.example/pub-g01450/pub/jsontext_internal_jsonwire.ErrInvalidUTF8", "unicode/utf8.first", "unicode/utf8.acceptRanges", "io.ErrUnexpectedEOF"], ifaces := true, apart := false, laid := [("unicode/utf8.acceptRanges", laid_unicode_utf8_acceptRanges), ("io.ErrUnexpectedEOF", laid_io_ErrUnexpectedEOF), ("loop.example/pub-g01450/pub/jsontext_internal_jsonwire.escapeASCII", laid_loop_example_pub_g01450_pub_jsontext_internal_jsonwire_escapeASCII), ("loop.example/pub-g01450/pub/jsontext_internal_jsonwire.ErrInvalidUTF8", laid_loop_example_pub_g01450_pub_jsontext_internal_jsonwire_ErrInvalidUTF8), ("unicode/utf8.first", laid_unicode_utf8_first)] }
def FnBytesSaid : Prop := fnBytesRow.holds Tryd.pinned (OpenSpec.ofChange fnBytesSpec)

/-- ITS FALSE NEIGHBOUR: 'it returns false'. Refute it at one input. -/
def fnBytesWrong : ChangeSpec := { name := "fnBytes", vars := ["loop.example/pub-g01450/pub/jsontext_internal_jsonwire.escapeASCII", "loop.example/pub-g01450/pub/jsontext_internal_jsonwire.ErrInvalidUTF8"], fn := fun _ => fun
  | [d1, d2, g1, g2] => { results := [.lit (.bool false)], args := [d1, d2], vars := [g1, g2] }
  | _ => none }
def FnBytesWrongFalsely : Prop := fnBytesRow.holds Tryd.pinned (OpenSpec.ofChange fnBytesWrong)

/- THE SECOND FORM. 'bulk': how many values and letters a reading holds, each counted each time it is reached (what is shared counts as often as it is met; a slice's spare places count too). A statement '..UptoSaid' is the law's where the arguments, and the package variables that the reading takes, are together of bulk at most 1048576: NARROWER than '..Said'. Prove '..Said' where nothing that the law and all that it calls make is longer than what came in: it says more and counts as full. Else prove '..UptoSaid'. A law counts once. -/
mutual
def uptoBulk {H : Type} : DataW H → Nat
  | .lit (.string bytes) => bytes.length + 1
  | .lit _ => 1
  | .nil => 1
  | .ptr d => uptoBulk d + 1
  | .slice elems spare => uptoBulkAll elems + uptoBulkAll spare + 1
  | .agg parts => uptoBulkAll parts + 1
  | .iface _ d => uptoBulk d + 1
  | .map entries => uptoBulkEntries entries + 1
  | .held _ => 1
def uptoBulkAll {H : Type} : List (DataW H) → Nat
  | [] => 0
  | d :: r => uptoBulk d + uptoBulkAll r
def uptoBulkEntries {H : Type} : List (Lit × DataW H) → Nat
  | [] => 0
  | x :: r => uptoBulkEntry x + uptoBulkEntries r
def uptoBulkEntry {H : Type} : Lit × DataW H → Nat
  | (.string bytes, d) => bytes.length + uptoBulk d + 1
  | (_, d) => uptoBulk d + 1
 end
def uptoSmall : (H : Type) → List (DataW H) → Bool := fun _ ds => decide (uptoBulkAll ds ≤ 1048576)
def OpenSpec.upto (s : _root_.Go.ChangeSpec) : _root_.Go.OpenSpec := { _root_.Go.OpenSpec.ofChange s with cond := some uptoSmall }

/-- 'laws.FnNeedsEscape', WHERE WHAT IT READS IS OF BULK AT MOST 1048576: true; the input reads as it did. -/
def fnNeedsEscapeUptoRow : OpenClaim := { program := "ytjjbgoknmofajaadoor", sum := "026e02d4befd65b9669ee75a67950759add8e75d250b4eb5786af03c151ca44a", func := "loop.example/pub-g01450/laws.FnNeedsEscape", spec := "fnNeedsEscape", named := ["loop.example/pub-g01450/pub/jsontext_internal_jsonwire.escapeASCII", "unicode/utf8.first", "unicode/utf8.acceptRanges"], apart := false, laid := [("unicode/utf8.acceptRanges", laid_unicode_utf8_acceptRanges), ("loop.example/pub-g01450/pub/jsontext_internal_jsonwire.escapeASCII", laid_loop_example_pub_g01450_pub_jsontext_internal_jsonwire_escapeASCII), ("unicode/utf8.first", laid_unicode_utf8_first)], narrowed := true }
def FnNeedsEscapeUptoSaid : Prop := fnNeedsEscapeUptoRow.holds Tryd.pinned (OpenSpec.upto fnNeedsEscapeSpec)

/-- 'laws.FnQuoteBy', WHERE WHAT IT READS IS OF BULK AT MOST 1048576: true; the input reads as it did. -/
def fnQuoteByUptoRow : OpenClaim := { program := "ytjjbgoknmofajaadoor", sum := "026e02d4befd65b9669ee75a67950759add8e75d250b4eb5786af03c151ca44a", func := "loop.example/pub-g01450/laws.FnQuoteBy", spec := "fnQuoteBy", named := ["loop.example/pub-g01450/pub/jsontext_internal_jsonwire.escapeASCII", "loop.example/pub-g01450/pub/jsontext_internal_jsonwire.ErrInvalidUTF8", "unicode/utf8.first", "unicode/utf8.acceptRanges"], ifaces := true, apart := false, laid := [("unicode/utf8.acceptRanges", laid_unicode_utf8_acceptRanges), ("loop.example/pub-g01450/pub/jsontext_internal_jsonwire.escapeASCII", laid_loop_example_pub_g01450_pub_jsontext_internal_jsonwire_escapeASCII), ("loop.example/pub-g01450/pub/jsontext_internal_jsonwire.ErrInvalidUTF8", laid_loop_example_pub_g01450_pub_jsontext_internal_jsonwire_ErrInvalidUTF8), ("unicode/utf8.first", laid_unicode_utf8_first)], narrowed := true }
def FnQuoteByUptoSaid : Prop := fnQuoteByUptoRow.holds Tryd.pinned (OpenSpec.upto fnQuoteBySpec)

/-- 'laws.FnUnquoted', WHERE WHAT IT READS IS OF BULK AT MOST 1048576: true; the input reads as it did. -/
def fnUnquotedUptoRow : OpenClaim := { program := "ytjjbgoknmofajaadoor", sum := "026e02d4befd65b9669ee75a67950759add8e75d250b4eb5786af03c151ca44a", func := "loop.example/pub-g01450/laws.FnUnquoted", spec := "fnUnquoted", unfollowed := true, recurses := true, named := ["io.ErrUnexpectedEOF", "loop.example/pub-g01450/pub/jsontext_internal_jsonwire.ErrInvalidUTF8", "unicode/utf8.first", "unicode/utf8.acceptRanges"], ifaces := true, apart := false, laid := [("unicode/utf8.acceptRanges", laid_unicode_utf8_acceptRanges), ("io.ErrUnexpectedEOF", laid_io_ErrUnexpectedEOF), ("loop.example/pub-g01450/pub/jsontext_internal_jsonwire.ErrInvalidUTF8", laid_loop_example_pub_g01450_pub_jsontext_internal_jsonwire_ErrInvalidUTF8), ("unicode/utf8.first", laid_unicode_utf8_first)], narrowed := true }
def FnUnquotedUptoSaid : Prop := fnUnquotedUptoRow.holds Tryd.pinned (OpenSpec.upto fnUnquotedSpec)

/-- 'laws.FnOutside', WHERE WHAT IT READS IS OF BULK AT MOST 1048576: true; the input reads as it did. -/
def fnOutsideUptoRow : OpenClaim := { program := "ytjjbgoknmofajaadoor", sum := "026e02d4befd65b9669ee75a67950759add8e75d250b4eb5786af03c151ca44a", func := "loop.example/pub-g01450/laws.FnOutside", spec := "fnOutside", unfollowed := true, recurses := true, named := ["loop.example/pub-g01450/pub/jsontext_internal_jsonwire.escapeASCII", "loop.example/pub-g01450/pub/jsontext_internal_jsonwire.ErrInvalidUTF8", "unicode/utf8.first", "unicode/utf8.acceptRanges", "io.ErrUnexpectedEOF"], ifaces := true, apart := false, laid := [("unicode/utf8.acceptRanges", laid_unicode_utf8_acceptRanges), ("io.ErrUnexpectedEOF", laid_io_ErrUnexpectedEOF), ("loop.example/pub-g01450/pub/jsontext_internal_jsonwire.escapeASCII", laid_loop_example_pub_g01450_pub_jsontext_internal_jsonwire_escapeASCII), ("loop.example/pub-g01450/pub/jsontext_internal_jsonwire.ErrInvalidUTF8", laid_loop_example_pub_g01450_pub_jsontext_internal_jsonwire_ErrInvalidUTF8), ("unicode/utf8.first", laid_unicode_utf8_first)], narrowed := true }
def FnOutsideUptoSaid : Prop := fnOutsideUptoRow.holds Tryd.pinned (OpenSpec.upto fnOutsideSpec)

/-- 'laws.FnQuotePlain', WHERE WHAT IT READS IS OF BULK AT MOST 1048576: true; the input reads as it did. -/
def fnQuotePlainUptoRow : OpenClaim := { program := "ytjjbgoknmofajaadoor", sum := "026e02d4befd65b9669ee75a67950759add8e75d250b4eb5786af03c151ca44a", func := "loop.example/pub-g01450/laws.FnQuotePlain", spec := "fnQuotePlain", unfollowed := true, recurses := true, named := ["loop.example/pub-g01450/pub/jsontext_internal_jsonwire.escapeASCII", "loop.example/pub-g01450/pub/jsontext_internal_jsonwire.ErrInvalidUTF8", "unicode/utf8.first", "unicode/utf8.acceptRanges", "io.ErrUnexpectedEOF"], ifaces := true, apart := false, laid := [("unicode/utf8.acceptRanges", laid_unicode_utf8_acceptRanges), ("io.ErrUnexpectedEOF", laid_io_ErrUnexpectedEOF), ("loop.example/pub-g01450/pub/jsontext_internal_jsonwire.escapeASCII", laid_loop_example_pub_g01450_pub_jsontext_internal_jsonwire_escapeASCII), ("loop.example/pub-g01450/pub/jsontext_internal_jsonwire.ErrInvalidUTF8", laid_loop_example_pub_g01450_pub_jsontext_internal_jsonwire_ErrInvalidUTF8), ("unicode/utf8.first", laid_unicode_utf8_first)], narrowed := true }
def FnQuotePlainUptoSaid : Prop := fnQuotePlainUptoRow.holds Tryd.pinned (OpenSpec.upto fnQuotePlainSpec)

/-- 'laws.FnBytes', WHERE WHAT IT READS IS OF BULK AT MOST 1048576: true; the input reads as it did. -/
def fnBytesUptoRow : OpenClaim := { program := "ytjjbgoknmofajaadoor", sum := "026e02d4befd65b9669ee75a67950759add8e75d250b4eb5786af03c151ca44a", func := "loop.example/pub-g01450/laws.FnBytes", spec := "fnBytes", unfollowed := true, recurses := true, named := ["loop.example/pub-g01450/pub/jsontext_internal_jsonwire.escapeASCII", "loop.example/pub-g01450/pub/jsontext_internal_jsonwire.ErrInvalidUTF8", "unicode/utf8.first", "unicode/utf8.acceptRanges", "io.ErrUnexpectedEOF"], ifaces := true, apart := false, laid := [("unicode/utf8.acceptRanges", laid_unicode_utf8_acceptRanges), ("io.ErrUnexpectedEOF", laid_io_ErrUnexpectedEOF), ("loop.example/pub-g01450/pub/jsontext_internal_jsonwire.escapeASCII", laid_loop_example_pub_g01450_pub_jsontext_internal_jsonwire_escapeASCII), ("loop.example/pub-g01450/pub/jsontext_internal_jsonwire.ErrInvalidUTF8", laid_loop_example_pub_g01450_pub_jsontext_internal_jsonwire_ErrInvalidUTF8), ("unicode/utf8.first", laid_unicode_utf8_first)], narrowed := true }
def FnBytesUptoSaid : Prop := fnBytesUptoRow.holds Tryd.pinned (OpenSpec.upto fnBytesSpec)

end Rows
end Go.Proofs.YtjjbgoknmofajaaDoor
