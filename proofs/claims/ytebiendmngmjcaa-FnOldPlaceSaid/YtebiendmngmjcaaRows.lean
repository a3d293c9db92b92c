/-
  No cell of these rows narrows 'for every input' (looked for: loops, veiled, ifaces, maps, wideKeys, modest, calm, conditions, laid).
  DERIVED. THE GIVEN ROWS OF THIS SEAT. 2 by the template 'for every input the law returns true; each argument reads behind the call as it read before'; 0 by the template 'total and deterministic' (their statements: YtebiendmngmjcaaTotals.lean).
  GIVEN WITH THE SEED: the statements are not yours to turn. If you find one false, say at which input.
  Laid BY PROGRAM, IN A SANDBOX (cutbox-rows.mjs): the forced cells as the released guide's own fill.sh prints them over the translation 27e9e0492afa11bb… (all of the seat's roots in one cut). By AI agents, Wed Nov 11 2026. No macro, syntax, notation, axiom, sorry.
-/
import Derived.Test.YtebiendmngmjcaaChecked
import GoSem.Claim
import GoSem.ClaimJoined
import GoSem.ClaimMapViews
import Derived.JoinedTies
import Derived.KernelRfl
namespace Go.Proofs.Ytebiendmngmjcaa
/- THE CELL 'sum', in the pinned program and in every row, IS THE sha256 OF THE DUMP (.gsa) THAT YtebiendmngmjcaaProg.lean LOADS. Nothing in Lean hashes anything: it is a label: what it is worth is what the hold of that sum in a sandbox is worth. -/
noncomputable def Try.pinned : Pinned := { name := "ytebiendmngmjcaa", sum := "27e9e0492afa11bbb0f402d5d3c1a1a89c665b68a53156ed73c20480a63e0ad1", checked := Try.checked }
namespace Rows
def none {H : Type} : Left H := { results := [], args := [] }

/-- 'laws.FnOldScanEnds': WHATEVER THE INPUT: true; the input reads as it did. -/
def fnOldScanEndsSpec : ChangeSpec := { name := "fnOldScanEnds", fn := fun _ => fun
  | [d] => { results := [.lit (.bool true)], args := [d] }
  | _ => none }
def fnOldScanEndsRow : OpenClaim := { program := "ytebiendmngmjcaa", sum := "27e9e0492afa11bbb0f402d5d3c1a1a89c665b68a53156ed73c20480a63e0ad1", func := "loop.example/pub-g01450/laws.FnOldScanEnds", spec := "fnOldScanEnds", unfollowed := true, recurses := true, apart := false }
def FnOldScanEndsSaid : Prop := fnOldScanEndsRow.holds Try.pinned (OpenSpec.ofChange fnOldScanEndsSpec)

/-- ITS FALSE NEIGHBOUR: 'it returns false'. Refute it at one input. -/
def fnOldScanEndsWrong : ChangeSpec := { name := "fnOldScanEnds", fn := fun _ => fun
  | [d] => { results := [.lit (.bool false)], args := [d] }
  | _ => none }
def FnOldScanEndsWrongFalsely : Prop := fnOldScanEndsRow.holds Try.pinned (OpenSpec.ofChange fnOldScanEndsWrong)

/-- 'laws.FnOldPlace': WHATEVER THE INPUT: true; the input reads as it did. -/
def fnOldPlaceSpec : ChangeSpec := { name := "fnOldPlace", fn := fun _ => fun
  | [d] => { results := [.lit (.bool true)], args := [d] }
  | _ => none }
def fnOldPlaceRow : OpenClaim := { program := "ytebiendmngmjcaa", sum := "27e9e0492afa11bbb0f402d5d3c1a1a89c665b68a53156ed73c20480a63e0ad1", func := "loop.example/pub-g01450/laws.FnOldPlace", spec := "fnOldPlace", unfollowed := true, recurses := true, apart := false }
def FnOldPlaceSaid : Prop := fnOldPlaceRow.holds Try.pinned (OpenSpec.ofChange fnOldPlaceSpec)

/-- ITS FALSE NEIGHBOUR: 'it returns false'. Refute it at one input. -/
def fnOldPlaceWrong : ChangeSpec := { name := "fnOldPlace", fn := fun _ => fun
  | [d] => { results := [.lit (.bool false)], args := [d] }
  | _ => none }
def FnOldPlaceWrongFalsely : Prop := fnOldPlaceRow.holds Try.pinned (OpenSpec.ofChange fnOldPlaceWrong)

/- THE SECOND FORM. 'bulk': how many values and letters a reading holds, each counted each time it is reached (what is shared counts as often as it is met; a slice's spare places count too). A statement '..UptoSaid' is the law's where the arguments, and the package variables that the reading takes, are together of bulk at most 1048576: NARROWER than '..Said'. Prove '..Said' where nothing that the law and all that it calls make is longer than what came in: it says more and counts as full. Else prove '..UptoSaid'. A law counts once. -/
mutual
def uptoBulk {H : Type} : DataW H → Nat
  | .lit (.string bytes) => bytes.length + 1
  | .lit _ => 1
  | .nil => 1
  | .ptr d => uptoBulk d + 1
  | .slice elems spare => uptoBulkAll elems + uptoBulkAll spare + 1
  | .agg parts => uptoBulkAll parts + 1
  | .iface _ d => uptoBulk d + 1
  | .map entries => uptoBulkEntries entries + 1
  | .held _ => 1
def uptoBulkAll {H : Type} : List (DataW H) → Nat
  | [] => 0
  | d :: r => uptoBulk d + uptoBulkAll r
def uptoBulkEntries {H : Type} : List (Lit × DataW H) → Nat
  | [] => 0
  | x :: r => uptoBulkEntry x + uptoBulkEntries r
def uptoBulkEntry {H : Type} : Lit × DataW H → Nat
  | (.string bytes, d) => bytes.length + uptoBulk d + 1
  | (_, d) => uptoBulk d + 1
 end
def uptoSmall : (H : Type) → List (DataW H) → Bool := fun _ ds => decide (uptoBulkAll ds ≤ 1048576)
def OpenSpec.upto (s : _root_.Go.ChangeSpec) : _root_.Go.OpenSpec := { _root_.Go.OpenSpec.ofChange s with cond := some uptoSmall }

/-- 'laws.FnOldScanEnds', WHERE WHAT IT READS IS OF BULK AT MOST 1048576: true; the input reads as it did. -/
def fnOldScanEndsUptoRow : OpenClaim := { program := "ytebiendmngmjcaa", sum := "27e9e0492afa11bbb0f402d5d3c1a1a89c665b68a53156ed73c20480a63e0ad1", func := "loop.example/pub-g01450/laws.FnOldScanEnds", spec := "fnOldScanEnds", unfollowed := true, recurses := true, apart := false, narrowed := true }
def FnOldScanEndsUptoSaid : Prop := fnOldScanEndsUptoRow.holds Try.pinned (OpenSpec.upto fnOldScanEndsSpec)

/-- 'laws.FnOldPlace', WHERE WHAT IT READS IS OF BULK AT MOST 1048576: true; the input reads as it did. -/
def fnOldPlaceUptoRow : OpenClaim := { program := "ytebiendmngmjcaa", sum := "27e9e0492afa11bbb0f402d5d3c1a1a89c665b68a53156ed73c20480a63e0ad1", func := "loop.example/pub-g01450/laws.FnOldPlace", spec := "fnOldPlace", unfollowed := true, recurses := true, apart := false, narrowed := true }
def FnOldPlaceUptoSaid : Prop := fnOldPlaceUptoRow.holds Try.pinned (OpenSpec.upto fnOldPlaceSpec)

end Rows
end Go.Proofs.Ytebiendmngmjcaa
