/-
  No cell of these rows narrows 'for every input' (looked for: loops, veiled, ifaces, maps, wideKeys, modest, calm, conditions, laid).
  DERIVED. THE GIVEN ROWS OF THIS SEAT. 4 by the template 'for every input the law returns true; each argument reads behind the call as it read before'; 0 by the template 'total and deterministic' (their statements: YtalkajcndllipaaTotals.lean).
  GIVEN WITH THE SEED: the statements are not yours to turn. If you find one false, say at which input.
  Laid BY PROGRAM, IN A SANDBOX (cutbox-rows.mjs): the forced cells as the released guide's own fill.sh prints them over the translation 4db0152baa901bef… (all of the seat's roots in one cut). By AI agents, Wed Nov 11 2026. No macro, syntax, notation, axiom, sorry.
-/
import Derived.Test.YtalkajcndllipaaChecked
import GoSem.Claim
import GoSem.ClaimJoined
import GoSem.ClaimMapViews
import Derived.JoinedTies
import Derived.KernelRfl
namespace Go.Proofs.Ytalkajcndllipaa
/- THE CELL 'sum', in the pinned program and in every row, IS THE sha256 OF THE DUMP (.gsa) THAT YtalkajcndllipaaProg.lean LOADS. Nothing in Lean hashes anything: it is a label: what it is worth is what the hold of that sum in a sandbox is worth. -/
noncomputable def Try.pinned : Pinned := { name := "ytalkajcndllipaa", sum := "4db0152baa901befc312c7eb65a89cd20addc1e3adfecab28c06f5441f449ba1", checked := Try.checked }
namespace Rows
def none {H : Type} : Left H := { results := [], args := [] }

/-- 'laws.FnPointerAppend': WHATEVER THE INPUT: true; the input reads as it did. -/
def fnPointerAppendSpec : ChangeSpec := { name := "fnPointerAppend", fn := fun _ => fun
  | [d1, d2] => { results := [.lit (.bool true)], args := [d1, d2] }
  | _ => none }
def fnPointerAppendRow : OpenClaim := { program := "ytalkajcndllipaa", sum := "4db0152baa901befc312c7eb65a89cd20addc1e3adfecab28c06f5441f449ba1", func := "loop.example/pub-g01450/laws.FnPointerAppend", spec := "fnPointerAppend", apart := false }
def FnPointerAppendSaid : Prop := fnPointerAppendRow.holds Try.pinned (OpenSpec.ofChange fnPointerAppendSpec)

/-- ITS FALSE NEIGHBOUR: 'it returns false'. Refute it at one input. -/
def fnPointerAppendWrong : ChangeSpec := { name := "fnPointerAppend", fn := fun _ => fun
  | [d1, d2] => { results := [.lit (.bool false)], args := [d1, d2] }
  | _ => none }
def FnPointerAppendWrongFalsely : Prop := fnPointerAppendRow.holds Try.pinned (OpenSpec.ofChange fnPointerAppendWrong)

/-- 'laws.FnPointerTokens': WHATEVER THE INPUT: true; the input reads as it did. -/
def fnPointerTokensSpec : ChangeSpec := { name := "fnPointerTokens", fn := fun _ => fun
  | [d] => { results := [.lit (.bool true)], args := [d] }
  | _ => none }
def fnPointerTokensRow : OpenClaim := { program := "ytalkajcndllipaa", sum := "4db0152baa901befc312c7eb65a89cd20addc1e3adfecab28c06f5441f449ba1", func := "loop.example/pub-g01450/laws.FnPointerTokens", spec := "fnPointerTokens", inPlace := ["internal/bytealg.IndexByteString"], unfollowed := true, recurses := true, apart := false }
def FnPointerTokensSaid : Prop := fnPointerTokensRow.holds Try.pinned (OpenSpec.ofChange fnPointerTokensSpec)

/-- ITS FALSE NEIGHBOUR: 'it returns false'. Refute it at one input. -/
def fnPointerTokensWrong : ChangeSpec := { name := "fnPointerTokens", fn := fun _ => fun
  | [d] => { results := [.lit (.bool false)], args := [d] }
  | _ => none }
def FnPointerTokensWrongFalsely : Prop := fnPointerTokensRow.holds Try.pinned (OpenSpec.ofChange fnPointerTokensWrong)

/-- 'laws.FnPointerUp': WHATEVER THE INPUT: true; the input reads as it did. -/
def fnPointerUpSpec : ChangeSpec := { name := "fnPointerUp", fn := fun _ => fun
  | [d] => { results := [.lit (.bool true)], args := [d] }
  | _ => none }
def fnPointerUpRow : OpenClaim := { program := "ytalkajcndllipaa", sum := "4db0152baa901befc312c7eb65a89cd20addc1e3adfecab28c06f5441f449ba1", func := "loop.example/pub-g01450/laws.FnPointerUp", spec := "fnPointerUp", inPlace := ["internal/bytealg.IndexByteString"], unfollowed := true, recurses := true, apart := false }
def FnPointerUpSaid : Prop := fnPointerUpRow.holds Try.pinned (OpenSpec.ofChange fnPointerUpSpec)

/-- ITS FALSE NEIGHBOUR: 'it returns false'. Refute it at one input. -/
def fnPointerUpWrong : ChangeSpec := { name := "fnPointerUp", fn := fun _ => fun
  | [d] => { results := [.lit (.bool false)], args := [d] }
  | _ => none }
def FnPointerUpWrongFalsely : Prop := fnPointerUpRow.holds Try.pinned (OpenSpec.ofChange fnPointerUpWrong)

/-- 'laws.FnPointerBuilt': WHATEVER THE INPUT: true; the input reads as it did. -/
def fnPointerBuiltSpec : ChangeSpec := { name := "fnPointerBuilt", fn := fun _ => fun
  | [d] => { results := [.lit (.bool true)], args := [d] }
  | _ => none }
def fnPointerBuiltRow : OpenClaim := { program := "ytalkajcndllipaa", sum := "4db0152baa901befc312c7eb65a89cd20addc1e3adfecab28c06f5441f449ba1", func := "loop.example/pub-g01450/laws.FnPointerBuilt", spec := "fnPointerBuilt", inPlace := ["internal/bytealg.IndexByteString"], unfollowed := true, recurses := true, apart := false }
def FnPointerBuiltSaid : Prop := fnPointerBuiltRow.holds Try.pinned (OpenSpec.ofChange fnPointerBuiltSpec)

/-- ITS FALSE NEIGHBOUR: 'it returns false'. Refute it at one input. -/
def fnPointerBuiltWrong : ChangeSpec := { name := "fnPointerBuilt", fn := fun _ => fun
  | [d] => { results := [.lit (.bool false)], args := [d] }
  | _ => none }
def FnPointerBuiltWrongFalsely : Prop := fnPointerBuiltRow.holds Try.pinned (OpenSpec.ofChange fnPointerBuiltWrong)

/- THE SECOND FORM. 'bulk': how many values and letters a reading holds, each counted each time it is reached (what is shared counts as often as it is met; a slice's spare places count too). A statement '..UptoSaid' is the law's where the arguments, and the package variables that the reading takes, are together of bulk at most 1048576: NARROWER than '..Said'. Prove '..Said' where nothing that the law and all that it calls make is longer than what came in: it says more and counts as full. Else prove '..UptoSaid'. A law counts once. -/
mutual
def uptoBulk {H : Type} : DataW H → Nat
  | .lit (.string bytes) => bytes.length + 1
  | .lit _ => 1
  | .nil => 1
  | .ptr d => uptoBulk d + 1
  | .slice elems spare => uptoBulkAll elems + uptoBulkAll spare + 1
  | .agg parts => uptoBulkAll parts + 1
  | .iface _ d => uptoBulk d + 1
  | .map entries => uptoBulkEntries entries + 1
  | .held _ => 1
def uptoBulkAll {H : Type} : List (DataW H) → Nat
  | [] => 0
  | d :: r => uptoBulk d + uptoBulkAll r
def uptoBulkEntries {H : Type} : List (Lit × DataW H) → Nat
  | [] => 0
  | x :: r => uptoBulkEntry x + uptoBulkEntries r
def uptoBulkEntry {H : Type} : Lit × DataW H → Nat
  | (.string bytes, d) => bytes.length + uptoBulk d + 1
  | (_, d) => uptoBulk d + 1
 end
def uptoSmall : (H : Type) → List (DataW H) → Bool := fun _ ds => decide (uptoBulkAll ds ≤ 1048576)
def OpenSpec.upto (s : _root_.Go.ChangeSpec) : _root_.Go.OpenSpec := { _root_.Go.OpenSpec.ofChange s with cond := some uptoSmall }

/-- 'laws.FnPointerAppend', WHERE WHAT IT READS IS OF BULK AT MOST 1048576: true; the input reads as it did. -/
def fnPointerAppendUptoRow : OpenClaim := { program := "ytalkajcndllipaa", sum := "4db0152baa901befc312c7eb65a89cd20addc1e3adfecab28c06f5441f449ba1", func := "loop.example/pub-g01450/laws.FnPointerAppend", spec := "fnPointerAppend", apart := false, narrowed := true }
def FnPointerAppendUptoSaid : Prop := fnPointerAppendUptoRow.holds Try.pinned (OpenSpec.upto fnPointerAppendSpec)

/-- 'laws.FnPointerTokens', WHERE WHAT IT READS IS OF BULK AT MOST 1048576: true; the input reads as it did. -/
def fnPointerTokensUptoRow : OpenClaim := { program := "ytalkajcndllipaa", sum := "4db0152baa901befc312c7eb65a89cd20addc1e3adfecab28c06f5441f449ba1", func := "loop.example/pub-g01450/laws.FnPointerTokens", spec := "fnPointerTokens", inPlace := ["internal/bytealg.IndexByteString"], unfollowed := true, recurses := true, apart := false, narrowed := true }
def FnPointerTokensUptoSaid : Prop := fnPointerTokensUptoRow.holds Try.pinned (OpenSpec.upto fnPointerTokensSpec)

/-- 'laws.FnPointerUp', WHERE WHAT IT READS IS OF BULK AT MOST 1048576: true; the input reads as it did. -/
def fnPointerUpUptoRow : OpenClaim := { program := "ytalkajcndllipaa", sum := "4db0152baa901befc312c7eb65a89cd20addc1e3adfecab28c06f5441f449ba1", func := "loop.example/pub-g01450/laws.FnPointerUp", spec := "fnPointerUp", inPlace := ["internal/bytealg.IndexByteString"], unfollowed := true, recurses := true, apart := false, narrowed := true }
def FnPointerUpUptoSaid : Prop := fnPointerUpUptoRow.holds Try.pinned (OpenSpec.upto fnPointerUpSpec)

/-- 'laws.FnPointerBuilt', WHERE WHAT IT READS IS OF BULK AT MOST 1048576: true; the input reads as it did. -/
def fnPointerBuiltUptoRow : OpenClaim := { program := "ytalkajcndllipaa", sum := "4db0152baa901befc312c7eb65a89cd20addc1e3adfecab28c06f5441f449ba1", func := "loop.example/pub-g01450/laws.FnPointerBuilt", spec := "fnPointerBuilt", inPlace := ["internal/bytealg.IndexByteString"], unfollowed := true, recurses := true, apart := false, narrowed := true }
def FnPointerBuiltUptoSaid : Prop := fnPointerBuiltUptoRow.holds Try.pinned (OpenSpec.upto fnPointerBuiltSpec)

end Rows
end Go.Proofs.Ytalkajcndllipaa
