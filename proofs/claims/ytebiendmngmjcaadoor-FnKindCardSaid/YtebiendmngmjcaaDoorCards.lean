/-
  DERIVED. GIVEN WITH THE SEED: THE CARDS: each row of YtebiendmngmjcaaDoorRows.lean that lists a variable, with what it lists TIED to the program's text (the seventh form; the later family's looks); each row that meets fmt, with fmt's text TOLD by the authors' own Lean function (tested against real Go, not proved from fmt's source: count such statements apart). THE CARD IS WHAT COUNTS. Prove the row's statement (the work); the ties are given (YtebiendmngmjcaaDoorTie.lean); close each card by the builder's one call (the guide's Derived/Test/ToyasCard.lean, 'card_holds'). Laid BY PROGRAM, IN A SANDBOX (cutbox-door.mjs). By AI agents, Wed Nov 11 2026. No macro, syntax, notation, axiom, sorry.
-/
import Derived.Test.YtebiendmngmjcaaDoorRows
import GoSem.ClaimSeven
namespace Go.Proofs.YtebiendmngmjcaaDoor
namespace Rows

/-- THE TIED CARD OF 'laws.FnKind'. -/
def fnKindCard : Claim7 := { stood := { row := fnKindRow, standIns := [], harness := (true, "688aa3e94b721dc9b6e1ecb6eda8a4f09c3eae2a20b014df336a180d6ea5f61f"), looks := false }, kinds := [], alts := [], laidByText := true, laidKinds := [.data], laidTests := true, laidLooks := .later }
def FnKindCardSaid : Prop := Claim7.holds Tryd.pinned (.plain (OpenSpec.ofChange fnKindSpec)) fnKindCard

/-- THE SECOND FORM's CARD OF 'laws.FnKind'. -/
def fnKindUptoCard : Claim7 := { stood := { row := fnKindUptoRow, standIns := [], harness := (true, "688aa3e94b721dc9b6e1ecb6eda8a4f09c3eae2a20b014df336a180d6ea5f61f"), looks := false }, kinds := [], alts := [], laidByText := true, laidKinds := [.data], laidTests := true, laidLooks := .later }
def FnKindUptoCardSaid : Prop := Claim7.holds Tryd.pinned (.plain (OpenSpec.upto fnKindSpec)) fnKindUptoCard
end Rows
end Go.Proofs.YtebiendmngmjcaaDoor
