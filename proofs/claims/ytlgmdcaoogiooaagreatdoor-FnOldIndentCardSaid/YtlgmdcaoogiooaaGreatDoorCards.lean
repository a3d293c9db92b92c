/-
  DERIVED. GIVEN WITH THE SEED: THE CARDS: each row of YtlgmdcaoogiooaaGreatDoorRows.lean that lists a variable, with what it lists TIED to the program's text (the seventh form; the later family's looks); each row that meets fmt, with fmt's text TOLD by the authors' own Lean function (tested against real Go, not proved from fmt's source: count such statements apart). THE CARD IS WHAT COUNTS. Prove the row's statement (the work); the ties are given (YtlgmdcaoogiooaaGreatDoorTie.lean); close each card by the builder's one call (the guide's Derived/Test/ToyasCard.lean, 'card_holds'). Laid BY PROGRAM, IN A SANDBOX (cutbox-door.mjs). By AI agents, Wed Nov 11 2026. No macro, syntax, notation, axiom, sorry.
-/
import Derived.Test.YtlgmdcaoogiooaaGreatDoorRows
import GoSem.ClaimSeven
namespace Go.Proofs.YtlgmdcaoogiooaaGreatDoor
namespace Rows

/-- THE TIED CARD OF 'laws.FnOldIndent'. -/
def fnOldIndentCard : Claim7 := { stood := { row := fnOldIndentRow, standIns := [], harness := (true, "f6f0ddd4c80180b319af0d3f1144756420a8db9d866edeea1beb6099e8301949"), looks := true }, kinds := [], alts := [], laidByText := true, laidKinds := [.sentinel], laidTests := true, laidLooks := .later }
def FnOldIndentCardSaid : Prop := Claim7.holds Tryz.pinned (.plain (OpenSpec.ofChange fnOldIndentSpec)) fnOldIndentCard

/-- THE SECOND FORM's CARD OF 'laws.FnOldIndent'. -/
def fnOldIndentUptoCard : Claim7 := { stood := { row := fnOldIndentUptoRow, standIns := [], harness := (true, "f6f0ddd4c80180b319af0d3f1144756420a8db9d866edeea1beb6099e8301949"), looks := true }, kinds := [], alts := [], laidByText := true, laidKinds := [.sentinel], laidTests := true, laidLooks := .later }
def FnOldIndentUptoCardSaid : Prop := Claim7.holds Tryz.pinned (.plain (OpenSpec.upto fnOldIndentSpec)) fnOldIndentUptoCard
end Rows
end Go.Proofs.YtlgmdcaoogiooaaGreatDoor
