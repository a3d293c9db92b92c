/-
  DERIVED. GIVEN WITH THE SEED: THE CARDS: each row of YtifemmjblamfkaaDoorRows.lean that lists a variable, with what it lists TIED to the program's text (the seventh form; the later family's looks); each row that meets fmt, with fmt's text TOLD by the authors' own Lean function (tested against real Go, not proved from fmt's source: count such statements apart). THE CARD IS WHAT COUNTS. Prove the row's statement (the work); the ties are given (YtifemmjblamfkaaDoorTie.lean); close each card by the builder's one call (the guide's Derived/Test/ToyasCard.lean, 'card_holds'). Laid BY PROGRAM, IN A SANDBOX (cutbox-door.mjs). By AI agents, Wed Nov 11 2026. No macro, syntax, notation, axiom, sorry.
-/
import Derived.Test.YtifemmjblamfkaaDoorRows
import GoSem.ClaimSeven
namespace Go.Proofs.YtifemmjblamfkaaDoor
namespace Rows

/-- THE TIED CARD OF 'laws.FnWireNumberPieces'. -/
def fnWireNumberPiecesCard : Claim7 := { stood := { row := fnWireNumberPiecesRow, standIns := [], harness := (true, "729848fc016a64ce4d346972d8c2bed926be821f9097950fa1143827ce272fa7"), looks := true }, kinds := [], alts := [], laidByText := true, laidKinds := [.data, .sentinel, .pinned], laidTests := true, laidLooks := .later }
def FnWireNumberPiecesCardSaid : Prop := Claim7.holds Tryd.pinned (.plain (OpenSpec.ofChange fnWireNumberPiecesSpec)) fnWireNumberPiecesCard

/-- THE TIED CARD OF 'laws.FnWireStringPieces'. -/
def fnWireStringPiecesCard : Claim7 := { stood := { row := fnWireStringPiecesRow, standIns := [], harness := (true, "729848fc016a64ce4d346972d8c2bed926be821f9097950fa1143827ce272fa7"), looks := true }, kinds := [], alts := [], laidByText := true, laidKinds := [.data, .sentinel, .sentinel, .pinned], laidTests := true, laidLooks := .later }
def FnWireStringPiecesCardSaid : Prop := Claim7.holds Tryd.pinned (.plain (OpenSpec.ofChange fnWireStringPiecesSpec)) fnWireStringPiecesCard

/-- THE SECOND FORM's CARD OF 'laws.FnWireNumberPieces'. -/
def fnWireNumberPiecesUptoCard : Claim7 := { stood := { row := fnWireNumberPiecesUptoRow, standIns := [], harness := (true, "729848fc016a64ce4d346972d8c2bed926be821f9097950fa1143827ce272fa7"), looks := true }, kinds := [], alts := [], laidByText := true, laidKinds := [.data, .sentinel, .pinned], laidTests := true, laidLooks := .later }
def FnWireNumberPiecesUptoCardSaid : Prop := Claim7.holds Tryd.pinned (.plain (OpenSpec.upto fnWireNumberPiecesSpec)) fnWireNumberPiecesUptoCard

/-- THE SECOND FORM's CARD OF 'laws.FnWireStringPieces'. -/
def fnWireStringPiecesUptoCard : Claim7 := { stood := { row := fnWireStringPiecesUptoRow, standIns := [], harness := (true, "729848fc016a64ce4d346972d8c2bed926be821f9097950fa1143827ce272fa7"), looks := true }, kinds := [], alts := [], laidByText := true, laidKinds := [.data, .sentinel, .sentinel, .pinned], laidTests := true, laidLooks := .later }
def FnWireStringPiecesUptoCardSaid : Prop := Claim7.holds Tryd.pinned (.plain (OpenSpec.upto fnWireStringPiecesSpec)) fnWireStringPiecesUptoCard
end Rows
end Go.Proofs.YtifemmjblamfkaaDoor
