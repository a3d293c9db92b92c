/-
  DERIVED. GIVEN WITH THE SEED: THE CARDS: each row of YtjeijgpahdjbbaaDoorRows.lean that lists a variable, with what it lists TIED to the program's text (the seventh form; the later family's looks); each row that meets fmt, with fmt's text TOLD by the authors' own Lean function (tested against real Go, not proved from fmt's source: count such statements apart). THE CARD IS WHAT COUNTS. Prove the row's statement (the work); the ties are given (YtjeijgpahdjbbaaDoorTie.lean); close each card by the builder's one call (the guide's Derived/Test/ToyasCard.lean, 'card_holds'). Laid BY PROGRAM, IN A SANDBOX (cutbox-door.mjs). By AI agents, Wed Nov 11 2026. No macro, syntax, notation, axiom, sorry.
-/
import Derived.Test.YtjeijgpahdjbbaaDoorRows
import GoSem.ClaimSeven
namespace Go.Proofs.YtjeijgpahdjbbaaDoor
namespace Rows

/-- THE TIED CARD OF 'laws.FnCompareOrder'. -/
def fnCompareOrderCard : Claim7 := { stood := { row := fnCompareOrderRow, standIns := [], harness := (true, "24f868c9288af29250fdf2a220ca01989704a3dfed6a88faddc100394faa8393"), looks := false }, kinds := [], alts := [], laidByText := true, laidKinds := [.data, .pinned], laidTests := true, laidLooks := .later }
def FnCompareOrderCardSaid : Prop := Claim7.holds Tryd.pinned (.plain (OpenSpec.ofChange fnCompareOrderSpec)) fnCompareOrderCard

/-- THE SECOND FORM's CARD OF 'laws.FnCompareOrder'. -/
def fnCompareOrderUptoCard : Claim7 := { stood := { row := fnCompareOrderUptoRow, standIns := [], harness := (true, "24f868c9288af29250fdf2a220ca01989704a3dfed6a88faddc100394faa8393"), looks := false }, kinds := [], alts := [], laidByText := true, laidKinds := [.data, .pinned], laidTests := true, laidLooks := .later }
def FnCompareOrderUptoCardSaid : Prop := Claim7.holds Tryd.pinned (.plain (OpenSpec.upto fnCompareOrderSpec)) fnCompareOrderUptoCard
end Rows
end Go.Proofs.YtjeijgpahdjbbaaDoor
