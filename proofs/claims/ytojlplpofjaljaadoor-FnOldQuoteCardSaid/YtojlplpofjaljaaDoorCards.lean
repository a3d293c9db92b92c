/-
  DERIVED. GIVEN WITH THE SEED: THE CARDS: each row of YtojlplpofjaljaaDoorRows.lean that lists a variable, with what it lists TIED to the program's text (the seventh form; the later family's looks); each row that meets fmt, with fmt's text TOLD by the authors' own Lean function (tested against real Go, not proved from fmt's source: count such statements apart). THE CARD IS WHAT COUNTS. Prove the row's statement (the work); the ties are given (YtojlplpofjaljaaDoorTie.lean); close each card by the builder's one call (the guide's Derived/Test/ToyasCard.lean, 'card_holds'). Laid BY PROGRAM, IN A SANDBOX (cutbox-door.mjs). By AI agents, Wed Nov 11 2026. No macro, syntax, notation, axiom, sorry.
-/
import Derived.Test.YtojlplpofjaljaaDoorRows
import GoSem.ClaimSeven
namespace Go.Proofs.YtojlplpofjaljaaDoor
namespace Rows

/-- THE TIED CARD OF 'laws.FnOldQuote'. -/
def fnOldQuoteCard : Claim7 := { stood := { row := fnOldQuoteRow, standIns := [], harness := (true, "305c7e59157f7810b6e59d307817eaaea3639e232dee3c46f80eb74a4633a542"), looks := false }, kinds := [], alts := [], laidByText := true, laidKinds := [.data, .data, .data, .pinned], laidTests := true, laidLooks := .later }
def FnOldQuoteCardSaid : Prop := Claim7.holds Tryd.pinned (.plain (OpenSpec.ofChange fnOldQuoteSpec)) fnOldQuoteCard

/-- THE SECOND FORM's CARD OF 'laws.FnOldQuote'. -/
def fnOldQuoteUptoCard : Claim7 := { stood := { row := fnOldQuoteUptoRow, standIns := [], harness := (true, "305c7e59157f7810b6e59d307817eaaea3639e232dee3c46f80eb74a4633a542"), looks := false }, kinds := [], alts := [], laidByText := true, laidKinds := [.data, .data, .data, .pinned], laidTests := true, laidLooks := .later }
def FnOldQuoteUptoCardSaid : Prop := Claim7.holds Tryd.pinned (.plain (OpenSpec.upto fnOldQuoteSpec)) fnOldQuoteUptoCard
end Rows
end Go.Proofs.YtojlplpofjaljaaDoor
