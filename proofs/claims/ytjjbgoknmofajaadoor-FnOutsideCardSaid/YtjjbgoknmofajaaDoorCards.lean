/-
  DERIVED. GIVEN WITH THE SEED: THE CARDS: each row of YtjjbgoknmofajaaDoorRows.lean that lists a variable, with what it lists TIED to the program's text (the seventh form; the later family's looks); each row that meets fmt, with fmt's text TOLD by the authors' own Lean function (tested against real Go, not proved from fmt's source: count such statements apart). THE CARD IS WHAT COUNTS. Prove the row's statement (the work); the ties are given (YtjjbgoknmofajaaDoorTie.lean); close each card by the builder's one call (the guide's Derived/Test/ToyasCard.lean, 'card_holds'). Laid BY PROGRAM, IN A SANDBOX (cutbox-door.mjs). By AI agents, Wed Nov 11 2026. No macro, syntax, notation, axiom, sorry.
-/
import Derived.Test.YtjjbgoknmofajaaDoorRows
import GoSem.ClaimSeven
namespace Go.Proofs.YtjjbgoknmofajaaDoor
namespace Rows

/-- THE TIED CARD OF 'laws.FnNeedsEscape'. -/
def fnNeedsEscapeCard : Claim7 := { stood := { row := fnNeedsEscapeRow, standIns := [], harness := (true, "177f79ad2ffd94cd9b964a9a12bf6e878b4c5328201d479bd3ff182ac72c5e81"), looks := false }, kinds := [], alts := [], laidByText := true, laidKinds := [.data, .data, .pinned], laidTests := true, laidLooks := .later }
def FnNeedsEscapeCardSaid : Prop := Claim7.holds Tryd.pinned (.plain (OpenSpec.ofChange fnNeedsEscapeSpec)) fnNeedsEscapeCard

/-- THE TIED CARD OF 'laws.FnQuoteBy'. -/
def fnQuoteByCard : Claim7 := { stood := { row := fnQuoteByRow, standIns := [], harness := (true, "177f79ad2ffd94cd9b964a9a12bf6e878b4c5328201d479bd3ff182ac72c5e81"), looks := false }, kinds := [], alts := [], laidByText := true, laidKinds := [.data, .data, .sentinel, .pinned], laidTests := true, laidLooks := .later }
def FnQuoteByCardSaid : Prop := Claim7.holds Tryd.pinned (.plain (OpenSpec.ofChange fnQuoteBySpec)) fnQuoteByCard

/-- THE TIED CARD OF 'laws.FnUnquoted'. -/
def fnUnquotedCard : Claim7 := { stood := { row := fnUnquotedRow, standIns := [], harness := (true, "177f79ad2ffd94cd9b964a9a12bf6e878b4c5328201d479bd3ff182ac72c5e81"), looks := false }, kinds := [], alts := [], laidByText := true, laidKinds := [.data, .sentinel, .sentinel, .pinned], laidTests := true, laidLooks := .later }
def FnUnquotedCardSaid : Prop := Claim7.holds Tryd.pinned (.plain (OpenSpec.ofChange fnUnquotedSpec)) fnUnquotedCard

/-- THE TIED CARD OF 'laws.FnOutside'. -/
def fnOutsideCard : Claim7 := { stood := { row := fnOutsideRow, standIns := [], harness := (true, "177f79ad2ffd94cd9b964a9a12bf6e878b4c5328201d479bd3ff182ac72c5e81"), looks := false }, kinds := [], alts := [], laidByText := true, laidKinds := [.data, .sentinel, .data, .sentinel, .pinned], laidTests := true, laidLooks := .later }
def FnOutsideCardSaid : Prop := Claim7.holds Tryd.pinned (.plain (OpenSpec.ofChange fnOutsideSpec)) fnOutsideCard

/-- THE TIED CARD OF 'laws.FnQuotePlain'. -/
def fnQuotePlainCard : Claim7 := { stood := { row := fnQuotePlainRow, standIns := [], harness := (true, "177f79ad2ffd94cd9b964a9a12bf6e878b4c5328201d479bd3ff182ac72c5e81"), looks := false }, kinds := [], alts := [], laidByText := true, laidKinds := [.data, .sentinel, .data, .sentinel, .pinned], laidTests := true, laidLooks := .later }
def FnQuotePlainCardSaid : Prop := Claim7.holds Tryd.pinned (.plain (OpenSpec.ofChange fnQuotePlainSpec)) fnQuotePlainCard

/-- THE TIED CARD OF 'laws.FnBytes'. -/
def fnBytesCard : Claim7 := { stood := { row := fnBytesRow, standIns := [], harness := (true, "177f79ad2ffd94cd9b964a9a12bf6e878b4c5328201d479bd3ff182ac72c5e81"), looks := false }, kinds := [], alts := [], laidByText := true, laidKinds := [.data, .sentinel, .data, .sentinel, .pinned], laidTests := true, laidLooks := .later }
def FnBytesCardSaid : Prop := Claim7.holds Tryd.pinned (.plain (OpenSpec.ofChange fnBytesSpec)) fnBytesCard

/-- THE SECOND FORM's CARD OF 'laws.FnNeedsEscape'. -/
def fnNeedsEscapeUptoCard : Claim7 := { stood := { row := fnNeedsEscapeUptoRow, standIns := [], harness := (true, "177f79ad2ffd94cd9b964a9a12bf6e878b4c5328201d479bd3ff182ac72c5e81"), looks := false }, kinds := [], alts := [], laidByText := true, laidKinds := [.data, .data, .pinned], laidTests := true, laidLooks := .later }
def FnNeedsEscapeUptoCardSaid : Prop := Claim7.holds Tryd.pinned (.plain (OpenSpec.upto fnNeedsEscapeSpec)) fnNeedsEscapeUptoCard

/-- THE SECOND FORM's CARD OF 'laws.FnQuoteBy'. -/
def fnQuoteByUptoCard : Claim7 := { stood := { row := fnQuoteByUptoRow, standIns := [], harness := (true, "177f79ad2ffd94cd9b964a9a12bf6e878b4c5328201d479bd3ff182ac72c5e81"), looks := false }, kinds := [], alts := [], laidByText := true, laidKinds := [.data, .data, .sentinel, .pinned], laidTests := true, laidLooks := .later }
def FnQuoteByUptoCardSaid : Prop := Claim7.holds Tryd.pinned (.plain (OpenSpec.upto fnQuoteBySpec)) fnQuoteByUptoCard

/-- THE SECOND FORM's CARD OF 'laws.FnUnquoted'. -/
def fnUnquotedUptoCard : Claim7 := { stood := { row := fnUnquotedUptoRow, standIns := [], harness := (true, "177f79ad2ffd94cd9b964a9a12bf6e878b4c5328201d479bd3ff182ac72c5e81"), looks := false }, kinds := [], alts := [], laidByText := true, laidKinds := [.data, .sentinel, .sentinel, .pinned], laidTests := true, laidLooks := .later }
def FnUnquotedUptoCardSaid : Prop := Claim7.holds Tryd.pinned (.plain (OpenSpec.upto fnUnquotedSpec)) fnUnquotedUptoCard

/-- THE SECOND FORM's CARD OF 'laws.FnOutside'. -/
def fnOutsideUptoCard : Claim7 := { stood := { row := fnOutsideUptoRow, standIns := [], harness := (true, "177f79ad2ffd94cd9b964a9a12bf6e878b4c5328201d479bd3ff182ac72c5e81"), looks := false }, kinds := [], alts := [], laidByText := true, laidKinds := [.data, .sentinel, .data, .sentinel, .pinned], laidTests := true, laidLooks := .later }
def FnOutsideUptoCardSaid : Prop := Claim7.holds Tryd.pinned (.plain (OpenSpec.upto fnOutsideSpec)) fnOutsideUptoCard

/-- THE SECOND FORM's CARD OF 'laws.FnQuotePlain'. -/
def fnQuotePlainUptoCard : Claim7 := { stood := { row := fnQuotePlainUptoRow, standIns := [], harness := (true, "177f79ad2ffd94cd9b964a9a12bf6e878b4c5328201d479bd3ff182ac72c5e81"), looks := false }, kinds := [], alts := [], laidByText := true, laidKinds := [.data, .sentinel, .data, .sentinel, .pinned], laidTests := true, laidLooks := .later }
def FnQuotePlainUptoCardSaid : Prop := Claim7.holds Tryd.pinned (.plain (OpenSpec.upto fnQuotePlainSpec)) fnQuotePlainUptoCard

/-- THE SECOND FORM's CARD OF 'laws.FnBytes'. -/
def fnBytesUptoCard : Claim7 := { stood := { row := fnBytesUptoRow, standIns := [], harness := (true, "177f79ad2ffd94cd9b964a9a12bf6e878b4c5328201d479bd3ff182ac72c5e81"), looks := false }, kinds := [], alts := [], laidByText := true, laidKinds := [.data, .sentinel, .data, .sentinel, .pinned], laidTests := true, laidLooks := .later }
def FnBytesUptoCardSaid : Prop := Claim7.holds Tryd.pinned (.plain (OpenSpec.upto fnBytesSpec)) fnBytesUptoCard
end Rows
end Go.Proofs.YtjjbgoknmofajaaDoor
