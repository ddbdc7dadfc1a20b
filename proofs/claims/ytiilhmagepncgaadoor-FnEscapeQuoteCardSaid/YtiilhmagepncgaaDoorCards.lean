/-
  DERIVED. GIVEN WITH THE SEED: THE CARDS: each row of YtiilhmagepncgaaDoorRows.lean that lists a variable, with what it lists TIED to the program's text (the seventh form; the later family's looks); each row that meets fmt, with fmt's text TOLD by the authors' own Lean function (tested against real Go, not proved from fmt's source: count such statements apart). THE CARD IS WHAT COUNTS. Prove the row's statement (the work); the ties are given (YtiilhmagepncgaaDoorTie.lean); close each card by the builder's one call (the guide's Derived/Test/ToyasCard.lean, 'card_holds'). Laid BY PROGRAM, IN A SANDBOX (cutbox-door.mjs). By AI agents, Wed Nov 11 2026. No macro, syntax, notation, axiom, sorry.
-/
import Derived.Test.YtiilhmagepncgaaDoorRows
import GoSem.ClaimSeven
namespace Go.Proofs.YtiilhmagepncgaaDoor
namespace Rows

/-- THE TIED CARD OF 'laws.FnEscapeQuote'. -/
def fnEscapeQuoteCard : Claim7 := { stood := { row := fnEscapeQuoteRow, standIns := [], harness := (true, "8d0d092384e285e8deefd9bd38ae80e8e2bcddc2801c98e3250e5b7a862215ca"), looks := false }, kinds := [], alts := [], laidByText := true, laidKinds := [.sentinel], laidTests := true, laidLooks := .later }
def FnEscapeQuoteCardSaid : Prop := Claim7.holds Tryd.pinned (.plain (OpenSpec.ofChange fnEscapeQuoteSpec)) fnEscapeQuoteCard

/-- THE SECOND FORM's CARD OF 'laws.FnEscapeQuote'. -/
def fnEscapeQuoteUptoCard : Claim7 := { stood := { row := fnEscapeQuoteUptoRow, standIns := [], harness := (true, "8d0d092384e285e8deefd9bd38ae80e8e2bcddc2801c98e3250e5b7a862215ca"), looks := false }, kinds := [], alts := [], laidByText := true, laidKinds := [.sentinel], laidTests := true, laidLooks := .later }
def FnEscapeQuoteUptoCardSaid : Prop := Claim7.holds Tryd.pinned (.plain (OpenSpec.upto fnEscapeQuoteSpec)) fnEscapeQuoteUptoCard
end Rows
end Go.Proofs.YtiilhmagepncgaaDoor
