/-
  DERIVED. GIVEN WITH THE SEED: THE CARDS: each row of YtdbnfginhipcaaaDoorRows.lean that lists a variable, with what it lists TIED to the program's text (the seventh form; the later family's looks); each row that meets fmt, with fmt's text TOLD by the authors' own Lean function (tested against real Go, not proved from fmt's source: count such statements apart). THE CARD IS WHAT COUNTS. Prove the row's statement (the work); the ties are given (YtdbnfginhipcaaaDoorTie.lean); close each card by the builder's one call (the guide's Derived/Test/ToyasCard.lean, 'card_holds'). Laid BY PROGRAM, IN A SANDBOX (cutbox-door.mjs). By AI agents, Wed Nov 11 2026. No macro, syntax, notation, axiom, sorry.
-/
import Derived.Test.YtdbnfginhipcaaaDoorRows
import GoSem.ClaimSeven
namespace Go.Proofs.YtdbnfginhipcaaaDoor
namespace Rows

/-- THE TIED CARD OF 'laws.FnTableStart'. -/
def fnTableStartCard : Claim7 := { stood := { row := fnTableStartRow, standIns := [], harness := (true, "0c544a35dacada24080b3fa249c71cc3c10773ea63d0294639f5482d093dbbe8"), looks := false }, kinds := [], alts := [], laidByText := true, laidKinds := [.data, .pinned], laidTests := true, laidLooks := .later }
def FnTableStartCardSaid : Prop := Claim7.holds Tryd.pinned (.plain (OpenSpec.ofChange fnTableStartSpec)) fnTableStartCard

/-- THE SECOND FORM's CARD OF 'laws.FnTableStart'. -/
def fnTableStartUptoCard : Claim7 := { stood := { row := fnTableStartUptoRow, standIns := [], harness := (true, "0c544a35dacada24080b3fa249c71cc3c10773ea63d0294639f5482d093dbbe8"), looks := false }, kinds := [], alts := [], laidByText := true, laidKinds := [.data, .pinned], laidTests := true, laidLooks := .later }
def FnTableStartUptoCardSaid : Prop := Claim7.holds Tryd.pinned (.plain (OpenSpec.upto fnTableStartSpec)) fnTableStartUptoCard
end Rows
end Go.Proofs.YtdbnfginhipcaaaDoor
