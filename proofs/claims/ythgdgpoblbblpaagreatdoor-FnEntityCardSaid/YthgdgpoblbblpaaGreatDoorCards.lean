/-
  DERIVED. GIVEN WITH THE SEED: THE CARDS: each row of YthgdgpoblbblpaaGreatDoorRows.lean that lists a variable, with what it lists TIED to the program's text (the seventh form; the later family's looks); each row that meets fmt, with fmt's text TOLD by the authors' own Lean function (tested against real Go, not proved from fmt's source: count such statements apart). THE CARD IS WHAT COUNTS. Prove the row's statement (the work); the ties are given (YthgdgpoblbblpaaGreatDoorTie.lean); close each card by the builder's one call (the guide's Derived/Test/ToyasCard.lean, 'card_holds'). Laid BY PROGRAM, IN A SANDBOX (cutbox-door.mjs). By AI agents, Wed Nov 11 2026. No macro, syntax, notation, axiom, sorry.
-/
import Derived.Test.YthgdgpoblbblpaaGreatDoorRows
import GoSem.ClaimSeven
namespace Go.Proofs.YthgdgpoblbblpaaGreatDoor
namespace Rows

/-- THE TIED CARD OF 'laws.FnEntity'. -/
def fnEntityCard : Claim7 := { stood := { row := fnEntityRow, standIns := [], harness := (true, "3e51b8345f78d0607c5724530ba721f20fdf7b491afe51441b49d8fc4738ae88"), looks := true }, kinds := [], alts := [], laidByText := true, laidKinds := [.data, .data, .data, .sentinel, .sentinel, .data], laidTests := true, laidLooks := .later }
def FnEntityCardSaid : Prop := Claim7.holds Tryz.pinned (.plain (OpenSpec.ofChange fnEntitySpec)) fnEntityCard

/-- THE SECOND FORM's CARD OF 'laws.FnEntity'. -/
def fnEntityUptoCard : Claim7 := { stood := { row := fnEntityUptoRow, standIns := [], harness := (true, "3e51b8345f78d0607c5724530ba721f20fdf7b491afe51441b49d8fc4738ae88"), looks := true }, kinds := [], alts := [], laidByText := true, laidKinds := [.data, .data, .data, .sentinel, .sentinel, .data], laidTests := true, laidLooks := .later }
def FnEntityUptoCardSaid : Prop := Claim7.holds Tryz.pinned (.plain (OpenSpec.upto fnEntitySpec)) fnEntityUptoCard
end Rows
end Go.Proofs.YthgdgpoblbblpaaGreatDoor
