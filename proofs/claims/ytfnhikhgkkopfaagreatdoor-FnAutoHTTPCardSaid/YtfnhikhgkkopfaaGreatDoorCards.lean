/-
  DERIVED. GIVEN WITH THE SEED: THE CARDS: each row of YtfnhikhgkkopfaaGreatDoorRows.lean that lists a variable, with what it lists TIED to the program's text (the seventh form; the later family's looks); each row that meets fmt, with fmt's text TOLD by the authors' own Lean function (tested against real Go, not proved from fmt's source: count such statements apart). THE CARD IS WHAT COUNTS. Prove the row's statement (the work); the ties are given (YtfnhikhgkkopfaaGreatDoorTie.lean); close each card by the builder's one call (the guide's Derived/Test/ToyasCard.lean, 'card_holds'). Laid BY PROGRAM, IN A SANDBOX (cutbox-door.mjs). By AI agents, Wed Nov 11 2026. No macro, syntax, notation, axiom, sorry.
-/
import Derived.Test.YtfnhikhgkkopfaaGreatDoorRows
import GoSem.ClaimSeven
namespace Go.Proofs.YtfnhikhgkkopfaaGreatDoor
namespace Rows

/-- THE TIED CARD OF 'laws.FnAutoHTTP'. -/
def fnAutoHTTPCard : Claim7 := { stood := { row := fnAutoHTTPRow, standIns := [], harness := (true, "26d24d2c9fc30eab418ed1b58f053a63ace2f465e403e6576f04edc098a5e84a"), looks := true }, kinds := [], alts := [], laidByText := true, laidKinds := [.data, .pinned], laidTests := true, laidLooks := .later }
def FnAutoHTTPCardSaid : Prop := Claim7.holds Tryz.pinned (.plain (OpenSpec.ofChange fnAutoHTTPSpec)) fnAutoHTTPCard

/-- THE SECOND FORM's CARD OF 'laws.FnAutoHTTP'. -/
def fnAutoHTTPUptoCard : Claim7 := { stood := { row := fnAutoHTTPUptoRow, standIns := [], harness := (true, "26d24d2c9fc30eab418ed1b58f053a63ace2f465e403e6576f04edc098a5e84a"), looks := true }, kinds := [], alts := [], laidByText := true, laidKinds := [.data, .pinned], laidTests := true, laidLooks := .later }
def FnAutoHTTPUptoCardSaid : Prop := Claim7.holds Tryz.pinned (.plain (OpenSpec.upto fnAutoHTTPSpec)) fnAutoHTTPUptoCard
end Rows
end Go.Proofs.YtfnhikhgkkopfaaGreatDoor
