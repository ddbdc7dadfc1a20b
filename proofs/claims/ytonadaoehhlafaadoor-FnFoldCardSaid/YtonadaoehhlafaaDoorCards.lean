/-
  DERIVED. GIVEN WITH THE SEED: THE CARDS: each row of YtonadaoehhlafaaDoorRows.lean that lists a variable, with what it lists TIED to the program's text (the seventh form; the later family's looks); each row that meets fmt, with fmt's text TOLD by the authors' own Lean function (tested against real Go, not proved from fmt's source: count such statements apart). THE CARD IS WHAT COUNTS. Prove the row's statement (the work); the ties are given (YtonadaoehhlafaaDoorTie.lean); close each card by the builder's one call (the guide's Derived/Test/ToyasCard.lean, 'card_holds'). Laid BY PROGRAM, IN A SANDBOX (cutbox-door.mjs). By AI agents, Wed Nov 11 2026. No macro, syntax, notation, axiom, sorry.
-/
import Derived.Test.YtonadaoehhlafaaDoorRows
import GoSem.ClaimSeven
namespace Go.Proofs.YtonadaoehhlafaaDoor
namespace Rows

/-- THE TIED CARD OF 'laws.FnFold'. -/
def fnFoldCard : Claim7 := { stood := { row := fnFoldRow, standIns := [], harness := (true, "f4702db3b0b27697a2b76a47f30720d16805d04eac70bb9cca45c958674eb366"), looks := false }, kinds := [], alts := [], laidByText := true, laidKinds := [.data, .pinned], laidTests := true, laidLooks := .later }
def FnFoldCardSaid : Prop := Claim7.holds Tryd.pinned (.plain (OpenSpec.ofChange fnFoldSpec)) fnFoldCard

/-- THE TIED CARD OF 'laws.FnTableStart'. -/
def fnTableStartCard : Claim7 := { stood := { row := fnTableStartRow, standIns := [], harness := (true, "f4702db3b0b27697a2b76a47f30720d16805d04eac70bb9cca45c958674eb366"), looks := false }, kinds := [], alts := [], laidByText := true, laidKinds := [.data, .pinned], laidTests := true, laidLooks := .later }
def FnTableStartCardSaid : Prop := Claim7.holds Tryd.pinned (.plain (OpenSpec.ofChange fnTableStartSpec)) fnTableStartCard

/-- THE SECOND FORM's CARD OF 'laws.FnFold'. -/
def fnFoldUptoCard : Claim7 := { stood := { row := fnFoldUptoRow, standIns := [], harness := (true, "f4702db3b0b27697a2b76a47f30720d16805d04eac70bb9cca45c958674eb366"), looks := false }, kinds := [], alts := [], laidByText := true, laidKinds := [.data, .pinned], laidTests := true, laidLooks := .later }
def FnFoldUptoCardSaid : Prop := Claim7.holds Tryd.pinned (.plain (OpenSpec.upto fnFoldSpec)) fnFoldUptoCard

/-- THE SECOND FORM's CARD OF 'laws.FnTableStart'. -/
def fnTableStartUptoCard : Claim7 := { stood := { row := fnTableStartUptoRow, standIns := [], harness := (true, "f4702db3b0b27697a2b76a47f30720d16805d04eac70bb9cca45c958674eb366"), looks := false }, kinds := [], alts := [], laidByText := true, laidKinds := [.data, .pinned], laidTests := true, laidLooks := .later }
def FnTableStartUptoCardSaid : Prop := Claim7.holds Tryd.pinned (.plain (OpenSpec.upto fnTableStartSpec)) fnTableStartUptoCard
end Rows
end Go.Proofs.YtonadaoehhlafaaDoor
