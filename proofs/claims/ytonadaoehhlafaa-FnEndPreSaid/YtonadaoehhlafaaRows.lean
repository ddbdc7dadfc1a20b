/-
  No cell of these rows narrows 'for every input' (looked for: loops, veiled, ifaces, maps, wideKeys, modest, calm, conditions, laid).
  DERIVED. THE GIVEN ROWS OF THIS SEAT. 9 by the template 'for every input the law returns true; each argument reads behind the call as it read before'; 0 by the template 'total and deterministic' (their statements: YtonadaoehhlafaaTotals.lean).
  GIVEN WITH THE SEED: the statements are not yours to turn. If you find one false, say at which input.
  Laid BY PROGRAM, IN A SANDBOX (cutbox-rows.mjs): the forced cells as the released guide's own fill.sh prints them over the translation 04382182f3f903bd… (all of the seat's roots in one cut). By AI agents, Wed Nov 11 2026. No macro, syntax, notation, axiom, sorry.
-/
import Derived.Test.YtonadaoehhlafaaChecked
import GoSem.Claim
import GoSem.ClaimJoined
import GoSem.ClaimMapViews
import Derived.JoinedTies
import Derived.KernelRfl
namespace Go.Proofs.Ytonadaoehhlafaa
/- THE CELL 'sum', in the pinned program and in every row, IS THE sha256 OF THE DUMP (.gsa) THAT YtonadaoehhlafaaProg.lean LOADS. Nothing in Lean hashes anything: it is a label: what it is worth is what the hold of that sum in a sandbox is worth. -/
noncomputable def Try.pinned : Pinned := { name := "ytonadaoehhlafaa", sum := "04382182f3f903bd54b0ccbe9e3875a8691fa1cabc70e605e56dae624fc8d3cc", checked := Try.checked }
namespace Rows
def none {H : Type} : Left H := { results := [], args := [] }

/-- 'laws.FnTableSpace': WHATEVER THE INPUT: true; the input reads as it did. -/
def fnTableSpaceSpec : ChangeSpec := { name := "fnTableSpace", fn := fun _ => fun
  | [d] => { results := [.lit (.bool true)], args := [d] }
  | _ => none }
def fnTableSpaceRow : OpenClaim := { program := "ytonadaoehhlafaa", sum := "04382182f3f903bd54b0ccbe9e3875a8691fa1cabc70e605e56dae624fc8d3cc", func := "pub-paratext/laws.FnTableSpace", spec := "fnTableSpace", apart := false }
def FnTableSpaceSaid : Prop := fnTableSpaceRow.holds Try.pinned (OpenSpec.ofChange fnTableSpaceSpec)

/-- ITS FALSE NEIGHBOUR: 'it returns false'. Refute it at one input. -/
def fnTableSpaceWrong : ChangeSpec := { name := "fnTableSpace", fn := fun _ => fun
  | [d] => { results := [.lit (.bool false)], args := [d] }
  | _ => none }
def FnTableSpaceWrongFalsely : Prop := fnTableSpaceRow.holds Try.pinned (OpenSpec.ofChange fnTableSpaceWrong)

/-- 'laws.FnScheme': WHATEVER THE INPUT: true; the input reads as it did. -/
def fnSchemeSpec : ChangeSpec := { name := "fnScheme", fn := fun _ => fun
  | [d] => { results := [.lit (.bool true)], args := [d] }
  | _ => none }
def fnSchemeRow : OpenClaim := { program := "ytonadaoehhlafaa", sum := "04382182f3f903bd54b0ccbe9e3875a8691fa1cabc70e605e56dae624fc8d3cc", func := "pub-paratext/laws.FnScheme", spec := "fnScheme", apart := false }
def FnSchemeSaid : Prop := fnSchemeRow.holds Try.pinned (OpenSpec.ofChange fnSchemeSpec)

/-- ITS FALSE NEIGHBOUR: 'it returns false'. Refute it at one input. -/
def fnSchemeWrong : ChangeSpec := { name := "fnScheme", fn := fun _ => fun
  | [d] => { results := [.lit (.bool false)], args := [d] }
  | _ => none }
def FnSchemeWrongFalsely : Prop := fnSchemeRow.holds Try.pinned (OpenSpec.ofChange fnSchemeWrong)

/-- 'laws.FnTableCells': WHATEVER THE INPUT: true; the input reads as it did. -/
def fnTableCellsSpec : ChangeSpec := { name := "fnTableCells", fn := fun _ => fun
  | [d] => { results := [.lit (.bool true)], args := [d] }
  | _ => none }
def fnTableCellsRow : OpenClaim := { program := "ytonadaoehhlafaa", sum := "04382182f3f903bd54b0ccbe9e3875a8691fa1cabc70e605e56dae624fc8d3cc", func := "pub-paratext/laws.FnTableCells", spec := "fnTableCells", apart := false }
def FnTableCellsSaid : Prop := fnTableCellsRow.holds Try.pinned (OpenSpec.ofChange fnTableCellsSpec)

/-- ITS FALSE NEIGHBOUR: 'it returns false'. Refute it at one input. -/
def fnTableCellsWrong : ChangeSpec := { name := "fnTableCells", fn := fun _ => fun
  | [d] => { results := [.lit (.bool false)], args := [d] }
  | _ => none }
def FnTableCellsWrongFalsely : Prop := fnTableCellsRow.holds Try.pinned (OpenSpec.ofChange fnTableCellsWrong)

/-- 'laws.FnCorner': WHATEVER THE INPUT: true; the input reads as it did. -/
def fnCornerSpec : ChangeSpec := { name := "fnCorner", fn := fun _ => fun
  | [d] => { results := [.lit (.bool true)], args := [d] }
  | _ => none }
def fnCornerRow : OpenClaim := { program := "ytonadaoehhlafaa", sum := "04382182f3f903bd54b0ccbe9e3875a8691fa1cabc70e605e56dae624fc8d3cc", func := "pub-paratext/laws.FnCorner", spec := "fnCorner", apart := false }
def FnCornerSaid : Prop := fnCornerRow.holds Try.pinned (OpenSpec.ofChange fnCornerSpec)

/-- ITS FALSE NEIGHBOUR: 'it returns false'. Refute it at one input. -/
def fnCornerWrong : ChangeSpec := { name := "fnCorner", fn := fun _ => fun
  | [d] => { results := [.lit (.bool false)], args := [d] }
  | _ => none }
def FnCornerWrongFalsely : Prop := fnCornerRow.holds Try.pinned (OpenSpec.ofChange fnCornerWrong)

/-- 'laws.FnTagName': WHATEVER THE INPUT: true; the input reads as it did. -/
def fnTagNameSpec : ChangeSpec := { name := "fnTagName", fn := fun _ => fun
  | [d1, d2] => { results := [.lit (.bool true)], args := [d1, d2] }
  | _ => none }
def fnTagNameRow : OpenClaim := { program := "ytonadaoehhlafaa", sum := "04382182f3f903bd54b0ccbe9e3875a8691fa1cabc70e605e56dae624fc8d3cc", func := "pub-paratext/laws.FnTagName", spec := "fnTagName", apart := false }
def FnTagNameSaid : Prop := fnTagNameRow.holds Try.pinned (OpenSpec.ofChange fnTagNameSpec)

/-- ITS FALSE NEIGHBOUR: 'it returns false'. Refute it at one input. -/
def fnTagNameWrong : ChangeSpec := { name := "fnTagName", fn := fun _ => fun
  | [d1, d2] => { results := [.lit (.bool false)], args := [d1, d2] }
  | _ => none }
def FnTagNameWrongFalsely : Prop := fnTagNameRow.holds Try.pinned (OpenSpec.ofChange fnTagNameWrong)

/-- 'laws.FnEndPre': WHATEVER THE INPUT: true; the input reads as it did. -/
def fnEndPreSpec : ChangeSpec := { name := "fnEndPre", fn := fun _ => fun
  | [d] => { results := [.lit (.bool true)], args := [d] }
  | _ => none }
def fnEndPreRow : OpenClaim := { program := "ytonadaoehhlafaa", sum := "04382182f3f903bd54b0ccbe9e3875a8691fa1cabc70e605e56dae624fc8d3cc", func := "pub-paratext/laws.FnEndPre", spec := "fnEndPre", apart := false }
def FnEndPreSaid : Prop := fnEndPreRow.holds Try.pinned (OpenSpec.ofChange fnEndPreSpec)

/-- ITS FALSE NEIGHBOUR: 'it returns false'. Refute it at one input. -/
def fnEndPreWrong : ChangeSpec := { name := "fnEndPre", fn := fun _ => fun
  | [d] => { results := [.lit (.bool false)], args := [d] }
  | _ => none }
def FnEndPreWrongFalsely : Prop := fnEndPreRow.holds Try.pinned (OpenSpec.ofChange fnEndPreWrong)

/-- 'laws.FnElem': WHATEVER THE INPUT: true; the input reads as it did. -/
def fnElemSpec : ChangeSpec := { name := "fnElem", fn := fun _ => fun
  | [d1, d2] => { results := [.lit (.bool true)], args := [d1, d2] }
  | _ => none }
def fnElemRow : OpenClaim := { program := "ytonadaoehhlafaa", sum := "04382182f3f903bd54b0ccbe9e3875a8691fa1cabc70e605e56dae624fc8d3cc", func := "pub-paratext/laws.FnElem", spec := "fnElem", inPlace := ["internal/bytealg.IndexByteString"], apart := false }
def FnElemSaid : Prop := fnElemRow.holds Try.pinned (OpenSpec.ofChange fnElemSpec)

/-- ITS FALSE NEIGHBOUR: 'it returns false'. Refute it at one input. -/
def fnElemWrong : ChangeSpec := { name := "fnElem", fn := fun _ => fun
  | [d1, d2] => { results := [.lit (.bool false)], args := [d1, d2] }
  | _ => none }
def FnElemWrongFalsely : Prop := fnElemRow.holds Try.pinned (OpenSpec.ofChange fnElemWrong)

/-- 'laws.FnAttrValue': WHATEVER THE INPUT: true; the input reads as it did. -/
def fnAttrValueSpec : ChangeSpec := { name := "fnAttrValue", fn := fun _ => fun
  | [d1, d2] => { results := [.lit (.bool true)], args := [d1, d2] }
  | _ => none }
def fnAttrValueRow : OpenClaim := { program := "ytonadaoehhlafaa", sum := "04382182f3f903bd54b0ccbe9e3875a8691fa1cabc70e605e56dae624fc8d3cc", func := "pub-paratext/laws.FnAttrValue", spec := "fnAttrValue", inPlace := ["internal/bytealg.IndexByteString"], apart := false }
def FnAttrValueSaid : Prop := fnAttrValueRow.holds Try.pinned (OpenSpec.ofChange fnAttrValueSpec)

/-- ITS FALSE NEIGHBOUR: 'it returns false'. Refute it at one input. -/
def fnAttrValueWrong : ChangeSpec := { name := "fnAttrValue", fn := fun _ => fun
  | [d1, d2] => { results := [.lit (.bool false)], args := [d1, d2] }
  | _ => none }
def FnAttrValueWrongFalsely : Prop := fnAttrValueRow.holds Try.pinned (OpenSpec.ofChange fnAttrValueWrong)

/-- 'laws.FnRunes': WHATEVER THE INPUT: true; the input reads as it did. -/
def fnRunesSpec : ChangeSpec := { name := "fnRunes", fn := fun _ => fun
  | [d] => { results := [.lit (.bool true)], args := [d] }
  | _ => none }
def fnRunesRow : OpenClaim := { program := "ytonadaoehhlafaa", sum := "04382182f3f903bd54b0ccbe9e3875a8691fa1cabc70e605e56dae624fc8d3cc", func := "pub-paratext/laws.FnRunes", spec := "fnRunes", apart := false }
def FnRunesSaid : Prop := fnRunesRow.holds Try.pinned (OpenSpec.ofChange fnRunesSpec)

/-- ITS FALSE NEIGHBOUR: 'it returns false'. Refute it at one input. -/
def fnRunesWrong : ChangeSpec := { name := "fnRunes", fn := fun _ => fun
  | [d] => { results := [.lit (.bool false)], args := [d] }
  | _ => none }
def FnRunesWrongFalsely : Prop := fnRunesRow.holds Try.pinned (OpenSpec.ofChange fnRunesWrong)

/- THE SECOND FORM. 'bulk': how many values and letters a reading holds, each counted each time it is reached (what is shared counts as often as it is met; a slice's spare places count too). A statement '..UptoSaid' is the law's where the arguments, and the package variables that the reading takes, are together of bulk at most 1048576: NARROWER than '..Said'. Prove '..Said' where nothing that the law and all that it calls make is longer than what came in: it says more and counts as full. Else prove '..UptoSaid'. A law counts once. -/
mutual
def uptoBulk {H : Type} : DataW H → Nat
  | .lit (.string bytes) => bytes.length + 1
  | .lit _ => 1
  | .nil => 1
  | .ptr d => uptoBulk d + 1
  | .slice elems spare => uptoBulkAll elems + uptoBulkAll spare + 1
  | .agg parts => uptoBulkAll parts + 1
  | .iface _ d => uptoBulk d + 1
  | .map entries => uptoBulkEntries entries + 1
  | .held _ => 1
def uptoBulkAll {H : Type} : List (DataW H) → Nat
  | [] => 0
  | d :: r => uptoBulk d + uptoBulkAll r
def uptoBulkEntries {H : Type} : List (Lit × DataW H) → Nat
  | [] => 0
  | x :: r => uptoBulkEntry x + uptoBulkEntries r
def uptoBulkEntry {H : Type} : Lit × DataW H → Nat
  | (.string bytes, d) => bytes.length + uptoBulk d + 1
  | (_, d) => uptoBulk d + 1
 end
def uptoSmall : (H : Type) → List (DataW H) → Bool := fun _ ds => decide (uptoBulkAll ds ≤ 1048576)
def OpenSpec.upto (s : _root_.Go.ChangeSpec) : _root_.Go.OpenSpec := { _root_.Go.OpenSpec.ofChange s with cond := some uptoSmall }

/-- 'laws.FnTableSpace', WHERE WHAT IT READS IS OF BULK AT MOST 1048576: true; the input reads as it did. -/
def fnTableSpaceUptoRow : OpenClaim := { program := "ytonadaoehhlafaa", sum := "04382182f3f903bd54b0ccbe9e3875a8691fa1cabc70e605e56dae624fc8d3cc", func := "pub-paratext/laws.FnTableSpace", spec := "fnTableSpace", apart := false, narrowed := true }
def FnTableSpaceUptoSaid : Prop := fnTableSpaceUptoRow.holds Try.pinned (OpenSpec.upto fnTableSpaceSpec)

/-- 'laws.FnScheme', WHERE WHAT IT READS IS OF BULK AT MOST 1048576: true; the input reads as it did. -/
def fnSchemeUptoRow : OpenClaim := { program := "ytonadaoehhlafaa", sum := "04382182f3f903bd54b0ccbe9e3875a8691fa1cabc70e605e56dae624fc8d3cc", func := "pub-paratext/laws.FnScheme", spec := "fnScheme", apart := false, narrowed := true }
def FnSchemeUptoSaid : Prop := fnSchemeUptoRow.holds Try.pinned (OpenSpec.upto fnSchemeSpec)

/-- 'laws.FnTableCells', WHERE WHAT IT READS IS OF BULK AT MOST 1048576: true; the input reads as it did. -/
def fnTableCellsUptoRow : OpenClaim := { program := "ytonadaoehhlafaa", sum := "04382182f3f903bd54b0ccbe9e3875a8691fa1cabc70e605e56dae624fc8d3cc", func := "pub-paratext/laws.FnTableCells", spec := "fnTableCells", apart := false, narrowed := true }
def FnTableCellsUptoSaid : Prop := fnTableCellsUptoRow.holds Try.pinned (OpenSpec.upto fnTableCellsSpec)

/-- 'laws.FnCorner', WHERE WHAT IT READS IS OF BULK AT MOST 1048576: true; the input reads as it did. -/
def fnCornerUptoRow : OpenClaim := { program := "ytonadaoehhlafaa", sum := "04382182f3f903bd54b0ccbe9e3875a8691fa1cabc70e605e56dae624fc8d3cc", func := "pub-paratext/laws.FnCorner", spec := "fnCorner", apart := false, narrowed := true }
def FnCornerUptoSaid : Prop := fnCornerUptoRow.holds Try.pinned (OpenSpec.upto fnCornerSpec)

/-- 'laws.FnTagName', WHERE WHAT IT READS IS OF BULK AT MOST 1048576: true; the input reads as it did. -/
def fnTagNameUptoRow : OpenClaim := { program := "ytonadaoehhlafaa", sum := "04382182f3f903bd54b0ccbe9e3875a8691fa1cabc70e605e56dae624fc8d3cc", func := "pub-paratext/laws.FnTagName", spec := "fnTagName", apart := false, narrowed := true }
def FnTagNameUptoSaid : Prop := fnTagNameUptoRow.holds Try.pinned (OpenSpec.upto fnTagNameSpec)

/-- 'laws.FnEndPre', WHERE WHAT IT READS IS OF BULK AT MOST 1048576: true; the input reads as it did. -/
def fnEndPreUptoRow : OpenClaim := { program := "ytonadaoehhlafaa", sum := "04382182f3f903bd54b0ccbe9e3875a8691fa1cabc70e605e56dae624fc8d3cc", func := "pub-paratext/laws.FnEndPre", spec := "fnEndPre", apart := false, narrowed := true }
def FnEndPreUptoSaid : Prop := fnEndPreUptoRow.holds Try.pinned (OpenSpec.upto fnEndPreSpec)

/-- 'laws.FnElem', WHERE WHAT IT READS IS OF BULK AT MOST 1048576: true; the input reads as it did. -/
def fnElemUptoRow : OpenClaim := { program := "ytonadaoehhlafaa", sum := "04382182f3f903bd54b0ccbe9e3875a8691fa1cabc70e605e56dae624fc8d3cc", func := "pub-paratext/laws.FnElem", spec := "fnElem", inPlace := ["internal/bytealg.IndexByteString"], apart := false, narrowed := true }
def FnElemUptoSaid : Prop := fnElemUptoRow.holds Try.pinned (OpenSpec.upto fnElemSpec)

/-- 'laws.FnAttrValue', WHERE WHAT IT READS IS OF BULK AT MOST 1048576: true; the input reads as it did. -/
def fnAttrValueUptoRow : OpenClaim := { program := "ytonadaoehhlafaa", sum := "04382182f3f903bd54b0ccbe9e3875a8691fa1cabc70e605e56dae624fc8d3cc", func := "pub-paratext/laws.FnAttrValue", spec := "fnAttrValue", inPlace := ["internal/bytealg.IndexByteString"], apart := false, narrowed := true }
def FnAttrValueUptoSaid : Prop := fnAttrValueUptoRow.holds Try.pinned (OpenSpec.upto fnAttrValueSpec)

/-- 'laws.FnRunes', WHERE WHAT IT READS IS OF BULK AT MOST 1048576: true; the input reads as it did. -/
def fnRunesUptoRow : OpenClaim := { program := "ytonadaoehhlafaa", sum := "04382182f3f903bd54b0ccbe9e3875a8691fa1cabc70e605e56dae624fc8d3cc", func := "pub-paratext/laws.FnRunes", spec := "fnRunes", apart := false, narrowed := true }
def FnRunesUptoSaid : Prop := fnRunesUptoRow.holds Try.pinned (OpenSpec.upto fnRunesSpec)

end Rows
end Go.Proofs.Ytonadaoehhlafaa
