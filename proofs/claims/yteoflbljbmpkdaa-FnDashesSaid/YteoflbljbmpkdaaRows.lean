/-
  No cell of these rows narrows 'for every input' (looked for: loops, veiled, ifaces, maps, wideKeys, modest, calm, conditions, laid).
  DERIVED. THE GIVEN ROWS OF THIS SEAT. 2 by the template 'for every input the law returns true; each argument reads behind the call as it read before'; 0 by the template 'total and deterministic' (their statements: YteoflbljbmpkdaaTotals.lean).
  GIVEN WITH THE SEED: the statements are not yours to turn. If you find one false, say at which input.
  Laid BY PROGRAM, IN A SANDBOX (cutbox-rows.mjs): the forced cells as the released guide's own fill.sh prints them over the translation 8b4f76a2a3e9e14b… (all of the seat's roots in one cut). By AI agents, Wed Nov 11 2026. No macro, syntax, notation, axiom, sorry.
-/
import Derived.Test.YteoflbljbmpkdaaChecked
import GoSem.Claim
import GoSem.ClaimJoined
import GoSem.ClaimMapViews
import Derived.JoinedTies
import Derived.KernelRfl
namespace Go.Proofs.Yteoflbljbmpkdaa
/- THE CELL 'sum', in the pinned program and in every row, IS THE sha256 OF THE DUMP (.gsa) THAT YteoflbljbmpkdaaProg.lean LOADS. Nothing in Lean hashes anything: it is a label: what it is worth is what the hold of that sum in a sandbox is worth. -/
noncomputable def Try.pinned : Pinned := { name := "yteoflbljbmpkdaa", sum := "8b4f76a2a3e9e14bfb331422abd3268bdc48383142660a334a69f2708a753bd6", checked := Try.checked }
namespace Rows
def none {H : Type} : Left H := { results := [], args := [] }

/-- 'laws.FnCode': WHATEVER THE INPUT: true; the input reads as it did. -/
def fnCodeSpec : ChangeSpec := { name := "fnCode", fn := fun _ => fun
  | [d1, d2] => { results := [.lit (.bool true)], args := [d1, d2] }
  | _ => none }
def fnCodeRow : OpenClaim := { program := "yteoflbljbmpkdaa", sum := "8b4f76a2a3e9e14bfb331422abd3268bdc48383142660a334a69f2708a753bd6", func := "pub-paratext/laws.FnCode", spec := "fnCode", recurses := true, apart := false }
def FnCodeSaid : Prop := fnCodeRow.holds Try.pinned (OpenSpec.ofChange fnCodeSpec)

/-- ITS FALSE NEIGHBOUR: 'it returns false'. Refute it at one input. -/
def fnCodeWrong : ChangeSpec := { name := "fnCode", fn := fun _ => fun
  | [d1, d2] => { results := [.lit (.bool false)], args := [d1, d2] }
  | _ => none }
def FnCodeWrongFalsely : Prop := fnCodeRow.holds Try.pinned (OpenSpec.ofChange fnCodeWrong)

/-- 'laws.FnDashes': WHATEVER THE INPUT: true; the input reads as it did. -/
def fnDashesSpec : ChangeSpec := { name := "fnDashes", fn := fun _ => fun
  | [d1, d2, d3] => { results := [.lit (.bool true)], args := [d1, d2, d3] }
  | _ => none }
def fnDashesRow : OpenClaim := { program := "yteoflbljbmpkdaa", sum := "8b4f76a2a3e9e14bfb331422abd3268bdc48383142660a334a69f2708a753bd6", func := "pub-paratext/laws.FnDashes", spec := "fnDashes", inPlace := ["internal/bytealg.IndexByteString", "internal/abi.NoEscape", "internal/bytealg.MakeNoZero"], recurses := true, apart := false }
def FnDashesSaid : Prop := fnDashesRow.holds Try.pinned (OpenSpec.ofChange fnDashesSpec)

/-- ITS FALSE NEIGHBOUR: 'it returns false'. Refute it at one input. -/
def fnDashesWrong : ChangeSpec := { name := "fnDashes", fn := fun _ => fun
  | [d1, d2, d3] => { results := [.lit (.bool false)], args := [d1, d2, d3] }
  | _ => none }
def FnDashesWrongFalsely : Prop := fnDashesRow.holds Try.pinned (OpenSpec.ofChange fnDashesWrong)

/- THE SECOND FORM. 'bulk': how many values and letters a reading holds, each counted each time it is reached (what is shared counts as often as it is met; a slice's spare places count too). A statement '..UptoSaid' is the law's where the arguments, and the package variables that the reading takes, are together of bulk at most 1048576: NARROWER than '..Said'. Prove '..Said' where nothing that the law and all that it calls make is longer than what came in: it says more and counts as full. Else prove '..UptoSaid'. A law counts once. -/
mutual
def uptoBulk {H : Type} : DataW H → Nat
  | .lit (.string bytes) => bytes.length + 1
  | .lit _ => 1
  | .nil => 1
  | .ptr d => uptoBulk d + 1
  | .slice elems spare => uptoBulkAll elems + uptoBulkAll spare + 1
  | .agg parts => uptoBulkAll parts + 1
  | .iface _ d => uptoBulk d + 1
  | .map entries => uptoBulkEntries entries + 1
  | .held _ => 1
def uptoBulkAll {H : Type} : List (DataW H) → Nat
  | [] => 0
  | d :: r => uptoBulk d + uptoBulkAll r
def uptoBulkEntries {H : Type} : List (Lit × DataW H) → Nat
  | [] => 0
  | x :: r => uptoBulkEntry x + uptoBulkEntries r
def uptoBulkEntry {H : Type} : Lit × DataW H → Nat
  | (.string bytes, d) => bytes.length + uptoBulk d + 1
  | (_, d) => uptoBulk d + 1
 end
def uptoSmall : (H : Type) → List (DataW H) → Bool := fun _ ds => decide (uptoBulkAll ds ≤ 1048576)
def OpenSpec.upto (s : _root_.Go.ChangeSpec) : _root_.Go.OpenSpec := { _root_.Go.OpenSpec.ofChange s with cond := some uptoSmall }

/-- 'laws.FnCode', WHERE WHAT IT READS IS OF BULK AT MOST 1048576: true; the input reads as it did. -/
def fnCodeUptoRow : OpenClaim := { program := "yteoflbljbmpkdaa", sum := "8b4f76a2a3e9e14bfb331422abd3268bdc48383142660a334a69f2708a753bd6", func := "pub-paratext/laws.FnCode", spec := "fnCode", recurses := true, apart := false, narrowed := true }
def FnCodeUptoSaid : Prop := fnCodeUptoRow.holds Try.pinned (OpenSpec.upto fnCodeSpec)

/-- 'laws.FnDashes', WHERE WHAT IT READS IS OF BULK AT MOST 1048576: true; the input reads as it did. -/
def fnDashesUptoRow : OpenClaim := { program := "yteoflbljbmpkdaa", sum := "8b4f76a2a3e9e14bfb331422abd3268bdc48383142660a334a69f2708a753bd6", func := "pub-paratext/laws.FnDashes", spec := "fnDashes", inPlace := ["internal/bytealg.IndexByteString", "internal/abi.NoEscape", "internal/bytealg.MakeNoZero"], recurses := true, apart := false, narrowed := true }
def FnDashesUptoSaid : Prop := fnDashesUptoRow.holds Try.pinned (OpenSpec.upto fnDashesSpec)

end Rows
end Go.Proofs.Yteoflbljbmpkdaa
