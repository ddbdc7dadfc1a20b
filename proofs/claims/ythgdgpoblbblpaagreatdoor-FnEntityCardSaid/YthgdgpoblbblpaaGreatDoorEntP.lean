/- Walks of parseHTMLEntity: at a numeric reference, and at a name. Condition: the text has at most 300 bytes; the table holds its twelve names. -/
import Derived.Test.YthgdgpoblbblpaaGreatDoorEntNum
import Derived.Test.YthgdgpoblbblpaaGreatDoorEntHtml
import Derived.Test.YthgdgpoblbblpaaGreatDoorEntLib
namespace Go.Proofs.YthgdgpoblbblpaaGreatDoor.W
open Go.RowKit Go.PlainAid
set_option linter.unusedVariables false

def PYes (text : ByteArray) (i j : Nat) (g : Nat) (w : World) (e : Ending) (w1 : World) : Prop :=
  ∃ b, Below g w w1 ∧ b < w1.heap.size ∧ e = .returned (.tuple #[.iface 46 (.pointer (some ⟨b, 0, none⟩)), .int .i64 i, .int .i64 j, .bool true]) ∧ w1.cell? ⟨b, 0, none⟩ = some (.string text)
def PNo (w : World) (e : Ending) (w1 : World) : Prop := w = w1 ∧ e = .returned (.tuple #[.nilIface, .int .i64 0, .int .i64 0, .bool false])
def PRef (s : ByteArray) (v : Int) (i fr most E : Nat) (w : World) (e : Ending) (w1 : World) : Prop :=
  (RefOk s fr most E → PYes (numS v) i (E + 1) w.heap.size w e w1) ∧ (¬ RefOk s fr most E → PNo w e w1)
theorem encode_sur {n : Int} (h0 : 55296 ≤ n) (h1 : n < 57344) : Utf8.encode n = Utf8.encode 65533 := by
  have hv : Utf8.valid n = false := by unfold Utf8.valid; simp; omega
  have hw : Utf8.valid 65533 = true := by decide
  unfold Utf8.encode
  rw [hv, hw]
  rfl
theorem numS_in {n : Int} (h0 : n ≠ 0) (h1 : n ≤ 1114111) : Utf8.encode n = numS n := by
  unfold numS
  split
  · exact encode_sur (by omega) (by omega)
  · rfl
theorem numS_out {n : Int} (h : n = 0 ∨ 1114111 < n) : Utf8.encode 65533 = numS n := by
  unfold numS
  rw [if_pos (by omega)]
theorem cut_num {s : ByteArray} {b fr E : Nat} (h : fr ≤ E) (hE : E ≤ s.size) : numV b (s.extract fr E) 0 (s.extract fr E).size = numV b s fr (E - fr) := by
  rw [show (s.extract fr E).size = E - fr from by rw [size_extract]; omega]
  exact numV_ext (k := E - fr) _ (Nat.le_refl _) fun j hj => bt_extract s (by omega) hE
end Go.Proofs.YthgdgpoblbblpaaGreatDoor.W
