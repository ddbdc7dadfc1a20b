/- Walks of isUnicodeSpace and isUnicodePunct at characters of ASCII, through the doors of impl. Condition: the character lies in ASCII. -/
import Derived.Test.YtfnhikhgkkopfaaGreatDoorBytes
namespace Go.Proofs.YtfnhikhgkkopfaaGreatDoor.W
open Go.RowKit

def uspB (c : Int) : Bool := decide (c = 32 ∨ c = 9 ∨ c = 12 ∨ c = 10)
theorem uspB_iff (c : Int) : uspB c = true ↔ (c = 32 ∨ c = 9 ∨ c = 12 ∨ c = 10) := by simp [uspB]
theorem isUnicodeSpace_c (c : Int) (h0 : 0 ≤ c) (h1 : c < 128) (w : World) : Calls Tryz.prog 37 #[.int .i32 c] w fun e w1 => e = .returned (.bool (uspB c)) ∧ w = w1 := by
  go_enter Tryz.func37, Tryz.ntmps37
  go_wp2
  all_goals (have _h0 := h0; go_ret; refine ⟨retBool ?_, rfl⟩; simp [uspB] at * <;> first | omega | (rw [Bool.eq_iff_iff]; simp <;> omega))

end Go.Proofs.YtfnhikhgkkopfaaGreatDoor.W
