/- Walks of isUnicodeSpace and isUnicodePunct at characters of ASCII, through the doors of impl. Condition: the character lies in ASCII. -/
import Derived.Test.YtonadaoehhlafaaBytes
namespace Go.Proofs.Ytonadaoehhlafaa.W
open Go.RowKit

def uspB (c : Int) : Bool := decide (c = 32 ∨ c = 9 ∨ c = 12 ∨ c = 10)
theorem uspB_iff (c : Int) : uspB c = true ↔ (c = 32 ∨ c = 9 ∨ c = 12 ∨ c = 10) := by simp [uspB]
theorem isUnicodeSpace_c (c : Int) (h0 : 0 ≤ c) (h1 : c < 128) (w : World) : Calls Try.prog 60 #[.int .i32 c] w fun e w1 => e = .returned (.bool (uspB c)) ∧ w = w1 := by
  go_enter Try.func60, Try.ntmps60
  go_wp2
  all_goals (have _h0 := h0; go_ret; refine ⟨retBool ?_, rfl⟩; simp [uspB] at * <;> first | omega | (rw [Bool.eq_iff_iff]; simp <;> omega))
theorem isUnicodeSpace_i (c : Int) (h0 : 0 ≤ c) (h1 : c < 128) (w : World) : Calls Try.prog 33 #[.int .i32 c] w fun e w1 => e = .returned (.bool (uspB c)) ∧ w = w1 := by
  go_enter Try.func33, Try.ntmps33
  go_wp2_with (first | (go_at_call 60; refine (isUnicodeSpace_c _ h0 h1 _).mono ?_; rintro e w1 ⟨rfl, rfl⟩) | go_in)
  all_goals (go_ret; exact ⟨rfl, rfl⟩)
theorem isUnicodePunct_i (c : Int) (h0 : 0 ≤ c) (h1 : c < 128) (w : World) : Calls Try.prog 31 #[.int .i32 c] w fun e w1 => e = .returned (.bool (punctB c)) ∧ w = w1 := by
  go_enter Try.func31, Try.ntmps31
  go_wp2_with (first | (go_at_call 66; refine (isPunct_c _ _).mono ?_; rintro e w1 ⟨rfl, rfl⟩) | go_in)
  all_goals (go_ret; exact ⟨rfl, rfl⟩)

end Go.Proofs.Ytonadaoehhlafaa.W
