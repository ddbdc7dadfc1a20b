/- Walks of the functions of this seat that tell the class of one byte: each returns what the plain function of that class says, and leaves the world as it was. Condition: none. -/
import Derived.Test.YtfnhikhgkkopfaaGreatDoorPlain
import Derived.Test.YtfnhikhgkkopfaaGreatDoorRows
namespace Go.Proofs.YtfnhikhgkkopfaaGreatDoor.W
open Go.RowKit

theorem isLetter_c (c : Int) (w : World) : Calls Tryz.prog 25 #[.int .u8 c] w fun e w1 => e = .returned (.bool (letB c)) ∧ w = w1 := by
  go_enter Tryz.func25, Tryz.ntmps25
  go_wp2
  all_goals (go_ret; refine ⟨retBool ?_, rfl⟩; rw [Bool.eq_iff_iff, letB_iff]; simp <;> omega)
theorem isLetterDigit_c (c : Int) (w : World) : Calls Tryz.prog 33 #[.int .u8 c] w fun e w1 => e = .returned (.bool (ldB c)) ∧ w = w1 := by
  go_enter Tryz.func33, Tryz.ntmps33
  go_wp2
  all_goals (go_ret; refine ⟨retBool ?_, rfl⟩; rw [Bool.eq_iff_iff, ldB_iff]; simp <;> omega)
theorem isLDH_c (c : Int) (w : World) : Calls Tryz.prog 28 #[.int .u8 c] w fun e w1 => e = .returned (.bool (ldhB c)) ∧ w = w1 := by
  go_enter Tryz.func28, Tryz.ntmps28
  go_wp2_with (go_at_call 33; refine (isLetterDigit_c _ _).mono ?_; rintro e w1 ⟨rfl, rfl⟩)
  all_goals (go_ret; refine ⟨retBool ?_, rfl⟩; rw [Bool.eq_iff_iff, ldhB_iff]; simp [ldB] at * <;> omega)

end Go.Proofs.YtfnhikhgkkopfaaGreatDoor.W
