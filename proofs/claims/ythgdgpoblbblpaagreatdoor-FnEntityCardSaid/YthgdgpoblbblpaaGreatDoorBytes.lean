/- Walks of the functions of this seat that tell the class of one byte: each returns what the plain function of that class says, and leaves the world as it was. Condition: none. -/
import Derived.Test.YthgdgpoblbblpaaGreatDoorPlain
import Derived.Test.YthgdgpoblbblpaaGreatDoorRows
namespace Go.Proofs.YthgdgpoblbblpaaGreatDoor.W
open Go.RowKit

theorem IsLetter_c (c : Int) (w : World) : Calls Tryz.prog 9 #[.int .u8 c] w fun e w1 => e = .returned (.bool (letB c)) ∧ w = w1 := by
  go_enter Tryz.func9, Tryz.ntmps9
  go_wp2
  all_goals (go_ret; refine ⟨retBool ?_, rfl⟩; rw [Bool.eq_iff_iff, letB_iff]; simp <;> omega)
theorem IsDigit_c (c : Int) (w : World) : Calls Tryz.prog 10 #[.int .u8 c] w fun e w1 => e = .returned (.bool (digB c)) ∧ w = w1 := by
  go_enter Tryz.func10, Tryz.ntmps10
  go_wp2
  all_goals (go_ret; refine ⟨retBool ?_, rfl⟩; rw [Bool.eq_iff_iff, digB_iff]; simp <;> omega)
theorem IsHex_c (c : Int) (w : World) : Calls Tryz.prog 14 #[.int .u8 c] w fun e w1 => e = .returned (.bool (hexB c)) ∧ w = w1 := by
  go_enter Tryz.func14, Tryz.ntmps14
  go_wp2_with (go_at_call 10; refine (IsDigit_c _ _).mono ?_; rintro e w1 ⟨rfl, rfl⟩)
  all_goals (go_ret; refine ⟨retBool ?_, rfl⟩; rw [Bool.eq_iff_iff, hexB_iff]; simp [digB] at * <;> omega)
theorem isHexDigit_c (c : Int) (w : World) : Calls Tryz.prog 22 #[.int .u8 c] w fun e w1 => e = .returned (.bool (hexB c)) ∧ w = w1 := by
  go_enter Tryz.func22, Tryz.ntmps22
  go_wp2
  all_goals (go_ret; refine ⟨retBool ?_, rfl⟩; rw [Bool.eq_iff_iff, hexB_iff]; simp <;> omega)
theorem isDigit_c (c : Int) (w : World) : Calls Tryz.prog 24 #[.int .u8 c] w fun e w1 => e = .returned (.bool (digB c)) ∧ w = w1 := by
  go_enter Tryz.func24, Tryz.ntmps24
  go_wp2
  all_goals (go_ret; refine ⟨retBool ?_, rfl⟩; rw [Bool.eq_iff_iff, digB_iff]; simp <;> omega)

end Go.Proofs.YthgdgpoblbblpaaGreatDoor.W
