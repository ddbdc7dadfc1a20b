/- Walks of the functions of this seat that tell the class of one byte: each returns what the plain function of that class says, and leaves the world as it was. Condition: none. -/
import Derived.Test.YtonadaoehhlafaaPlain
import Derived.Test.YtonadaoehhlafaaRows
namespace Go.Proofs.Ytonadaoehhlafaa.W
open Go.RowKit

theorem IsLetter_c (c : Int) (w : World) : Calls Try.prog 14 #[.int .u8 c] w fun e w1 => e = .returned (.bool (letB c)) ∧ w = w1 := by
  go_enter Try.func14, Try.ntmps14
  go_wp2
  all_goals (go_ret; refine ⟨retBool ?_, rfl⟩; rw [Bool.eq_iff_iff, letB_iff]; simp <;> omega)
theorem IsDigit_c (c : Int) (w : World) : Calls Try.prog 15 #[.int .u8 c] w fun e w1 => e = .returned (.bool (digB c)) ∧ w = w1 := by
  go_enter Try.func15, Try.ntmps15
  go_wp2
  all_goals (go_ret; refine ⟨retBool ?_, rfl⟩; rw [Bool.eq_iff_iff, digB_iff]; simp <;> omega)
theorem IsHex_c (c : Int) (w : World) : Calls Try.prog 19 #[.int .u8 c] w fun e w1 => e = .returned (.bool (hexB c)) ∧ w = w1 := by
  go_enter Try.func19, Try.ntmps19
  go_wp2_with (go_at_call 15; refine (IsDigit_c _ _).mono ?_; rintro e w1 ⟨rfl, rfl⟩)
  all_goals (go_ret; refine ⟨retBool ?_, rfl⟩; rw [Bool.eq_iff_iff, hexB_iff]; simp [digB] at * <;> omega)
theorem IsBlank_c (c : Int) (w : World) : Calls Try.prog 28 #[.int .u8 c] w fun e w1 => e = .returned (.bool (blankB c)) ∧ w = w1 := by
  go_enter Try.func28, Try.ntmps28
  go_wp2
  all_goals (go_ret; refine ⟨retBool ?_, rfl⟩; rw [Bool.eq_iff_iff, blankB_iff]; simp <;> omega)
theorem IsPunct_c (c : Int) (w : World) : Calls Try.prog 32 #[.int .u8 c] w fun e w1 => e = .returned (.bool (punctB c)) ∧ w = w1 := by
  go_enter Try.func32, Try.ntmps32
  go_wp2
  all_goals (go_ret; refine ⟨retBool ?_, rfl⟩; rw [Bool.eq_iff_iff, punctB_iff]; simp <;> omega)
theorem isLetter_c (c : Int) (w : World) : Calls Try.prog 63 #[.int .u8 c] w fun e w1 => e = .returned (.bool (letB c)) ∧ w = w1 := by
  go_enter Try.func63, Try.ntmps63
  go_wp2
  all_goals (go_ret; refine ⟨retBool ?_, rfl⟩; rw [Bool.eq_iff_iff, letB_iff]; simp <;> omega)
theorem isHexDigit_c (c : Int) (w : World) : Calls Try.prog 62 #[.int .u8 c] w fun e w1 => e = .returned (.bool (hexB c)) ∧ w = w1 := by
  go_enter Try.func62, Try.ntmps62
  go_wp2
  all_goals (go_ret; refine ⟨retBool ?_, rfl⟩; rw [Bool.eq_iff_iff, hexB_iff]; simp <;> omega)
theorem isLetterDigit_c (c : Int) (w : World) : Calls Try.prog 61 #[.int .u8 c] w fun e w1 => e = .returned (.bool (ldB c)) ∧ w = w1 := by
  go_enter Try.func61, Try.ntmps61
  go_wp2
  all_goals (go_ret; refine ⟨retBool ?_, rfl⟩; rw [Bool.eq_iff_iff, ldB_iff]; simp <;> omega)
theorem isLDH_c (c : Int) (w : World) : Calls Try.prog 64 #[.int .u8 c] w fun e w1 => e = .returned (.bool (ldhB c)) ∧ w = w1 := by
  go_enter Try.func64, Try.ntmps64
  go_wp2_with (go_at_call 61; refine (isLetterDigit_c _ _).mono ?_; rintro e w1 ⟨rfl, rfl⟩)
  all_goals (go_ret; refine ⟨retBool ?_, rfl⟩; rw [Bool.eq_iff_iff, ldhB_iff]; simp [ldB] at * <;> omega)
theorem isScheme_c (c : Int) (w : World) : Calls Try.prog 51 #[.int .u8 c] w fun e w1 => e = .returned (.bool (schemeB c)) ∧ w = w1 := by
  go_enter Try.func51, Try.ntmps51
  go_wp2_with (go_at_call 61; refine (isLetterDigit_c _ _).mono ?_; rintro e w1 ⟨rfl, rfl⟩)
  all_goals (go_ret; refine ⟨retBool ?_, rfl⟩; rw [Bool.eq_iff_iff, schemeB_iff]; simp [ldB] at * <;> omega)
theorem isPunct_c (c : Int) (w : World) : Calls Try.prog 66 #[.int .u8 c] w fun e w1 => e = .returned (.bool (punctB c)) ∧ w = w1 := by
  go_enter Try.func66, Try.ntmps66
  go_wp2
  all_goals (go_ret; refine ⟨retBool ?_, rfl⟩; rw [Bool.eq_iff_iff, punctB_iff]; simp <;> omega)
theorem isTableSpace_c (c : Int) (w : World) : Calls Try.prog 50 #[.int .u8 c] w fun e w1 => e = .returned (.bool (tspB c)) ∧ w = w1 := by
  go_enter Try.func50, Try.ntmps50
  go_wp2
  all_goals (go_ret; refine ⟨retBool ?_, rfl⟩; rw [Bool.eq_iff_iff, tspB_iff]; simp <;> omega)
theorem ZZIsScheme_c (c : Int) (w : World) : Calls Try.prog 35 #[.int .u8 c] w fun e w1 => e = .returned (.bool (schemeB c)) ∧ w = w1 := by
  go_enter Try.func35, Try.ntmps35
  go_wp2_with (go_at_call 51; refine (isScheme_c _ _).mono ?_; rintro e w1 ⟨rfl, rfl⟩)
  go_ret; exact ⟨rfl, rfl⟩
theorem ZZIsTableSpace_c (c : Int) (w : World) : Calls Try.prog 34 #[.int .u8 c] w fun e w1 => e = .returned (.bool (tspB c)) ∧ w = w1 := by
  go_enter Try.func34, Try.ntmps34
  go_wp2_with (go_at_call 50; refine (isTableSpace_c _ _).mono ?_; rintro e w1 ⟨rfl, rfl⟩)
  go_ret; exact ⟨rfl, rfl⟩
theorem zIsScheme_c (c : Int) (w : World) : Calls Try.prog 13 #[.int .u8 c] w fun e w1 => e = .returned (.bool (schemeB c)) ∧ w = w1 := by
  go_enter Try.func13, Try.ntmps13
  go_wp2_with (go_at_call 35; refine (ZZIsScheme_c _ _).mono ?_; rintro e w1 ⟨rfl, rfl⟩)
  go_ret; exact ⟨rfl, rfl⟩
theorem zIsTableSpace_c (c : Int) (w : World) : Calls Try.prog 12 #[.int .u8 c] w fun e w1 => e = .returned (.bool (tspB c)) ∧ w = w1 := by
  go_enter Try.func12, Try.ntmps12
  go_wp2_with (go_at_call 34; refine (ZZIsTableSpace_c _ _).mono ?_; rintro e w1 ⟨rfl, rfl⟩)
  go_ret; exact ⟨rfl, rfl⟩

end Go.Proofs.Ytonadaoehhlafaa.W
