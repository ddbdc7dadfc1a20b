/- Walks of the functions of this seat that tell the class of one byte: each returns what the plain function of that class says, and leaves the world as it was. Condition: none. -/
import Derived.Test.YtonadaoehhlafaaDoorPlain
import Derived.Test.YtonadaoehhlafaaDoorRows
namespace Go.Proofs.YtonadaoehhlafaaDoor.W
open Go.RowKit

theorem IsBlank_c (c : Int) (w : World) : Calls Tryd.prog 13 #[.int .u8 c] w fun e w1 => e = .returned (.bool (blankB c)) ∧ w = w1 := by
  go_enter Tryd.func13, Tryd.ntmps13
  go_wp2
  all_goals (go_ret; refine ⟨retBool ?_, rfl⟩; rw [Bool.eq_iff_iff, blankB_iff]; simp <;> omega)
theorem isTableSpace_c (c : Int) (w : World) : Calls Tryd.prog 28 #[.int .u8 c] w fun e w1 => e = .returned (.bool (tspB c)) ∧ w = w1 := by
  go_enter Tryd.func28, Tryd.ntmps28
  go_wp2
  all_goals (go_ret; refine ⟨retBool ?_, rfl⟩; rw [Bool.eq_iff_iff, tspB_iff]; simp <;> omega)

end Go.Proofs.YtonadaoehhlafaaDoor.W
