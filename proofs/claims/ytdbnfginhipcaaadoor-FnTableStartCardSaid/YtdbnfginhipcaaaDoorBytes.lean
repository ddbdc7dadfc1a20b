/- Walks of the functions of this seat that tell the class of one byte: each returns what the plain function of that class says, and leaves the world as it was. Condition: none. -/
import Derived.Test.YtdbnfginhipcaaaDoorPlain
import Derived.Test.YtdbnfginhipcaaaDoorRows
namespace Go.Proofs.YtdbnfginhipcaaaDoor.W
open Go.RowKit

theorem isTableSpace_c (c : Int) (w : World) : Calls Tryd.prog 9 #[.int .u8 c] w fun e w1 => e = .returned (.bool (tspB c)) ∧ w = w1 := by
  go_enter Tryd.func9, Tryd.ntmps9
  go_wp2
  all_goals (go_ret; refine ⟨retBool ?_, rfl⟩; rw [Bool.eq_iff_iff, tspB_iff]; simp <;> omega)

end Go.Proofs.YtdbnfginhipcaaaDoor.W
