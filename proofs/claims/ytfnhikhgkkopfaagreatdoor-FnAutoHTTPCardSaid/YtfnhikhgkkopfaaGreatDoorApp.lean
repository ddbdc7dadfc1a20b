/- Plain words on strings laid one behind the other. No program in sight. No conditions. -/
import Derived.Test.YtfnhikhgkkopfaaGreatDoorStr
namespace Go.Proofs.YtfnhikhgkkopfaaGreatDoor.W
open Go.RowKit Go.PlainAid
/-! ### strings one behind the other -/
theorem size_app (a b : ByteArray) : (a ++ b).size = a.size + b.size := by simp
theorem bt_app_l (a b : ByteArray) {k : Nat} (h : k < a.size) : bt (a ++ b) k = bt a k := by
  unfold bt
  rw [dif_pos (by rw [size_app]; omega), dif_pos h, ByteArray.getElem_append_left h]
theorem bt_app_r (a b : ByteArray) {k : Nat} (h : a.size ≤ k) : bt (a ++ b) k = bt b (k - a.size) := by
  unfold bt
  by_cases h1 : k - a.size < b.size
  · rw [dif_pos (by rw [size_app]; omega), dif_pos h1, ByteArray.getElem_append_right h]
  · rw [dif_neg (by rw [size_app]; omega), dif_neg h1]
end Go.Proofs.YtfnhikhgkkopfaaGreatDoor.W
