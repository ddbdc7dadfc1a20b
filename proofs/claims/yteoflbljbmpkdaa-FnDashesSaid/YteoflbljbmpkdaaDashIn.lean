/- Plain words on hyphens between two texts of the letters a, b and spaces. No program in sight. No conditions. -/
import Derived.Test.YteoflbljbmpkdaaOnly
namespace Go.Proofs.Yteoflbljbmpkdaa.W
open Go.RowKit Go.PlainAid

theorem no45 {s : ByteArray} {k : Nat} (hk : k < s.size) (h : OnlyTo s ⟨#[97, 98, 32]⟩ s.size) : bt s k ≠ 45 := fun h1 => by
  have := h k hk
  rw [h1] at this
  revert this
  decide
theorem dash_in2 (a b : ByteArray) : ∀ j, j < 2 → bt (a ++ ⟨#[45, 45]⟩ ++ b) (a.size + j) = 45 := fun j hj => by
  rw [bt_app_l _ _ (by rw [size_app]; show a.size + j < a.size + 2; omega), bt_app_r _ _ (by omega), show a.size + j - a.size = j from by omega]
  match j, hj with
  | 0, _ => rfl
  | 1, _ => rfl
theorem dash_in3 (a b : ByteArray) : ∀ j, j < 3 → bt (a ++ ⟨#[45, 45, 45]⟩ ++ b) (a.size + j) = 45 := fun j hj => by
  rw [bt_app_l _ _ (by rw [size_app]; show a.size + j < a.size + 3; omega), bt_app_r _ _ (by omega), show a.size + j - a.size = j from by omega]
  match j, hj with
  | 0, _ => rfl
  | 1, _ => rfl
  | 2, _ => rfl
theorem dash_no2 (a b : ByteArray) (h : OnlyTo b ⟨#[97, 98, 32]⟩ b.size) : a.size + 2 < (a ++ ⟨#[45, 45]⟩ ++ b).size → bt (a ++ ⟨#[45, 45]⟩ ++ b) (a.size + 2) ≠ 45 := fun hz => by
  have z : (a ++ ⟨#[45, 45]⟩).size = a.size + 2 := by rw [size_app]; rfl
  rw [size_app, z] at hz
  rw [bt_app_r _ _ (by omega)]
  exact no45 (by omega) h
theorem dash_no3 (a b : ByteArray) (h : OnlyTo b ⟨#[97, 98, 32]⟩ b.size) : a.size + 3 < (a ++ ⟨#[45, 45, 45]⟩ ++ b).size → bt (a ++ ⟨#[45, 45, 45]⟩ ++ b) (a.size + 3) ≠ 45 := fun hz => by
  have z : (a ++ ⟨#[45, 45, 45]⟩).size = a.size + 3 := by rw [size_app]; rfl
  rw [size_app, z] at hz
  rw [bt_app_r _ _ (by omega)]
  exact no45 (by omega) h
end Go.Proofs.Yteoflbljbmpkdaa.W
