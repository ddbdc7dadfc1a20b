/- Plain words that join FnFold's walks: once more is as once; letters' case and blanks at the ends are not seen. No program but in the contracts' own words. -/
import Derived.Test.YtonadaoehhlafaaDoorFoldW
namespace Go.Proofs.YtonadaoehhlafaaDoor.W
open Go.RowKit Go.PlainAid

theorem bt_list (l : List UInt8) (k : Nat) : bt ⟨l.toArray⟩ k = at0 l k := by
  unfold at0
  by_cases h : k < l.length
  · have hx := get_bt ⟨l.toArray⟩ k h
    rw [← hx, List.getD_eq_getElem?_getD, List.getElem?_eq_getElem h]
    rfl
  · rw [bt_end _ (show l.length ≤ k from Nat.le_of_not_lt h), List.getD_eq_getElem?_getD, List.getElem?_eq_none (Nat.le_of_not_lt h)]
    rfl
theorem size_list (l : List UInt8) : (⟨l.toArray⟩ : ByteArray).size = l.length := rfl
theorem F_pad (f g : Nat → Int) (n : Nat) (h0 : g 0 = 32) (h1 : ∀ j, j < n → g (1 + j) = upC (f j)) (h2 : g (1 + n) = 10) (h3 : g (1 + n + 1) = 32) : (F g (1 + n + 1 + 1)).1 = (F f n).1 := by
  have e0 : F g 1 = ([], false) := F_lead g 1 (fun j hj => by rw [show j = 0 from by omega, h0]; decide)
  have e1 := F_add g 1 e0 n
  rw [F_congr (f := fun j => g (1 + j)) (g := fun j => upC (f j)) n h1, F_up] at e1
  have e2 := F_tail g (1 + n) 2 (fun i a b => by
    by_cases e : i = 1 + n
    · rw [e, h2]; decide
    · rw [show i = 1 + n + 1 from by omega, h3]; decide)
  rw [show 1 + n + 1 + 1 = 1 + n + 2 from rfl, e2, e1]
theorem bt_upL (s : ByteArray) {k : Nat} (hk : k < s.size) : bt ⟨(upL s).toArray⟩ k = upC (bt s k) := by
  obtain ⟨h, e⟩ := upL_at s hk
  rw [bt_list, ← e]
  unfold at0
  rw [List.getD_eq_getElem?_getD, List.getElem?_eq_getElem h]
  rfl
/-- the text in capital letters, with blanks at both ends -/
def padS (s : ByteArray) : ByteArray := ⟨#[32]⟩ ++ ⟨(upL s).toArray⟩ ++ ⟨#[10, 32]⟩
theorem size_padS (s : ByteArray) : (padS s).size = 1 + s.size + 1 + 1 := by
  have e1 : (⟨(upL s).toArray⟩ : ByteArray).size = s.size := by show (upL s).length = s.size; simp [upL]
  unfold padS
  rw [ByteArray.size_append, ByteArray.size_append, e1]
  rfl
theorem bt_padS (s : ByteArray) : bt (padS s) 0 = 32 ∧ (∀ j, j < s.size → bt (padS s) (1 + j) = upC (bt s j)) ∧ bt (padS s) (1 + s.size) = 10 ∧ bt (padS s) (1 + s.size + 1) = 32 := by
  have hu : (⟨(upL s).toArray⟩ : ByteArray).size = s.size := by show (upL s).length = s.size; simp [upL]
  have hz : ((⟨#[32]⟩ : ByteArray) ++ ⟨(upL s).toArray⟩).size = 1 + s.size := by
    rw [ByteArray.size_append, hu]; rfl
  have h1 : (⟨#[32]⟩ : ByteArray).size = 1 := rfl
  unfold padS
  refine ⟨?_, fun j hj => ?_, ?_, ?_⟩
  · rw [bt_app_l _ _ (by omega), bt_app_l _ _ (by omega)]; rfl
  · rw [bt_app_l _ _ (by omega), bt_app_r _ _ (by omega), h1, Nat.add_sub_cancel_left, bt_upL s hj]
  · rw [bt_app_r _ _ (by omega), hz, Nat.sub_self]; rfl
  · rw [bt_app_r _ _ (by omega), hz, Nat.add_sub_cancel_left]; rfl
theorem F_padS (s : ByteArray) : (F (bt (padS s)) (padS s).size).1 = (F (bt s) s.size).1 := by
  obtain ⟨a, b, c, d⟩ := bt_padS s
  rw [size_padS]
  exact F_pad _ _ _ a b c d
theorem F_twice (s : ByteArray) (h : ∀ k, bt s k ≤ 127) : (F (bt ⟨(F (bt s) s.size).1.toArray⟩) (⟨(F (bt s) s.size).1.toArray⟩ : ByteArray).size).1 = (F (bt s) s.size).1 := by
  have := F_again (bt s) (fun j => ⟨bt_nonneg s j, h j⟩) s.size
  rw [F_congr (f := bt ⟨(F (bt s) s.size).1.toArray⟩) (g := at0 (F (bt s) s.size).1) _ (fun j _ => bt_list _ j)]
  show (F (at0 (F (bt s) s.size).1) (F (bt s) s.size).1.length).1 = _
  rw [this]
/-- what a letter of a label may be -/
theorem padS_ok (s : ByteArray) (h : ∀ k, k < s.size → (bt s k = 10 ∨ 32 ≤ bt s k ∧ bt s k ≤ 126) ∧ bt s k ≠ 91 ∧ bt s k ≠ 93) : ∀ k, k < (padS s).size → bt (padS s) k ≤ 127 ∧ bt (padS s) k ≠ 91 ∧ bt (padS s) k ≠ 93 := by
  intro k hk
  obtain ⟨a, b, c, d⟩ := bt_padS s
  rw [size_padS] at hk
  by_cases e0 : k = 0
  · subst e0; rw [a]; decide
  · by_cases e1 : k = 1 + s.size
    · subst e1; rw [c]; decide
    · by_cases e2 : k = 1 + s.size + 1
      · subst e2; rw [d]; decide
      · obtain ⟨j, rfl⟩ : ∃ j, k = 1 + j := ⟨k - 1, by omega⟩
        rw [b j (by omega)]
        have := h j (by omega)
        unfold upC
        split <;> omega
theorem fold_ok (s : ByteArray) (h : ∀ k, k < s.size → (bt s k = 10 ∨ 32 ≤ bt s k ∧ bt s k ≤ 126) ∧ bt s k ≠ 91 ∧ bt s k ≠ 93) : ∀ k, k < (⟨(F (bt s) s.size).1.toArray⟩ : ByteArray).size → bt ⟨(F (bt s) s.size).1.toArray⟩ k ≤ 127 ∧ bt ⟨(F (bt s) s.size).1.toArray⟩ k ≠ 91 ∧ bt ⟨(F (bt s) s.size).1.toArray⟩ k ≠ 93 := by
  intro k hk
  rw [bt_list]
  refine F_letters (bt s) (fun c => c ≤ 127 ∧ c ≠ 91 ∧ c ≠ 93) (by decide) s.size (fun j hj => ?_) k hk
  have := h j hj
  have b0 := bt_nonneg s j
  refine ⟨b0, by omega, fun _ => ?_⟩
  unfold lowC
  split <;> omega
end Go.Proofs.YtonadaoehhlafaaDoor.W
