/- Plain words: the code's test for a span that is not blank, and the reference's, agree. No program in sight. -/
import Derived.Test.YtiilhmagepncgaaTrim2
namespace Go.Proofs.Ytiilhmagepncgaa.W
open Go.RowKit Go.PlainAid

theorem subTo_at (s : ByteArray) : ∀ k j, j < k → ((subTo s k).getD j 0) = byteOf (spC (bt s j))
  | 0, j, h => by omega
  | k + 1, j, h => by
    rw [subTo, List.getD_eq_getElem?_getD]
    by_cases e : j < k
    · rw [List.getElem?_append_left (by rw [subTo_len]; exact e), ← List.getD_eq_getElem?_getD]
      exact subTo_at s k j e
    · obtain rfl : j = k := by omega
      rw [List.getElem?_append_right (by rw [subTo_len]; omega), subTo_len]
      simp
theorem bt_subS (s : ByteArray) {j : Nat} (h : j < s.size) : bt (subS s) j = spC (bt s j) := by
  have hz : j < (subS s).size := by rw [size_subS]; exact h
  have hx := get_bt (subS s) j hz
  have h0 := bt_nonneg s j
  have h1 := bt_le s j
  have e : (subS s)[j] = (subTo s s.size).getD j 0 := by
    rw [List.getD_eq_getElem?_getD, List.getElem?_eq_getElem (by rw [subTo_len]; exact h)]
    rfl
  rw [← hx, e, subTo_at s s.size j h, byteOf_toNat]
  · unfold spC; split <;> omega
  · unfold spC; split <;> omega
theorem filled_iff (s : ByteArray) : ∀ k, filledTo s k = true ↔ ∃ j, j < k ∧ bt s j ≠ 10 ∧ bt s j ≠ 32
  | 0 => by simp [filledTo]
  | k + 1 => by
    rw [filledTo, Bool.or_eq_true, filled_iff s k, decide_eq_true_eq]
    constructor
    · rintro (⟨j, h1, h2⟩ | h)
      · exact ⟨j, by omega, h2⟩
      · exact ⟨k, by omega, h⟩
    · rintro ⟨j, h1, h2⟩
      by_cases e : j = k
      · subst e; exact .inr h2
      · exact .inl ⟨j, by omega, h2⟩
theorem trim2_ne (t : ByteArray) : 0 < (trim2S t).size ↔ ∃ j, j < t.size ∧ sptB (bt t j) = false := by
  have hle := runEnd_le sptB t (i := 0) (by omega)
  have hz : (t.extract (runEnd sptB t 0) t.size).size = t.size - runEnd sptB t 0 := by rw [size_extract]; omega
  have h4 := endOf_le sptB (t.extract (runEnd sptB t 0) t.size) (t.extract (runEnd sptB t 0) t.size).size
  constructor
  · intro h
    unfold trim2S at h
    rw [size_extract] at h
    exact ⟨runEnd sptB t 0, by omega, runEnd_at (by omega) (by omega)⟩
  · rintro ⟨j, h1, h2⟩
    unfold trim2S
    rw [size_extract]
    have a : runEnd sptB t 0 ≤ j := by
      rcases Nat.lt_or_ge j (runEnd sptB t 0) with h | h
      · have := runEnd_in (p := sptB) (Nat.zero_le _) h
        rw [this] at h2; cases h2
      · exact h
    rcases Nat.eq_zero_or_pos (endOf sptB (t.extract (runEnd sptB t 0) t.size) (t.extract (runEnd sptB t 0) t.size).size) with h | h
    · have := endOf_in sptB (t.extract (runEnd sptB t 0) t.size) (t.extract (runEnd sptB t 0) t.size).size (j - runEnd sptB t 0) (by rw [h]; omega) (by omega)
      rw [bt_extract t (by omega) (Nat.le_refl _), show runEnd sptB t 0 + (j - runEnd sptB t 0) = j from by omega, h2] at this
      cases this
    · omega
theorem filled_trim (s : ByteArray) (h9 : ∀ k, k < s.size → bt s k ≠ 9) : 0 < (trim2S (subS s)).size ↔ filledTo s s.size = true := by
  rw [trim2_ne, filled_iff, size_subS]
  constructor
  · rintro ⟨j, h1, h2⟩
    rw [bt_subS s h1] at h2
    have := h9 j h1
    simp only [sptB, decide_eq_false_iff_not] at h2
    unfold spC at h2
    refine ⟨j, h1, ?_⟩
    split at h2 <;> omega
  · rintro ⟨j, h1, h2, h3⟩
    refine ⟨j, h1, ?_⟩
    rw [bt_subS s h1]
    have := h9 j h1
    simp only [sptB, decide_eq_false_iff_not]
    unfold spC
    split <;> omega
end Go.Proofs.Ytiilhmagepncgaa.W
