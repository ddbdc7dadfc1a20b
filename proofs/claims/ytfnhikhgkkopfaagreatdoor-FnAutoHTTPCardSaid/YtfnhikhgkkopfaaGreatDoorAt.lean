/- Plain words on one text within another; no program in sight. No conditions. -/
import Derived.Test.YtfnhikhgkkopfaaGreatDoorApp
namespace Go.Proofs.YtfnhikhgkkopfaaGreatDoor.W
open Go.RowKit Go.PlainAid

theorem str_of_list {a b : ByteArray} (h : a.toList = b.toList) : a = b := by
  rw [ByteArray.toList_eq, ByteArray.toList_eq] at h
  cases a; cases b; simp_all
/-- does t stand in s at i? -/
def AtS (s t : ByteArray) (i : Nat) : Prop := i + t.size ≤ s.size ∧ s.extract i (i + t.size) = t
theorem atS_bt {s t : ByteArray} {i : Nat} (h : AtS s t i) {k : Nat} (hk : k < t.size) : bt s (i + k) = bt t k := by
  rw [← bt_extract s (a := i) (b := i + t.size) (by omega) h.1, h.2]
theorem atS_mk {s t : ByteArray} {i : Nat} (h : i + t.size ≤ s.size) (h1 : ∀ k, k < t.size → bt s (i + k) = bt t k) : AtS s t i := by
  refine ⟨h, str_ext (by rw [size_extract]; omega) fun k hk => ?_⟩
  rw [size_extract] at hk
  rw [bt_extract s (by omega) h]
  exact h1 k (by omega)
theorem atS_tail {s t : ByteArray} {a k : Nat} (ha : a ≤ s.size) : AtS (s.extract a s.size) t k ↔ AtS s t (a + k) := by
  constructor
  · intro h
    have hz := h.1
    rw [size_extract] at hz
    refine atS_mk (by omega) fun j hj => ?_
    rw [← atS_bt h hj, bt_extract s (by omega) (Nat.le_refl _), Nat.add_assoc]
  · intro h
    have hz := h.1
    refine atS_mk (by rw [size_extract]; omega) fun j hj => ?_
    rw [← atS_bt h hj, bt_extract s (by omega) (Nat.le_refl _), Nat.add_assoc]
/-- the first place from a on, or none -/
theorem first_or_none (p : Nat → Prop) (a : Nat) : ∀ n, (∀ j, a ≤ j → j < a + n → ¬ p j) ∨ ∃ o, a ≤ o ∧ o < a + n ∧ p o ∧ ∀ j, a ≤ j → j < o → ¬ p j
  | 0 => .inl fun j h1 h2 => by omega
  | n + 1 => by
    rcases first_or_none p a n with h | ⟨o, h1, h2, h3, h4⟩
    · by_cases e : p (a + n)
      · exact .inr ⟨a + n, by omega, by omega, e, fun j h1 h2 => h j h1 (by omega)⟩
      · refine .inl fun j h1 h2 => ?_
        by_cases f : j = a + n
        · subst f; exact e
        · exact h j h1 (by omega)
    · exact .inr ⟨o, h1, by omega, h3, h4⟩
theorem atS_first (s t : ByteArray) (a : Nat) : (∀ j, a ≤ j → ¬ AtS s t j) ∨ ∃ o, a ≤ o ∧ AtS s t o ∧ ∀ j, a ≤ j → j < o → ¬ AtS s t j := by
  rcases first_or_none (AtS s t) a (s.size + 1) with h | ⟨o, h1, _, h3, h4⟩
  · refine .inl fun j hj hat => ?_
    have := hat.1
    exact h j hj (by omega) hat
  · exact .inr ⟨o, h1, h3, h4⟩
end Go.Proofs.YtfnhikhgkkopfaaGreatDoor.W
