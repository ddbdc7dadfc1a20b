/- Plain words on labels as they are compared: blanks at both ends away, one space for blanks within, small letters; that this is idempotent, and does not see letters' case nor blanks at the ends. No program in sight. -/
import Derived.Test.YtonadaoehhlafaaDoorStr
namespace Go.Proofs.YtonadaoehhlafaaDoor.W
open Go.RowKit Go.PlainAid

def blkB (c : Int) : Bool := decide (c = 32 ∨ c = 9 ∨ c = 10)
def lowC (c : Int) : Int := if 65 ≤ c ∧ c ≤ 90 then c + 32 else c
def upC (c : Int) : Int := if 97 ≤ c ∧ c ≤ 122 then c - 32 else c
def byteOf (c : Int) : UInt8 := UInt8.ofNat c.toNat
theorem byteOf_toNat {c : Int} (h0 : 0 ≤ c) (h1 : c ≤ 255) : ((byteOf c).toNat : Int) = c := by
  unfold byteOf
  rw [UInt8.toNat_ofNat']; omega
/-- what is read so far, and whether a blank is owed -/
def stepF (st : List UInt8 × Bool) (c : Int) : List UInt8 × Bool :=
  if blkB c = true then (st.1, !st.1.isEmpty) else (st.1 ++ (if st.2 = true then [32] else []) ++ [byteOf (lowC c)], false)
def F (f : Nat → Int) : Nat → List UInt8 × Bool
  | 0 => ([], false)
  | k + 1 => stepF (F f k) (f k)
theorem F_congr {f g : Nat → Int} : ∀ k, (∀ j, j < k → f j = g j) → F f k = F g k
  | 0, _ => rfl
  | k + 1, h => by rw [F, F, F_congr k (fun j hj => h j (by omega)), h k (by omega)]
theorem F_add (f : Nat → Int) (a : Nat) (h : F f a = ([], false)) : ∀ k, F f (a + k) = F (fun j => f (a + j)) k
  | 0 => h
  | k + 1 => by rw [← Nat.add_assoc, F, F, F_add f a h k]
theorem F_lead (f : Nat → Int) : ∀ a, (∀ j, j < a → blkB (f j) = true) → F f a = ([], false)
  | 0, _ => rfl
  | a + 1, h => by
    rw [F, F_lead f a (fun j hj => h j (by omega)), stepF, if_pos (h a (by omega))]; rfl
theorem F_tail (f : Nat → Int) (j : Nat) : ∀ m, (∀ i, j ≤ i → i < j + m → blkB (f i) = true) → (F f (j + m)).1 = (F f j).1
  | 0, _ => rfl
  | m + 1, h => by
    rw [← Nat.add_assoc, F, stepF, if_pos (h (j + m) (by omega) (by omega))]
    exact F_tail f j m (fun i h1 h2 => h i h1 (by omega))
theorem F_ne (f : Nat → Int) (h0 : blkB (f 0) = false) : ∀ k, (F f (k + 1)).1 ≠ []
  | 0 => by rw [F, F, stepF, h0]; simp
  | k + 1 => by
    rw [F, stepF]
    split
    · exact F_ne f h0 k
    · simp
theorem F_owed (f : Nat → Int) : ∀ k, (F f k).2 = true → (F f k).1 ≠ []
  | 0, h => by simp [F] at h
  | k + 1, h => by
    rw [F, stepF] at h ⊢
    split at h
    · rename_i hb
      rw [if_pos hb]
      simpa using h
    · cases h
theorem F_len (f : Nat → Int) : ∀ k, (F f k).1.length ≤ 2 * k
  | 0 => by simp [F]
  | k + 1 => by
    have := F_len f k
    rw [F, stepF]
    split
    · show (F f k).1.length ≤ _; omega
    · show ((F f k).1 ++ _ ++ _).length ≤ _
      rw [List.length_append, List.length_append]
      split <;> simp <;> omega

/-! ### the letters' case -/
theorem blank_up (c : Int) : blkB (upC c) = blkB c := by
  unfold upC blkB
  split
  · rw [decide_eq_decide]; omega
  · rfl
theorem low_up (c : Int) : lowC (upC c) = lowC c := by unfold lowC upC; split <;> split <;> first | omega | (split <;> omega)
theorem F_up (f : Nat → Int) : ∀ k, F (fun j => upC (f j)) k = F f k
  | 0 => rfl
  | k + 1 => by rw [F, F, F_up f k, stepF, stepF, blank_up, low_up]

/-! ### once more -/
theorem blank_low {c : Int} (h : blkB c = false) : blkB (lowC c) = false := by
  unfold lowC
  unfold blkB at h ⊢
  split
  · simp; omega
  · exact h
theorem low_low (c : Int) : lowC (lowC c) = lowC c := by unfold lowC; split <;> first | omega | (split <;> omega)
theorem low_bd {c : Int} (h0 : 0 ≤ c) (h1 : c ≤ 127) : 0 ≤ lowC c ∧ lowC c ≤ 127 := by unfold lowC; split <;> omega
def at0 (l : List UInt8) (k : Nat) : Int := ((l.getD k 0).toNat : Int)
theorem at0_l {a b : List UInt8} {k : Nat} (h : k < a.length) : at0 (a ++ b) k = at0 a k := by
  unfold at0; rw [List.getD_eq_getElem?_getD, List.getD_eq_getElem?_getD, List.getElem?_append_left h]
theorem at0_one (a : List UInt8) (c : UInt8) : at0 (a ++ [c]) a.length = (c.toNat : Int) := by
  unfold at0; rw [List.getD_eq_getElem?_getD, List.getElem?_append_right (Nat.le_refl _)]; simp
/-- one letter more is read -/
theorem F_snoc (a : List UInt8) (c : UInt8) : F (at0 (a ++ [c])) (a.length + 1) = stepF (F (at0 a) a.length) (c.toNat : Int) := by
  rw [F, at0_one, F_congr a.length (fun j hj => at0_l hj)]
theorem F_again (f : Nat → Int) (hf : ∀ j, 0 ≤ f j ∧ f j ≤ 127) : ∀ k, F (at0 (F f k).1) (F f k).1.length = ((F f k).1, false)
  | 0 => rfl
  | k + 1 => by
    have ih := F_again f hf k
    have ho := F_owed f k
    obtain ⟨h0, h1⟩ := hf k
    obtain ⟨b0, b1⟩ := low_bd h0 h1
    rw [F, stepF]
    cases hb : blkB (f k)
    · rw [if_neg (by simp)]
      have e1 : ((byteOf (lowC (f k))).toNat : Int) = lowC (f k) := byteOf_toNat b0 (by omega)
      cases h2 : (F f k).2
      · simp only [List.append_nil, Bool.false_eq_true, if_false]
        rw [List.length_append, List.length_singleton, F_snoc, ih, e1, stepF, blank_low hb, low_low]
        simp
      · simp only [if_true]
        have e2 : F (at0 ((F f k).1 ++ [32])) ((F f k).1.length + 1) = ((F f k).1, true) := by
          rw [F_snoc, ih, stepF]
          have : ((F f k).1).isEmpty = false := by
            cases hh : (F f k).1
            · exact absurd hh (ho h2)
            · rfl
          rw [if_pos (by decide)]
          simp [this]
        have e3 := F_snoc ((F f k).1 ++ [32]) (byteOf (lowC (f k)))
        rw [List.length_append, List.length_singleton] at e3
        rw [List.length_append, List.length_append, List.length_singleton, List.length_singleton, e3, e2, e1, stepF, blank_low hb, low_low]
        simp
    · rw [if_pos rfl]
      exact ih

/-! ### what the letters are -/
theorem F_letters (f : Nat → Int) (P : Int → Prop) (h32 : P 32) : ∀ k, (∀ j, j < k → 0 ≤ f j ∧ f j ≤ 127 ∧ (blkB (f j) = false → P (lowC (f j)))) → ∀ i, i < (F f k).1.length → P (at0 (F f k).1 i)
  | 0, _, i, hi => by simp [F] at hi
  | k + 1, h, i, hi => by
    have ih := F_letters f P h32 k (fun j hj => h j (by omega))
    obtain ⟨h0, h1, hp⟩ := h k (by omega)
    obtain ⟨b0, b1⟩ := low_bd h0 h1
    have e1 : ((byteOf (lowC (f k))).toNat : Int) = lowC (f k) := byteOf_toNat b0 (by omega)
    rw [F, stepF] at hi ⊢
    cases hb : blkB (f k)
    · rw [hb, if_neg (by simp)] at hi
      rw [if_neg (by simp)]
      show P (at0 ((F f k).1 ++ (if (F f k).2 = true then [32] else []) ++ [byteOf (lowC (f k))]) i)
      have hi2 : i < ((F f k).1 ++ (if (F f k).2 = true then [32] else []) ++ [byteOf (lowC (f k))]).length := hi
      by_cases hl : i < (F f k).1.length
      · rw [List.append_assoc, at0_l hl]; exact ih i hl
      · cases h2 : (F f k).2
        · rw [h2] at hi2
          simp at hi2
          have : i = (F f k).1.length := by omega
          subst this
          simp only [Bool.false_eq_true, if_false, List.append_nil]
          rw [at0_one, e1]; exact hp hb
        · rw [h2] at hi2
          simp at hi2
          simp only [if_true]
          by_cases e : i = (F f k).1.length
          · subst e
            rw [at0_l (by simp), at0_one]; exact h32
          · have : i = ((F f k).1 ++ [(32 : UInt8)]).length := by simp; omega
            rw [this, at0_one, e1]; exact hp hb
    · rw [hb, if_pos rfl] at hi
      rw [if_pos rfl]
      exact ih i hi
end Go.Proofs.YtonadaoehhlafaaDoor.W
