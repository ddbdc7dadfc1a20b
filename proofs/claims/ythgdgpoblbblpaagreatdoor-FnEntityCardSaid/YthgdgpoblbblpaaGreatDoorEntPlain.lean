/- Plain words on numeric character references: the value of a row of digits to a base. No program in sight. No conditions. -/
import Derived.Test.YthgdgpoblbblpaaGreatDoorApp
import Derived.Lib.Atoi
namespace Go.Proofs.YthgdgpoblbblpaaGreatDoor.W
open Go.RowKit Go.PlainAid

/-- the value of a digit, decimal or hexadecimal -/
def dv (c : Int) : Nat := if 97 ≤ c then (c - 87).toNat else if 65 ≤ c then (c - 55).toNat else (c - 48).toNat
theorem dv_dig {c : Int} (h : digB c = true) : (dv c : Int) = c - 48 ∧ dv c < 10 := by
  have := (digB_iff c).1 h
  unfold dv
  rw [if_neg (by omega), if_neg (by omega)]
  omega
theorem dv_hex {c : Int} (h : hexB c = true) : dv c < 16 := by
  have := (hexB_iff c).1 h
  unfold dv
  split
  · omega
  · split <;> omega
theorem dv_lo {c : Int} (h : 97 ≤ c) : (dv c : Int) = c - 87 := by unfold dv; rw [if_pos h]; omega
theorem dv_up {c : Int} (h : 65 ≤ c) (h1 : c < 97) : (dv c : Int) = c - 55 := by unfold dv; rw [if_neg (by omega), if_pos h]; omega
theorem dv_no {c : Int} (h : 48 ≤ c) (h1 : c < 65) : (dv c : Int) = c - 48 := by unfold dv; rw [if_neg (by omega), if_neg (by omega)]; omega

/-- the value of the k digits that stand at i, to a base -/
def numV (b : Nat) (s : ByteArray) (i : Nat) : Nat → Nat
  | 0 => 0
  | k + 1 => numV b s i k * b + dv (bt s (i + k))
theorem numV_lt {b : Nat} {s : ByteArray} {i : Nat} : ∀ {k : Nat}, (∀ j, j < k → dv (bt s (i + j)) < b) → numV b s i k < b ^ k
  | 0, _ => by simp [numV]
  | k + 1, h => by
    have h1 := numV_lt (k := k) fun j hj => h j (by omega)
    have h2 := h k (by omega)
    have h3 : (numV b s i k + 1) * b ≤ b ^ k * b := Nat.mul_le_mul_right _ h1
    rw [Nat.add_mul, Nat.one_mul] at h3
    rw [Nat.pow_succ, numV]
    omega
theorem numV_le {b m : Nat} {s : ByteArray} {i : Nat} {k : Nat} (hb : 0 < b) (h : ∀ j, j < k → dv (bt s (i + j)) < b) (hk : k ≤ m) : numV b s i k < b ^ m :=
  Nat.lt_of_lt_of_le (numV_lt h) (Nat.pow_le_pow_right hb hk)
theorem numV16 {s : ByteArray} {i k : Nat} (h : ∀ j, j < k → hexB (bt s (i + j)) = true) (hk : k ≤ 6) : numV 16 s i k < 16777216 :=
  numV_le (m := 6) (by omega) (fun j hj => dv_hex (h j hj)) hk
theorem numV10 {s : ByteArray} {i k : Nat} (h : ∀ j, j < k → digB (bt s (i + j)) = true) (hk : k ≤ 7) : numV 10 s i k < 10000000 :=
  numV_le (m := 7) (by omega) (fun j hj => (dv_dig (h j hj)).2) hk
theorem numV_ext {b : Nat} {s t : ByteArray} {i k : Nat} : ∀ n, n ≤ k → (∀ j, j < k → bt t j = bt s (i + j)) → numV b t 0 n = numV b s i n
  | 0, _, _ => rfl
  | n + 1, hn, h => by
    rw [numV, numV, numV_ext n (by omega) h, Nat.zero_add, h n (by omega)]

/-! ### the library's reader of decimal numerals -/
theorem toList_get (s : ByteArray) {k : Nat} (h : k < s.size) : s.data.toList[k]? = some s[k] := by simp [h]; rfl
theorem decFrom_num (s : ByteArray) : ∀ k, k ≤ s.size → (∀ j, j < k → digB (bt s j) = true) → Lib.decFrom 0 (s.data.toList.take k) = some (numV 10 s 0 k)
  | 0, _, _ => rfl
  | k + 1, hk, h => by
    have hd := dv_dig (h k (by omega))
    have hr := (digB_iff _).1 (h k (by omega))
    have hg := get_bt s k (by omega)
    refine Lib.decFrom_take _ k 0 _ _ (dv (bt s k)) (decFrom_num s k (by omega) fun j hj => h j (by omega)) (toList_get s (by omega)) ?_ |>.trans ?_
    · unfold Lib.digitVal
      rw [if_pos (by omega)]
      congr 1
      omega
    · rw [numV, Nat.zero_add]
theorem atoi_num (s : ByteArray) (h0 : 0 < s.size) (h : ∀ j, j < s.size → digB (bt s j) = true) : Lib.atoi s.data.toList = some ((numV 10 s 0 s.size : Nat) : Int) := by
  have hd := decFrom_num s s.size (Nat.le_refl _) h
  have hr := (digB_iff _).1 (h 0 h0)
  have hg := get_bt s 0 h0
  have h1 := toList_get s h0
  have hl : s.data.toList.take s.size = s.data.toList := List.take_of_length_le (by simp)
  rw [hl] at hd
  cases hx : s.data.toList with
  | nil => rw [hx] at h1; cases h1
  | cons b r =>
    rw [hx] at hd h1
    simp only [List.getElem?_cons_zero, Option.some.injEq] at h1
    subst h1
    have n45 : (s[0] == (45 : UInt8)) = false := by
      rw [beq_eq_false_iff_ne]; intro e; rw [e] at hg; simp at hg; omega
    have n43 : (s[0] == (43 : UInt8)) = false := by
      rw [beq_eq_false_iff_ne]; intro e; rw [e] at hg; simp at hg; omega
    simp only [Lib.atoi, n45, n43, Bool.false_eq_true, if_false, Lib.decNat, List.isEmpty_cons, hd, Option.map_some]
end Go.Proofs.YthgdgpoblbblpaaGreatDoor.W
