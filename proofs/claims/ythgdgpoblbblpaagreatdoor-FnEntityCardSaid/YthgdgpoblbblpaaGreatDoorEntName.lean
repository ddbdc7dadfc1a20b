/- Plain words on character references by name: the twelve of the table, the four of the reference, and which a text bears. No program in sight. No conditions. -/
import Derived.Test.YthgdgpoblbblpaaGreatDoorApp
namespace Go.Proofs.YthgdgpoblbblpaaGreatDoor.W
open Go.RowKit Go.PlainAid

def entN : Nat → ByteArray
  | 0 => ⟨#[38, 97, 109, 112, 59]⟩
  | 1 => ⟨#[38, 97, 112, 111, 115, 59]⟩
  | 2 => ⟨#[38, 99, 111, 112, 121, 59]⟩
  | 3 => ⟨#[38, 102, 114, 97, 99, 51, 52, 59]⟩
  | 4 => ⟨#[38, 103, 116, 59]⟩
  | 5 => ⟨#[38, 104, 101, 108, 108, 105, 112, 59]⟩
  | 6 => ⟨#[38, 108, 116, 59]⟩
  | 7 => ⟨#[38, 109, 100, 97, 115, 104, 59]⟩
  | 8 => ⟨#[38, 110, 98, 115, 112, 59]⟩
  | 9 => ⟨#[38, 110, 100, 97, 115, 104, 59]⟩
  | 10 => ⟨#[38, 113, 117, 111, 116, 59]⟩
  | _ => ⟨#[38, 114, 101, 103, 59]⟩
def entV : Nat → ByteArray
  | 0 => ⟨#[38]⟩
  | 1 => ⟨#[39]⟩
  | 2 => ⟨#[194, 169]⟩
  | 3 => ⟨#[194, 190]⟩
  | 4 => ⟨#[62]⟩
  | 5 => ⟨#[226, 128, 166]⟩
  | 6 => ⟨#[60]⟩
  | 7 => ⟨#[226, 128, 148]⟩
  | 8 => ⟨#[194, 160]⟩
  | 9 => ⟨#[226, 128, 147]⟩
  | 10 => ⟨#[34]⟩
  | _ => ⟨#[194, 174]⟩
theorem ent_in : ∀ k, k < 12 → 4 ≤ (entN k).size ∧ (entN k).size ≤ 10 ∧ ∀ t, t < 8 → t + 2 < (entN k).size → ldB (bt (entN k) (t + 1)) = true := by decide +kernel
theorem ent_v : ∀ k, k < 12 → (entV k).size ≤ 3 ∧ 1 ≤ (entV k).size := by decide +kernel
theorem ent_ne : ∀ k, k < 12 → ∀ q, q < k → entN q ≠ entN k := by decide +kernel
def namedS (t : ByteArray) : ByteArray :=
  if t = ⟨#[97, 109, 112]⟩ then ⟨#[38]⟩ else if t = ⟨#[108, 116]⟩ then ⟨#[60]⟩ else if t = ⟨#[103, 116]⟩ then ⟨#[62]⟩ else if t = ⟨#[113, 117, 111, 116]⟩ then ⟨#[34]⟩ else ⟨#[]⟩
def NoOther (s : ByteArray) : Prop := ∀ i, i < s.size → bt s i = 38 → i + 1 < runEnd ldB s (i + 1) → runEnd ldB s (i + 1) < s.size → bt s (runEnd ldB s (i + 1)) = 59 → namedS (s.extract (i + 1) (runEnd ldB s (i + 1))) ≠ ⟨#[]⟩
/-- neither an ampersand nor a semicolon -/
def nsB (c : Int) : Bool := c != 38 && c != 59
theorem nsB_iff (c : Int) : nsB c = true ↔ c ≠ 38 ∧ c ≠ 59 := by simp [nsB]
theorem ld_ns {c : Int} (h : ldB c = true) : nsB c = true := by
  have := (ldB_iff c).1 h
  rw [nsB_iff]
  omega
theorem ent_wrap {s : ByteArray} {i j : Nat} (hj : j < s.size) (hij : i < j) (h38 : bt s i = 38) (h59 : bt s j = 59) : s.extract i (j + 1) = ⟨#[38]⟩ ++ s.extract (i + 1) j ++ ⟨#[59]⟩ := by
  have z1 : (⟨#[38]⟩ : ByteArray).size = 1 := rfl
  have z2 : (⟨#[59]⟩ : ByteArray).size = 1 := rfl
  have z3 : (s.extract (i + 1) j).size = j - (i + 1) := by rw [size_extract]; omega
  refine str_ext (by rw [size_app, size_app, size_extract, z1, z2, z3]; omega) fun k hk => ?_
  rw [size_extract] at hk
  rw [bt_extract s (by omega) (by omega)]
  by_cases h0 : k = 0
  · subst h0
    rw [bt_app_l _ _ (by rw [size_app, z1]; omega), bt_app_l _ _ (by rw [z1]; omega), Nat.add_zero, h38]
    rfl
  · by_cases h1 : i + k = j
    · rw [bt_app_r _ _ (by rw [size_app, z1, z3]; omega), size_app, z1, z3, h1, h59, show k - (1 + (j - (i + 1))) = 0 from by omega]
      rfl
    · rw [bt_app_l _ _ (by rw [size_app, z1, z3]; omega), bt_app_r _ _ (by rw [z1]; omega), z1, bt_extract s (by omega) (by omega)]
      congr 1
      omega
theorem namedS_some {t : ByteArray} (h : namedS t ≠ ⟨#[]⟩) : ∃ k, k < 12 ∧ ⟨#[38]⟩ ++ t ++ ⟨#[59]⟩ = entN k ∧ namedS t = entV k ∧ t.size ≤ 4 := by
  unfold namedS at h ⊢
  split at h
  · rename_i e; subst e; exact ⟨0, by omega, by decide +kernel, by decide +kernel, by decide +kernel⟩
  · rename_i n1
    rw [if_neg n1]
    split at h
    · rename_i e; subst e; exact ⟨6, by omega, by decide +kernel, by decide +kernel, by decide +kernel⟩
    · rename_i n2
      rw [if_neg n2]
      split at h
      · rename_i e; subst e; exact ⟨4, by omega, by decide +kernel, by decide +kernel, by decide +kernel⟩
      · rename_i n3
        rw [if_neg n3]
        split at h
        · rename_i e; subst e; exact ⟨10, by omega, by decide +kernel, by decide +kernel, by decide +kernel⟩
        · exact absurd rfl h
/-- a reference that is there is one of the table's -/
theorem ent_yes {s : ByteArray} {i j : Nat} (hN : NoOther s) (hi : i < s.size) (h38 : bt s i = 38) (hj : runEnd ldB s (i + 1) = j) (h1 : i + 1 < j) (h2 : j < s.size) (h59 : bt s j = 59) :
    runEnd nsB s (i + 1) = j ∧ j < i + 64 ∧ ∃ k, k < 12 ∧ s.extract i (j + 1) = entN k ∧ namedS (s.extract (i + 1) j) = entV k := by
  have hn := hN i hi h38 (by omega) (by omega) (by rw [hj]; exact h59)
  rw [hj] at hn
  obtain ⟨k, hk, a, b, c⟩ := namedS_some hn
  refine ⟨runEnd_eq (by omega) (by omega) (fun t ht ht1 => ld_ns (runEnd_in ht (by omega))) (fun _ => ?_), ?_, k, hk, ?_, b⟩
  · rw [h59]; rfl
  · rw [size_extract] at c; omega
  · rw [ent_wrap h2 (by omega) h38 h59, a]
/-- where there is none the table has none -/
theorem ent_no {s : ByteArray} {i j : Nat} (hn : ¬ (i + 1 < runEnd ldB s (i + 1) ∧ runEnd ldB s (i + 1) < s.size ∧ bt s (runEnd ldB s (i + 1)) = 59)) (hj : runEnd nsB s (i + 1) = j) (h2 : j < s.size) (h59 : bt s j = 59) :
    ∀ k, k < 12 → entN k ≠ s.extract i (j + 1) := fun k hk he => by
  obtain ⟨a, b, c⟩ := ent_in k hk
  have hz : (entN k).size = j + 1 - i := by rw [he, size_extract]; omega
  have hij := runEnd_ge nsB s (i + 1)
  have hr : runEnd ldB s (i + 1) = j := by
    refine runEnd_eq (by omega) (by omega) (fun t ht ht1 => ?_) (fun _ => ?_)
    · have hc := c (t - (i + 1)) (by omega) (by omega)
      rw [he, bt_extract s (by omega) (by omega)] at hc
      rw [← hc]
      congr 2
      omega
    · rw [h59]; rfl
  rw [hr] at hn
  exact hn ⟨by omega, h2, h59⟩
end Go.Proofs.YthgdgpoblbblpaaGreatDoor.W
