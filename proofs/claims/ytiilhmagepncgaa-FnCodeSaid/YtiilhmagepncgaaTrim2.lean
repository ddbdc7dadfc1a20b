/- The walk of trimSpace, and plain words on what it gives. Condition: the text has at most 2147483647 bytes. -/
import Derived.Test.YtiilhmagepncgaaSpan
namespace Go.Proofs.Ytiilhmagepncgaa.W
open Go.RowKit Go.PlainAid
set_option linter.unusedVariables false

def sptB (c : Int) : Bool := decide (c = 32 ∨ c = 9)
theorem spt_tests (c : Int) : ((c == 32) = true ∧ sptB c = true) ∨ ((c == 32) = false ∧ (c == 9) = true ∧ sptB c = true) ∨ ((c == 32) = false ∧ (c == 9) = false ∧ sptB c = false) := by
  simp only [beq_iff_eq, beq_eq_false_iff_ne, sptB, decide_eq_true_eq, decide_eq_false_iff_not]
  omega
/-- where a text ends, the letters of a class at its end away -/
def endOf (p : Int → Bool) (s : ByteArray) : Nat → Nat
  | 0 => 0
  | n + 1 => if p (bt s n) = true then endOf p s n else n + 1
theorem endOf_le (p : Int → Bool) (s : ByteArray) : ∀ n, endOf p s n ≤ n
  | 0 => Nat.le_refl _
  | n + 1 => by have := endOf_le p s n; unfold endOf; split <;> omega
theorem endOf_in (p : Int → Bool) (s : ByteArray) : ∀ n i, endOf p s n ≤ i → i < n → p (bt s i) = true
  | 0, i, _, h => by omega
  | n + 1, i, h, h1 => by
    unfold endOf at h
    split at h
    · rename_i hp
      by_cases e : i = n
      · subst e; exact hp
      · exact endOf_in p s n i h (by omega)
    · omega
/-- the text without blanks at its ends, as the code takes it -/
def trim2S (s : ByteArray) : ByteArray := (s.extract (runEnd sptB s 0) s.size).extract 0 (endOf sptB (s.extract (runEnd sptB s 0) s.size) (s.extract (runEnd sptB s 0) s.size).size)
set_option maxHeartbeats 2000000 in
theorem trim2_c (s : ByteArray) (hs : s.size ≤ 2147483647) (w : World) :
    Calls Try.prog 38 #[.string s] w fun e w1 => e = .returned (.string (trim2S s)) ∧ w = w1 := by
  have hb := get_bt s
  have hle := runEnd_le sptB s (i := 0) (by omega)
  have hrun := fun j (h : j < runEnd sptB s 0) => runEnd_in (p := sptB) (s := s) (i := 0) (j := j) (Nat.zero_le _) h
  have hat := fun (h : runEnd sptB s 0 < s.size) => runEnd_at (p := sptB) (s := s) (i := 0) (by omega) h
  obtain ⟨a, ha⟩ : ∃ a, a = runEnd sptB s 0 := ⟨_, rfl⟩
  rw [← ha] at hle hrun hat
  have hT : trim2S s = (s.extract a s.size).extract 0 (endOf sptB (s.extract a s.size) (s.extract a s.size).size) := by rw [ha]; rfl
  replace ha := Lib.hid ha
  replace hT := Lib.hid hT
  replace hrun := Lib.hid hrun
  replace hat := Lib.hid hat
  go_enter Try.func38, Try.ntmps38
  go_wp2
  go_loop [3] (fun i => ∃ k : Nat, k ≤ a ∧ i = .int .i64 k) (fun i => s.size - (intOf i).toNat)
  case atStart => exact ⟨0, Nat.zero_le _, rfl⟩
  case round =>
    obtain ⟨k, hk, rfl⟩ := hrel
    by_cases hka : k < a
    · have hlt : k < s.size := by omega
      have hx := hrun.out k hka
      rcases spt_tests (bt s k) with ⟨t1, _⟩ | ⟨t1, t2, _⟩ | ⟨t1, t2, t4⟩
      · replace hx := Lib.hid hx
        go_wp2
        go_round
        case rel => exact ⟨k + 1, by omega, by go_num⟩
        case measure => simp [intOf]; omega
      · replace hx := Lib.hid hx
        go_wp2
        go_round
        case rel => exact ⟨k + 1, by omega, by go_num⟩
        case measure => simp [intOf]; omega
      · rw [t4] at hx; cases hx
    · obtain rfl : k = a := by omega
      have hex : (¬ k < s.size) ∨ (k < s.size ∧ (bt s k == 32) = false ∧ (bt s k == 9) = false) := by
        by_cases hlt : k < s.size
        · have hx := hat.out hlt
          rcases spt_tests (bt s k) with ⟨t1, t4⟩ | ⟨t1, t2, t4⟩ | ⟨t1, t2, t4⟩
          · rw [t4] at hx; cases hx
          · rw [t4] at hx; cases hx
          · exact .inr ⟨hlt, t1, t2⟩
        · exact .inl hlt
      rcases hex with hlt | ⟨hlt, t1, t2⟩
      all_goals
        go_wp2
        obtain ⟨T, hTT⟩ : ∃ T, T = s.extract k s.size := ⟨_, rfl⟩
        have hz : s.size - k = T.size := by rw [hTT, size_extract]; omega
        have hT2 : Hid (trim2S s = T.extract 0 (endOf sptB T T.size)) := by rw [hTT]; exact hT.out
        rw [← hTT, hz]
        have hTs : T.size ≤ 2147483647 := by omega
        clear hTT hz hT hat hrun ha hb
        have hb := get_bt T
        go_loop [4] (fun j => ∃ k : Nat, k ≤ T.size ∧ j = .int .i64 k ∧ Hid (endOf sptB T k = endOf sptB T T.size)) (fun j => (intOf j).toNat)
        case atStart => exact ⟨T.size, Nat.le_refl _, rfl, rfl⟩
        case round =>
          obtain ⟨m, hm, rfl, he⟩ := hrel
          match m, hm, he with
          | 0, hm, he =>
            go_wp2
            go_ret
            exact ⟨ret1 (strEq (by rw [hT2.out, ← he.out, endOf]; exact str_ext (by rw [size_extract]; show 0 = min 0 T.size - 0; omega) (fun k hk => absurd hk (Nat.not_lt_zero _)))), rfl⟩
          | m + 1, hm, he =>
            have hcast : (((m + 1 : Nat) : Int)) = (m : Int) + 1 := by omega
            rcases spt_tests (bt T m) with ⟨t1, t4⟩ | ⟨t1, t2, t4⟩ | ⟨t1, t2, t4⟩
            · have he2 : Hid (endOf sptB T m = endOf sptB T T.size) := by rw [← he.out, endOf, if_pos t4]; rfl
              clear t4
              go_wp2
              go_round
              case rel => exact ⟨m, by omega, by go_num, he2⟩
              case measure => simp [intOf]
            · have he2 : Hid (endOf sptB T m = endOf sptB T T.size) := by rw [← he.out, endOf, if_pos t4]; rfl
              clear t4
              go_wp2
              go_round
              case rel => exact ⟨m, by omega, by go_num, he2⟩
              case measure => simp [intOf]
            · have he2 : Hid (endOf sptB T T.size = m + 1) := by rw [← he.out, endOf, t4]; rfl
              clear t4
              go_wp2
              go_ret
              exact ⟨ret1 (strEq (by rw [hT2.out, he2.out])), rfl⟩
end Go.Proofs.Ytiilhmagepncgaa.W
