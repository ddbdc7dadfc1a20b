/- Walks of parseTagName and of the doors to it: where a letter stands the name is read up to its end, elsewhere nothing is read. Condition: the string is no longer than a Go string can be. -/
import Derived.Test.YtonadaoehhlafaaStr
namespace Go.Proofs.Ytonadaoehhlafaa.W
open Go.RowKit Go.PlainAid

theorem tagName_yes (s : ByteArray) (i : Nat) (hs : s.size ≤ maxLen) (hi : i < s.size) (hl : letB (bt s i) = true) (w : World) :
    Calls Try.prog 54 #[.string s, .int .i64 i] w fun e w1 => e = .returned (.tuple #[.string (s.extract i (runEnd ldhB s (i + 1))), .int .i64 (runEnd ldhB s (i + 1)), .bool true]) ∧ w = w1 := by
  unfold maxLen at hs
  have hb := get_bt s
  go_enter Try.func54, Try.ntmps54
  go_wp2_with (go_at_call 63; refine (isLetter_c _ _).mono ?_; rintro e w1 ⟨rfl, rfl⟩)
  go_loop [7] (fun j => ∃ k : Nat, i < k ∧ k ≤ s.size ∧ j = .int .i64 k ∧ Hid (runEnd ldhB s k = runEnd ldhB s (i + 1))) (fun j => s.size - (intOf j).toNat)
  case atStart => exact ⟨i + 1, by omega, by omega, by go_num, rfl⟩
  case round =>
    obtain ⟨k, hik, hk, rfl, hR⟩ := hrel
    by_cases hlt : k < s.size
    · by_cases hc : ldhB (bt s k) = true
      · go_wp2_with (go_at_call 64; refine (isLDH_c _ _).mono ?_; rintro e w1 ⟨rfl, rfl⟩)
        go_round
        case rel => exact ⟨k + 1, by omega, by omega, by go_num, (runEnd_step hlt hc).trans hR.out⟩
        case measure => simp [intOf]; omega
      · have hc' : ldhB (bt s k) = false := by simpa using hc
        go_wp2_with (go_at_call 64; refine (isLDH_c _ _).mono ?_; rintro e w1 ⟨rfl, rfl⟩)
        have hR := hR.out
        rw [runEnd_stop hc'] at hR
        go_ret3
        subst hR
        exact ⟨rfl, rfl⟩
    · go_wp2
      have hR := hR.out
      rw [runEnd_end (by omega)] at hR
      go_ret3
      subst hR
      exact ⟨rfl, rfl⟩
theorem tagName_yes_z (s : ByteArray) (i : Nat) (hs : s.size ≤ maxLen) (hi : i < s.size) (hl : letB (bt s i) = true) (w : World) :
    Calls Try.prog 39 #[.string s, .int .i64 i] w fun e w1 => e = .returned (.tuple #[.string (s.extract i (runEnd ldhB s (i + 1))), .int .i64 (runEnd ldhB s (i + 1)), .bool true]) ∧ w = w1 := by
  go_enter Try.func39, Try.ntmps39
  go_wp2_with (go_at_call 54; refine (tagName_yes _ _ hs hi hl _).mono ?_; rintro e w1 ⟨rfl, rfl⟩)
  go_ret3
  exact ⟨rfl, rfl⟩
theorem tagName_yes_i (s : ByteArray) (i : Nat) (hs : s.size ≤ maxLen) (hi : i < s.size) (hl : letB (bt s i) = true) (w : World) :
    Calls Try.prog 22 #[.string s, .int .i64 i] w fun e w1 => e = .returned (.tuple #[.string (s.extract i (runEnd ldhB s (i + 1))), .int .i64 (runEnd ldhB s (i + 1)), .bool true]) ∧ w = w1 := by
  go_enter Try.func22, Try.ntmps22
  go_wp2_with (go_at_call 39; refine (tagName_yes_z _ _ hs hi hl _).mono ?_; rintro e w1 ⟨rfl, rfl⟩)
  go_ret3
  exact ⟨rfl, rfl⟩
theorem tagName_no (s : ByteArray) (i : Nat) (hs : s.size ≤ maxLen) (h : s.size ≤ i ∨ i < s.size ∧ letB (bt s i) = false) (w : World) :
    Calls Try.prog 54 #[.string s, .int .i64 i] w fun e w1 => e = .returned (.tuple #[.string ByteArray.empty, .int .i64 0, .bool false]) ∧ w = w1 := by
  unfold maxLen at hs
  have hb := get_bt s
  rcases h with h | ⟨h, h1⟩
  all_goals
    go_enter Try.func54, Try.ntmps54
    go_wp2_with (go_at_call 63; refine (isLetter_c _ _).mono ?_; rintro e w1 ⟨rfl, rfl⟩)
    go_ret3
    have _hs := hs
    exact ⟨rfl, rfl⟩
theorem tagName_no_z (s : ByteArray) (i : Nat) (hs : s.size ≤ maxLen) (h : s.size ≤ i ∨ i < s.size ∧ letB (bt s i) = false) (w : World) :
    Calls Try.prog 39 #[.string s, .int .i64 i] w fun e w1 => e = .returned (.tuple #[.string ByteArray.empty, .int .i64 0, .bool false]) ∧ w = w1 := by
  go_enter Try.func39, Try.ntmps39
  go_wp2_with (go_at_call 54; refine (tagName_no _ _ hs h _).mono ?_; rintro e w1 ⟨rfl, rfl⟩)
  go_ret3
  exact ⟨rfl, rfl⟩
theorem tagName_no_i (s : ByteArray) (i : Nat) (hs : s.size ≤ maxLen) (h : s.size ≤ i ∨ i < s.size ∧ letB (bt s i) = false) (w : World) :
    Calls Try.prog 22 #[.string s, .int .i64 i] w fun e w1 => e = .returned (.tuple #[.string ByteArray.empty, .int .i64 0, .bool false]) ∧ w = w1 := by
  go_enter Try.func22, Try.ntmps22
  go_wp2_with (go_at_call 39; refine (tagName_no_z _ _ hs h _).mono ?_; rintro e w1 ⟨rfl, rfl⟩)
  go_ret3
  exact ⟨rfl, rfl⟩

end Go.Proofs.Ytonadaoehhlafaa.W
