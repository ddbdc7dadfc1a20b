/- Walks of the functions that look for one text within another: zzIndex, the reference's until, the statement's headed, strings.HasPrefix. Condition: the texts have at most 2147483647 bytes. -/
import Derived.Test.YtiilhmagepncgaaAt
import Derived.Test.YtiilhmagepncgaaRet
import Derived.Test.YtiilhmagepncgaaRows
namespace Go.Proofs.Ytiilhmagepncgaa.W
open Go.RowKit Go.PlainAid
set_option linter.unusedVariables false

theorem zzIndex_yes (s t : ByteArray) (o : Nat) (hs : s.size ≤ 2147483647) (ht : t.size ≤ 2147483647) (ho : AtS s t o) (hl : ∀ j, j < o → ¬ AtS s t j) (w : World) :
    Calls Try.prog 36 #[.string s, .string t] w fun e w1 => e = .returned (.int .i64 o) ∧ w = w1 := by
  have hb := get_bt s
  have hz := ho.1
  replace ho := Lib.hid ho
  replace hl := Lib.hid hl
  go_enter Try.func36, Try.ntmps36
  go_wp2
  go_loop [5] (fun i => ∃ k : Nat, k ≤ o ∧ i = .int .i64 k) (fun i => s.size + 1 - (intOf i).toNat)
  case atStart => exact ⟨0, Nat.zero_le _, rfl⟩
  case round =>
    obtain ⟨k, hk, rfl⟩ := hrel
    have hlt : k + t.size ≤ s.size := by omega
    by_cases hat : k = o
    · subst hat
      have e : ((s.extract k (k + t.size)).toList == t.toList) = true := by rw [ho.out.2]; simp
      go_wp2
      go_ret
      exact ⟨rfl, rfl⟩
    · have e : ((s.extract k (k + t.size)).toList == t.toList) = false := by
        simp only [beq_eq_false_iff_ne]
        intro h
        exact hl.out k (by omega) ⟨hlt, str_of_list h⟩
      go_wp2
      go_round
      case rel => exact ⟨k + 1, by omega, by go_num⟩
      case measure => simp [intOf]; omega
theorem zzIndex_no (s t : ByteArray) (hs : s.size ≤ 2147483647) (ht : t.size ≤ 2147483647) (hl : ∀ j, ¬ AtS s t j) (w : World) :
    Calls Try.prog 36 #[.string s, .string t] w fun e w1 => e = .returned (.int .i64 (-1)) ∧ w = w1 := by
  have hb := get_bt s
  replace hl := Lib.hid hl
  go_enter Try.func36, Try.ntmps36
  go_wp2
  go_loop [5] (fun i => ∃ k : Nat, k ≤ s.size + 1 ∧ i = .int .i64 k) (fun i => s.size + 1 - (intOf i).toNat)
  case atStart => exact ⟨0, Nat.zero_le _, rfl⟩
  case round =>
    obtain ⟨k, hk, rfl⟩ := hrel
    by_cases hlt : k + t.size ≤ s.size
    · have e : ((s.extract k (k + t.size)).toList == t.toList) = false := by
        simp only [beq_eq_false_iff_ne]
        intro h
        exact hl.out k ⟨hlt, str_of_list h⟩
      go_wp2
      go_round
      case rel => exact ⟨k + 1, by omega, by go_num⟩
      case measure => simp [intOf]; omega
    · go_wp2
      go_ret
      exact ⟨rfl, rfl⟩

/-- s begins with t: the facts in the walk's own words -/
theorem head_facts {s t : ByteArray} (h : AtS s t 0) : ((s.extract 0 t.size).toList == t.toList) = true ∧ ((s.extract 0 t.size).toList != t.toList) = false := by
  have := h.2
  rw [Nat.zero_add] at this
  rw [this]; simp
theorem head_not {s t : ByteArray} (h : ¬ AtS s t 0) (hz : t.size ≤ s.size) : ((s.extract 0 t.size).toList == t.toList) = false ∧ ((s.extract 0 t.size).toList != t.toList) = true := by
  have e : ¬ (s.extract 0 t.size).toList = t.toList := fun e => h ⟨by omega, by rw [Nat.zero_add]; exact str_of_list e⟩
  simp [e]

theorem until_yes (s b t : ByteArray) (o : Nat) (hs : s.size ≤ 2147483647) (hbz : b.size ≤ 2147483647) (ht : t.size ≤ 2147483647) (hb0 : AtS s b 0) (hbo : b.size ≤ o) (ho : AtS s t o) (hl : ∀ j, b.size ≤ j → j < o → ¬ AtS s t j) (w : World) :
    Calls Try.prog 20 #[.string s, .string b, .string t] w fun e w1 => e = .returned (.int .i64 (o + t.size : Nat)) ∧ w = w1 := by
  have hb := get_bt s
  have hz := ho.1
  have hz0 := hb0.1
  obtain ⟨e1, e2⟩ := head_facts hb0
  clear hb0
  replace ho := Lib.hid ho
  replace hl := Lib.hid hl
  go_enter Try.func20, Try.ntmps20
  go_wp2
  go_loop [7] (fun i => ∃ k : Nat, b.size ≤ k ∧ k ≤ o ∧ i = .int .i64 k) (fun i => s.size + 1 - (intOf i).toNat)
  case atStart => exact ⟨b.size, Nat.le_refl _, hbo, rfl⟩
  case round =>
    obtain ⟨k, hbk, hk, rfl⟩ := hrel
    have hlt : k + t.size ≤ s.size := by omega
    by_cases hat : k = o
    · subst hat
      have e : ((s.extract k (k + t.size)).toList == t.toList) = true := by rw [ho.out.2]; simp
      go_wp2
      go_ret
      exact ⟨retInt (by omega), rfl⟩
    · have e : ((s.extract k (k + t.size)).toList == t.toList) = false := by
        simp only [beq_eq_false_iff_ne]
        intro h
        exact hl.out k hbk (by omega) ⟨hlt, str_of_list h⟩
      go_wp2
      go_round
      case rel => exact ⟨k + 1, by omega, by omega, by go_num⟩
      case measure => simp [intOf]; omega
theorem until_no (s b t : ByteArray) (hs : s.size ≤ 2147483647) (hbz : b.size ≤ 2147483647) (ht : t.size ≤ 2147483647) (hb0 : AtS s b 0) (hl : ∀ j, b.size ≤ j → ¬ AtS s t j) (w : World) :
    Calls Try.prog 20 #[.string s, .string b, .string t] w fun e w1 => e = .returned (.int .i64 0) ∧ w = w1 := by
  have hb := get_bt s
  have hz0 := hb0.1
  obtain ⟨e1, e2⟩ := head_facts hb0
  clear hb0
  replace hl := Lib.hid hl
  go_enter Try.func20, Try.ntmps20
  go_wp2
  go_loop [7] (fun i => ∃ k : Nat, b.size ≤ k ∧ k ≤ s.size + 1 ∧ i = .int .i64 k) (fun i => s.size + 1 - (intOf i).toNat)
  case atStart => exact ⟨b.size, Nat.le_refl _, by omega, rfl⟩
  case round =>
    obtain ⟨k, hbk, hk, rfl⟩ := hrel
    by_cases hlt : k + t.size ≤ s.size
    · have e : ((s.extract k (k + t.size)).toList == t.toList) = false := by
        simp only [beq_eq_false_iff_ne]
        intro h
        exact hl.out k hbk ⟨hlt, str_of_list h⟩
      go_wp2
      go_round
      case rel => exact ⟨k + 1, by omega, by omega, by go_num⟩
      case measure => simp [intOf]; omega
    · go_wp2
      go_ret
      exact ⟨rfl, rfl⟩

theorem hasPrefix_yes (s t : ByteArray) (hs : s.size ≤ 2147483647) (ht : t.size ≤ 2147483647) (h : AtS s t 0) (w : World) :
    Calls Try.prog 35 #[.string s, .string t] w fun e w1 => e = .returned (.bool true) ∧ w = w1 := by
  have hz0 := h.1
  obtain ⟨e1, e2⟩ := head_facts h
  clear h
  go_enter Try.func35, Try.ntmps35
  go_wp2
  go_ret
  exact ⟨rfl, rfl⟩
theorem headed_yes (s t : ByteArray) (hs : s.size ≤ 2147483647) (ht : t.size ≤ 2147483647) (h : AtS s t 0) (w : World) :
    Calls Try.prog 8 #[.string s, .string t] w fun e w1 => e = .returned (.bool true) ∧ w = w1 := by
  have hz0 := h.1
  obtain ⟨e1, e2⟩ := head_facts h
  clear h
  go_enter Try.func8, Try.ntmps8
  go_wp2
  go_ret
  exact ⟨rfl, rfl⟩
theorem headed_no (s t : ByteArray) (hs : s.size ≤ 2147483647) (ht : t.size ≤ 2147483647) (h : ¬ AtS s t 0) (w : World) :
    Calls Try.prog 8 #[.string s, .string t] w fun e w1 => e = .returned (.bool false) ∧ w = w1 := by
  by_cases hz : t.size ≤ s.size
  · obtain ⟨e1, e2⟩ := head_not h hz
    clear h
    go_enter Try.func8, Try.ntmps8
    go_wp2
    go_ret
    exact ⟨rfl, rfl⟩
  · clear h
    go_enter Try.func8, Try.ntmps8
    go_wp2
    go_ret
    exact ⟨rfl, rfl⟩
theorem until_yes_U (s b t : ByteArray) (o : Nat) (hs : s.size ≤ 2147483647) (hbz : b.size ≤ 2147483647) (ht : t.size ≤ 2147483647) (hb0 : AtS s b 0) (hbo : b.size ≤ o) (ho : AtS s t o) (hl : ∀ j, b.size ≤ j → j < o → ¬ AtS s t j) (w : World) :
    Calls Try.prog 11 #[.string s, .string b, .string t] w fun e w1 => e = .returned (.int .i64 (o + t.size : Nat)) ∧ w = w1 := by
  replace hb0 := Lib.hid hb0
  replace ho := Lib.hid ho
  replace hl := Lib.hid hl
  go_enter Try.func11, Try.ntmps11
  go_wp2_with (go_at_call 20; refine (until_yes _ _ _ o hs hbz ht hb0.out hbo ho.out hl.out _).mono ?_; rintro e w1 ⟨rfl, rfl⟩)
  go_ret
  exact ⟨rfl, rfl⟩
theorem until_no_U (s b t : ByteArray) (hs : s.size ≤ 2147483647) (hbz : b.size ≤ 2147483647) (ht : t.size ≤ 2147483647) (hb0 : AtS s b 0) (hl : ∀ j, b.size ≤ j → ¬ AtS s t j) (w : World) :
    Calls Try.prog 11 #[.string s, .string b, .string t] w fun e w1 => e = .returned (.int .i64 0) ∧ w = w1 := by
  replace hb0 := Lib.hid hb0
  replace hl := Lib.hid hl
  go_enter Try.func11, Try.ntmps11
  go_wp2_with (go_at_call 20; refine (until_no _ _ _ hs hbz ht hb0.out hl.out _).mono ?_; rintro e w1 ⟨rfl, rfl⟩)
  go_ret
  exact ⟨rfl, rfl⟩
end Go.Proofs.Ytiilhmagepncgaa.W
