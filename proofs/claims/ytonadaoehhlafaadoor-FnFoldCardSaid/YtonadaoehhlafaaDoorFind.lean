/- Walks of the functions that look for one text within another: zzIndex, zzContains. Condition: the texts have at most 2147483647 bytes. -/
import Derived.Test.YtonadaoehhlafaaDoorAt
import Derived.Test.YtonadaoehhlafaaDoorRet
import Derived.Test.YtonadaoehhlafaaDoorRows
namespace Go.Proofs.YtonadaoehhlafaaDoor.W
open Go.RowKit Go.PlainAid
set_option linter.unusedVariables false

theorem zzIndex_yes (s t : ByteArray) (o : Nat) (hs : s.size ≤ 2147483647) (ht : t.size ≤ 2147483647) (ho : AtS s t o) (hl : ∀ j, j < o → ¬ AtS s t j) (w : World) :
    Calls Tryd.prog 31 #[.string s, .string t] w fun e w1 => e = .returned (.int .i64 o) ∧ w = w1 := by
  have hb := get_bt s
  have hz := ho.1
  replace ho := Lib.hid ho
  replace hl := Lib.hid hl
  go_enter Tryd.func31, Tryd.ntmps31
  go_wp2
  go_loop [5] (fun i => ∃ k : Nat, k ≤ o ∧ i = .int .i64 k) (fun i => s.size + 1 - (intOf i).toNat)
  case atStart => exact ⟨0, Nat.zero_le _, rfl⟩
  case round =>
    obtain ⟨k, hk, rfl⟩ := hrel
    have hlt : k + t.size ≤ s.size := by omega
    by_cases hat : k = o
    · subst hat
      have e : ((s.extract k (k + t.size)).toList == t.toList) = true := by rw [ho.out.2]; simp
      go_wp2
      go_ret
      exact ⟨rfl, rfl⟩
    · have e : ((s.extract k (k + t.size)).toList == t.toList) = false := by
        simp only [beq_eq_false_iff_ne]
        intro h
        exact hl.out k (by omega) ⟨hlt, str_of_list h⟩
      go_wp2
      go_round
      case rel => exact ⟨k + 1, by omega, by go_num⟩
      case measure => simp [intOf]; omega
theorem zzIndex_no (s t : ByteArray) (hs : s.size ≤ 2147483647) (ht : t.size ≤ 2147483647) (hl : ∀ j, ¬ AtS s t j) (w : World) :
    Calls Tryd.prog 31 #[.string s, .string t] w fun e w1 => e = .returned (.int .i64 (-1)) ∧ w = w1 := by
  have hb := get_bt s
  replace hl := Lib.hid hl
  go_enter Tryd.func31, Tryd.ntmps31
  go_wp2
  go_loop [5] (fun i => ∃ k : Nat, k ≤ s.size + 1 ∧ i = .int .i64 k) (fun i => s.size + 1 - (intOf i).toNat)
  case atStart => exact ⟨0, Nat.zero_le _, rfl⟩
  case round =>
    obtain ⟨k, hk, rfl⟩ := hrel
    by_cases hlt : k + t.size ≤ s.size
    · have e : ((s.extract k (k + t.size)).toList == t.toList) = false := by
        simp only [beq_eq_false_iff_ne]
        intro h
        exact hl.out k ⟨hlt, str_of_list h⟩
      go_wp2
      go_round
      case rel => exact ⟨k + 1, by omega, by go_num⟩
      case measure => simp [intOf]; omega
    · go_wp2
      go_ret
      exact ⟨rfl, rfl⟩


/-- a letter that does not stand in a text -/
theorem contains_no (s : ByteArray) (c : UInt8) (hs : s.size ≤ 2147483647) (h : ∀ k, k < s.size → bt s k ≠ (c.toNat : Int)) (w : World) :
    Calls Tryd.prog 23 #[.string s, .string ⟨#[c]⟩] w fun e w1 => e = .returned (.bool false) ∧ w = w1 := by
  have hl : ∀ j, ¬ AtS s ⟨#[c]⟩ j := by
    intro j hat
    have hz := hat.1
    have h1 : (⟨#[c]⟩ : ByteArray).size = 1 := rfl
    have := atS_bt hat (k := 0) (by omega)
    exact h j (by omega) this
  replace h := Lib.hid h
  replace hl := Lib.hid hl
  go_enter Tryd.func23, Tryd.ntmps23
  go_wp2_with (go_at_call 31; refine (zzIndex_no s ⟨#[c]⟩ hs (show 1 ≤ 2147483647 by omega) hl.out _).mono ?_; rintro e w1 ⟨rfl, rfl⟩)
  go_ret
  exact ⟨rfl, rfl⟩
end Go.Proofs.YtonadaoehhlafaaDoor.W
