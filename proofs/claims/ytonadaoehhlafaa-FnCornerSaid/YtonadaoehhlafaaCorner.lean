/- Walks of linkCorner and of the doors to it: whether some percent sign of a string is not followed by two hexadecimal digits. Condition: the string is at most 2147483647 bytes long. -/
import Derived.Test.YtonadaoehhlafaaStr
namespace Go.Proofs.Ytonadaoehhlafaa.W
open Go.RowKit Go.PlainAid

/-- a percent sign at i without two hexadecimal digits behind it -/
def badAt (s : ByteArray) (i : Nat) : Bool := bt s i == 37 && (decide ((s.size : Int) ≤ (i : Int) + 2) || !hexB (bt s (i + 1)) || !hexB (bt s (i + 2)))
/-- .. somewhere ahead of n -/
def cornerTo (s : ByteArray) : Nat → Bool
  | 0 => false
  | n + 1 => cornerTo s n || badAt s n
theorem cornerTo_mono {s : ByteArray} {k : Nat} (h : badAt s k = true) : ∀ n, k < n → cornerTo s n = true
  | 0, hn => by omega
  | n + 1, hn => by
    unfold cornerTo
    by_cases e : k = n
    · subst e; simp [h]
    · simp [cornerTo_mono h n (by omega)]

theorem linkCorner_c (s : ByteArray) (hs : s.size ≤ 2147483647) (w : World) :
    Calls Try.prog 53 #[.string s] w fun e w1 => e = .returned (.bool (cornerTo s s.size)) ∧ w = w1 := by
  have hb := get_bt s
  go_enter Try.func53, Try.ntmps53
  go_wp2
  go_loop [3] (fun i => ∃ k : Nat, k ≤ s.size ∧ i = .int .i64 k ∧ Hid (cornerTo s k = false)) (fun i => s.size - (intOf i).toNat)
  case atStart => exact ⟨0, Nat.zero_le _, rfl, rfl⟩
  case round =>
    obtain ⟨k, hk, rfl, hC⟩ := hrel
    by_cases hlt : k < s.size
    · cases hB : badAt s k
      · have hn : Hid (cornerTo s (k + 1) = false) := by show cornerTo s (k + 1) = false; simp [cornerTo, hC.out, hB]
        have hB' := Lib.hid hB
        clear hB
        go_wp2_with (go_at_call 62; refine (isHexDigit_c _ _).mono ?_; rintro e w1 ⟨rfl, rfl⟩)
        all_goals first
          | (go_round
             case rel => exact ⟨k + 1, by omega, by go_num, hn⟩
             case measure => simp [intOf]; omega)
          | (exfalso; have hB := hB'.out; simp_all [badAt] <;> omega)
      · have hy := cornerTo_mono hB s.size hlt
        have hB' := Lib.hid hB
        have hy' := Lib.hid hy
        clear hB hy
        go_wp2_with (go_at_call 62; refine (isHexDigit_c _ _).mono ?_; rintro e w1 ⟨rfl, rfl⟩)
        all_goals first
          | (go_ret; exact ⟨retBool hy'.out.symm, rfl⟩)
          | (exfalso; have hB := hB'.out; simp_all [badAt] <;> omega)
    · go_wp2
      have e : k = s.size := by omega
      subst e
      go_ret
      exact ⟨retBool hC.out.symm, rfl⟩

theorem linkCorner_i (s : ByteArray) (hs : s.size ≤ 2147483647) (w : World) :
    Calls Try.prog 20 #[.string s] w fun e w1 => e = .returned (.bool (cornerTo s s.size)) ∧ w = w1 := by
  go_enter Try.func20, Try.ntmps20
  go_wp2_with (first | (go_at_call 53; refine (linkCorner_c _ hs _).mono ?_; rintro e w1 ⟨rfl, rfl⟩) | go_in)
  go_ret
  exact ⟨rfl, rfl⟩

end Go.Proofs.Ytonadaoehhlafaa.W
