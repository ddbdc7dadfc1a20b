/- A walk of the statements' own helper only: whether all bytes of a string stand in an alphabet, and there are at most so many. Condition of the walk: the string is no longer than a Go string can be. -/
import Derived.Test.YtfnhikhgkkopfaaGreatDoorIdx
import Derived.Test.YtfnhikhgkkopfaaGreatDoorApp
namespace Go.Proofs.YtfnhikhgkkopfaaGreatDoor.W
open Go.RowKit Go.PlainAid

def OnlyTo (s al : ByteArray) (n : Nat) : Prop := ∀ j : Nat, j < n → inB al (bt s j) = true
theorem OnlyTo.succ {s al : ByteArray} {n : Nat} (h : OnlyTo s al n) (h1 : inB al (bt s n) = true) : OnlyTo s al (n + 1) := fun j hj => by
  by_cases e : j = n
  · subst e; exact h1
  · exact h j (by omega)
open Classical in
noncomputable def onlyB (s al : ByteArray) (m : Int) : Bool := decide ((s.size : Int) ≤ m ∧ OnlyTo s al s.size)
theorem onlyB_iff (s al : ByteArray) (m : Int) : onlyB s al m = true ↔ (s.size : Int) ≤ m ∧ OnlyTo s al s.size := by simp [onlyB]
theorem onlyB_true {s al : ByteArray} {m : Int} (h : (s.size : Int) ≤ m) (h1 : OnlyTo s al s.size) : onlyB s al m = true := by simp [onlyB, h, h1]
theorem onlyB_no {s al : ByteArray} {m : Int} (k : Nat) (hk : k < s.size) (h : inB al (bt s k) = false) : onlyB s al m = false := by
  simp only [onlyB, decide_eq_false_iff_not]; intro ⟨_, h1⟩; rw [h1 k hk] at h; cases h
theorem onlyB_long {s al : ByteArray} {m : Int} (h : m < s.size) : onlyB s al m = false := by
  simp only [onlyB, decide_eq_false_iff_not]; omega

theorem only_c (s al : ByteArray) (m : Int) (hs : s.size ≤ maxLen) (w : World) : Calls Tryz.prog 4 #[.string s, .string al, .int .i64 m] w fun e w1 => e = .returned (.bool (onlyB s al m)) ∧ w = w1 := by
  unfold maxLen at hs
  have hb := get_bt s
  by_cases h : m < s.size
  · go_enter Tryz.func4, Tryz.ntmps4
    go_wp2
    go_ret; exact ⟨retBool (onlyB_long h).symm, rfl⟩
  · go_enter Tryz.func4, Tryz.ntmps4
    go_wp2
    go_loop [14] (fun i => ∃ k : Nat, k ≤ s.size ∧ i = .int .i64 k ∧ Hid (OnlyTo s al k)) (fun i => s.size - (intOf i).toNat)
    case atStart => exact ⟨0, Nat.zero_le _, rfl, fun j hj => by omega⟩
    case round =>
      obtain ⟨k, hk, rfl, hL⟩ := hrel
      by_cases hlt : k < s.size
      · cases hc : inB al (bt s k)
        · have hc' := Lib.hid hc
          clear hc
          go_wp2_with (go_at_call 8; refine (idx_in _ _ _).mono ?_; rintro e w1 ⟨n, rfl, hn, rfl⟩; have hn' : n < 0 := by have := hn.out; rw [hc'.out] at this; simpa using this)
          go_ret; exact ⟨retBool (onlyB_no k hlt hc'.out).symm, rfl⟩
        · have hc' := Lib.hid hc
          clear hc
          go_wp2_with (go_at_call 8; refine (idx_in _ _ _).mono ?_; rintro e w1 ⟨n, rfl, hn, rfl⟩; have hn' : 0 ≤ n := by have := hn.out; rw [hc'.out] at this; simpa using this)
          go_round
          case rel => exact ⟨k + 1, by omega, by go_num, hL.out.succ hc'.out⟩
          case measure => simp [intOf]; omega
      · go_wp2
        have e : k = s.size := by omega
        subst e
        go_ret; exact ⟨retBool (onlyB_true (by omega) hL.out).symm, rfl⟩
end Go.Proofs.YtfnhikhgkkopfaaGreatDoor.W
