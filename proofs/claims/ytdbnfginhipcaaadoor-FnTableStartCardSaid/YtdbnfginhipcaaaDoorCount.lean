/- A walk of tableCount and of the doors to it: the number of the pipes of a row without a backslash ahead, and one. Condition: the row has at most 2147483647 bytes. -/
import Derived.Test.YtdbnfginhipcaaaDoorApp
namespace Go.Proofs.YtdbnfginhipcaaaDoor.W
open Go.RowKit Go.PlainAid

/-- is the byte at n a pipe without a backslash ahead of it? -/
def pipeAt (s : ByteArray) (n : Nat) : Bool := bt s n == 124 && (n == 0 || bt s (n - 1) != 92)
/-- the number of cells that end ahead of n, and one -/
def colsTo (s : ByteArray) : Nat → Nat
  | 0 => 1
  | n + 1 => colsTo s n + if pipeAt s n = true then 1 else 0
theorem colsTo_le (s : ByteArray) : ∀ n, colsTo s n ≤ n + 1
  | 0 => Nat.le_refl _
  | n + 1 => by have := colsTo_le s n; unfold colsTo; split <;> omega
/-- the byte ahead of n, 0 at the front -/
def prevAt (s : ByteArray) (n : Nat) : Int := if n = 0 then 0 else bt s (n - 1)
theorem prevAt_succ (s : ByteArray) (n : Nat) : prevAt s (n + 1) = bt s n := by simp [prevAt]
theorem pipeAt_prev (s : ByteArray) (n : Nat) : pipeAt s n = (bt s n == 124 && prevAt s n != 92) := by
  unfold pipeAt prevAt
  by_cases h : n = 0
  · simp [h]
  · have h2 : (n == 0) = false := by simpa using h
    simp [h, h2]

theorem tableCount_c (s : ByteArray) (hs : s.size ≤ 2147483647) (w : World) :
    Calls Tryd.prog 11 #[.string s] w fun e w1 => e = .returned (.int .i64 (colsTo s s.size)) ∧ w = w1 := by
  have hb := get_bt s
  go_enter Tryd.func11, Tryd.ntmps11
  go_wp2
  go_loop [3, 4, 5] (fun c p i => ∃ (k n : Nat) (q : Int), k ≤ s.size ∧ n ≤ k + 1 ∧ i = .int .i64 k ∧ c = .int .i64 n ∧ p = .int .u8 q ∧ Hid (n = colsTo s k ∧ q = prevAt s k)) (fun _ _ i => s.size - (intOf i).toNat)
  case atStart => exact ⟨0, 1, 0, Nat.zero_le _, Nat.le_refl _, rfl, rfl, rfl, rfl, rfl⟩
  case round =>
    obtain ⟨k, n, q, hk, hnk, rfl, rfl, rfl, hC⟩ := hrel
    by_cases hlt : k < s.size
    · cases hp : pipeAt s k
      · have hn : Hid (n = colsTo s (k + 1) ∧ bt s k = prevAt s (k + 1)) := ⟨by rw [colsTo, hp, hC.out.1]; rfl, (prevAt_succ s k).symm⟩
        have hp' : Hid ((bt s k == 124 && q != 92) = false) := by show (bt s k == 124 && q != 92) = false; rw [hC.out.2, ← pipeAt_prev, hp]
        clear hp hC
        go_wp2
        all_goals first
          | (exfalso; have hp := hp'.out; simp_all; done)
          | (go_round
             case rel => exact ⟨k + 1, n, _, by omega, by omega, by go_num, rfl, rfl, by first | exact hn | exact ⟨hn.out.1, by have := hn.out.2; omega⟩⟩
             case measure => simp [intOf]; omega)
      · have hn : Hid (n + 1 = colsTo s (k + 1) ∧ bt s k = prevAt s (k + 1)) := ⟨by rw [colsTo, hp, hC.out.1]; rfl, (prevAt_succ s k).symm⟩
        have hp' : (bt s k == 124 && q != 92) = true := by rw [hC.out.2, ← pipeAt_prev, hp]
        simp only [Bool.and_eq_true] at hp'
        obtain ⟨hp1, hp2⟩ := hp'
        clear hp hC
        go_wp2
        go_round
        case rel => exact ⟨k + 1, n + 1, _, by omega, by omega, by go_num, by go_num, rfl, hn⟩
        case measure => simp [intOf]; omega
    · have e : k = s.size := by omega
      subst e
      go_wp2
      go_ret
      exact ⟨retInt (by rw [hC.out.1]), rfl⟩

/-! ### rows that are laid on -/
theorem colsTo_app (a b : ByteArray) : ∀ n, n ≤ a.size → colsTo (a ++ b) n = colsTo a n
  | 0, _ => rfl
  | n + 1, h => by
    have e : pipeAt (a ++ b) n = pipeAt a n := by
      unfold pipeAt
      rw [bt_app_l a b (by omega), bt_app_l a b (k := n - 1) (by omega)]
    unfold colsTo
    rw [colsTo_app a b n (by omega), e]
/-- one byte more -/
theorem cols_one (a b : ByteArray) (hb : b.size = 1) : colsTo (a ++ b) (a ++ b).size = colsTo a a.size + if (bt b 0 == 124 && prevAt a a.size != 92) = true then 1 else 0 := by
  have e : (a ++ b).size = a.size + 1 := by rw [size_app, hb]
  rw [e, colsTo, colsTo_app a b a.size (Nat.le_refl _), pipeAt_prev, bt_app_r a b (Nat.le_refl _), Nat.sub_self]
  have e2 : prevAt (a ++ b) a.size = prevAt a a.size := by
    unfold prevAt
    by_cases h : a.size = 0
    · simp [h]
    · simp only [h, if_false]; rw [bt_app_l a b (by omega)]
  rw [e2]
theorem prev_one (a b : ByteArray) (hb : b.size = 1) : prevAt (a ++ b) (a ++ b).size = bt b 0 := by
  rw [size_app, hb, prevAt_succ, bt_app_r a b (Nat.le_refl _), Nat.sub_self]
end Go.Proofs.YtdbnfginhipcaaaDoor.W
