/- A walk of the law's delimiter. Condition: at most 100 hyphens. -/
import Derived.Test.YtdbnfginhipcaaaDoorTPlain
namespace Go.Proofs.YtdbnfginhipcaaaDoor.W
open Go.RowKit Go.PlainAid
set_option linter.unusedVariables false

theorem delimiter_c (a h : Nat) (ha : a < 4) (hh : h ≤ 100) (w : World) :
    Calls Tryd.prog 4 #[.int .i64 a, .int .i64 h] w fun e w1 => e = .returned (.string (delimS a h)) ∧ w = w1 := by
  obtain ⟨pr, hpr⟩ : ∃ pr, Hid (preS a = pr) := ⟨_, rfl⟩
  have hp : a = 0 ∨ a = 1 ∨ a = 2 ∨ a = 3 := by omega
  rcases hp with rfl | rfl | rfl | rfl
  all_goals
    go_enter Tryd.func4, Tryd.ntmps4
    go_wp2
    go_loop [5, 13] (fun s v => ∃ (k : Nat) (x : ByteArray), k ≤ h ∧ x.size ≤ 1 + k ∧ v = .int .i64 k ∧ s = .string x ∧ Hid (x = dl pr k)) (fun _ v => h - (intOf v).toNat)
    case atStart => exact ⟨0, _, Nat.zero_le _, by decide, rfl, rfl, hpr.out⟩
    case round =>
      obtain ⟨k, x, hk, hxz, rfl, rfl, hx⟩ := hrel
      by_cases hlt : k < h
      · go_wp2
        go_round
        case rel => exact ⟨k + 1, _, by omega, by rw [size_app]; show x.size + 1 ≤ _; omega, by go_num, rfl, by rw [hx.out]; rfl⟩
        case measure => simp [intOf]; omega
      · obtain rfl : k = h := by omega
        go_wp2
        go_ret
        exact ⟨ret1 (strEq (by rw [hx.out, ← hpr.out]; rfl)), rfl⟩
end Go.Proofs.YtdbnfginhipcaaaDoor.W
