/- Plain words on an address in a text, and walks of the small functions that read one: utf8.DecodeRuneInString at ASCII, parseValidDomain, skip. Condition: as each theorem states. -/
import Derived.Test.YtfnhikhgkkopfaaGreatDoorApp
import Derived.Test.YtfnhikhgkkopfaaGreatDoorRet
import Derived.Test.YtfnhikhgkkopfaaGreatDoorRows
import Derived.Test.YtfnhikhgkkopfaaGreatDoorRunes
namespace Go.Proofs.YtfnhikhgkkopfaaGreatDoor.W
open Go.RowKit Go.PlainAid
set_option linter.unusedVariables false

/-- an address of s stands from p on: its scheme takes n letters, its domain ends at d, it ends at E, where a space stands -/
structure Url (s : ByteArray) (p n d E : Nat) : Prop where
  n0 : n = 7 ∨ n = 8
  d0 : p + n + 2 < d
  d1 : d ≤ E
  e0 : E < s.size
  dom : ∀ k, p + n ≤ k → k < d → (ldhB (bt s k) = true ∨ bt s k = 46)
  ends : bt s d = 47 ∨ bt s d = 32
  path : ∀ k, d ≤ k → k < E → bt s k = 47 ∨ bt s k = 97 ∨ bt s k = 98
  space : bt s E = 32
  last : letB (bt s (E - 1)) = true ∨ digB (bt s (E - 1)) = true ∨ bt s (E - 1) = 47

theorem decode_ascii (x : ByteArray) (h0 : 0 < x.size) (h1 : bt x 0 < 128) (w : World) :
    Calls Tryz.prog 36 #[.string x] w fun e w1 => e = .returned (.tuple #[.int .i32 (bt x 0), .int .i64 1]) ∧ w = w1 := by
  have hb := get_bt x
  have b0 := bt_nonneg x 0
  have hemp : x.toList.isEmpty = false := by
    rw [Bool.eq_false_iff]
    intro e
    rw [ByteArray.toList_eq, List.isEmpty_iff] at e
    have : x.size = 0 := by
      have := congrArg List.length e
      simpa using this
    omega
  go_enter Tryz.func36, Tryz.ntmps36
  go_wp2_with fail
  go_ret2
  exact ⟨rfl, rfl⟩

set_option maxHeartbeats 1000000 in
set_option maxRecDepth 100000 in
theorem validDomain_c (s : ByteArray) (a m : Nat) (vb : Nat) (c : Int) (w : World) (hs : s.size ≤ 300) (hm : 0 < m) (hz : a + m < s.size) (hd : ∀ k, a ≤ k → k < a + m → (ldhB (bt s k) = true ∨ bt s k = 46)) (hstop : bt s (a + m) = 47 ∨ bt s (a + m) = 32)
    (hc0 : w.cell? ⟨vb, 0, none⟩ = some (.string s)) (hc1 : w.cell? ⟨vb, 1, none⟩ = some (.int .i64 c)) (hc : c ≤ a) :
    Calls Tryz.prog 35 #[.pointer (some ⟨vb, 0, none⟩), .int .i64 a] w fun e w1 => e = .returned (.tuple #[.int .i64 m, .bool true]) ∧ w = w1 := by
  have hb := get_bt s
  replace hd := Lib.hid hd
  have hcut : decide ((a : Int) < c) = false := by simp only [decide_eq_false_iff_not]; omega
  go_enter Tryz.func35, Tryz.ntmps35
  go_wp2_with fail
  go_loop [6, 7] (fun i x => ∃ (k : Nat) (q : Int), a ≤ k ∧ k ≤ a + m ∧ i = .int .i64 k ∧ x = .int .i64 q ∧ 0 ≤ q ∧ q ≤ k) (fun i _ => s.size - (intOf i).toNat)
  case atStart => exact ⟨a, 0, by omega, by omega, rfl, rfl, by omega, by omega⟩
  case round =>
    obtain ⟨k, q, hk1, hk2, rfl, rfl, hq0, hq1⟩ := hrel
    by_cases hlt : k < a + m
    · by_cases hdot : bt s k = 46
      · have t1 : (bt s k == 95) = false := by simp [hdot]
        have t2 : (bt s k == 46) = true := by simp [hdot]
        clear hdot
        go_wp2_with fail
        go_round
        case rel => exact ⟨k + 1, _, by omega, by omega, by go_num, rfl, by omega, by omega⟩
        case measure => simp [intOf]; omega
      · have hl : ldhB (bt s k) = true := by rcases hd.out k hk1 hlt with h | h <;> first | exact h | exact absurd h hdot
        have t1 : (bt s k == 95) = false := by
          rw [beq_eq_false_iff_ne]
          have := (ldhB_iff _).1 hl
          omega
        have t2 : (bt s k == 46) = false := by simp [hdot]
        clear hdot
        go_wp2_with (go_at_call 28; refine (isLDH_c _ _).mono ?_; rintro e w1 ⟨rfl, rfl⟩; rw [hl])
        go_round
        case rel => exact ⟨k + 1, _, by omega, by omega, by go_num, rfl, by omega, by omega⟩
        case measure => simp [intOf]; omega
    · obtain rfl : k = a + m := by omega
      have t1 : (bt s (a + m) == 95) = false := by rcases hstop with h | h <;> simp [h]
      have t2 : (bt s (a + m) == 46) = false := by rcases hstop with h | h <;> simp [h]
      have hl : ldhB (bt s (a + m)) = false := by
        rw [Bool.eq_false_iff, Ne, ldhB_iff]
        omega
      clear hstop
      go_wp2_with (go_at_call 28; refine (isLDH_c _ _).mono ?_; rintro e w1 ⟨rfl, rfl⟩; rw [hl])
      go_ret2
      exact ⟨ret2 (intEq (by omega)) rfl, rfl⟩

theorem skip_c (s : ByteArray) (vb k : Nat) (c : Int) (w : World) (hk : k ≤ s.size) (hs : s.size ≤ 300) (h0 : -300 ≤ c) (h1 : c ≤ 300)
    (hc0 : w.cell? ⟨vb, 0, none⟩ = some (.string s)) (hc1 : w.cell? ⟨vb, 1, none⟩ = some (.int .i64 c)) (hf0 : w.frozen? ⟨vb, 0, none⟩ = false) (hf1 : w.frozen? ⟨vb, 1, none⟩ = false) :
    Calls Tryz.prog 24 #[.pointer (some ⟨vb, 0, none⟩), .int .i64 k] w fun e w1 => e = .returned (.tuple #[]) ∧ w1 = (w.setCell ⟨vb, 0, none⟩ (.string (s.extract k s.size))).setCell ⟨vb, 1, none⟩ (.int .i64 (c - k)) := by
  go_enter Tryz.func24, Tryz.ntmps24
  go_wp2_with fail
  go_end0
  exact ⟨rfl, rfl⟩
end Go.Proofs.YtfnhikhgkkopfaaGreatDoor.W
