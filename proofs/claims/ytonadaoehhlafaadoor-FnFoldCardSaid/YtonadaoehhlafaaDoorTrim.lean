/- The walk of trimSpaceTabNewline, and plain words on what it gives. Condition: the text has at most 2147483647 bytes. -/
import Derived.Test.YtonadaoehhlafaaDoorFoldPlain
import Derived.Test.YtonadaoehhlafaaDoorFind
import Derived.Test.YtonadaoehhlafaaDoorBuild
import Derived.Test.YtonadaoehhlafaaDoorIdx
import Derived.Laws.IdiomStrings
import Derived.Deep.QuietTactic
import Derived.BigQuiet
namespace Go.Proofs.YtonadaoehhlafaaDoor.W
open Go.RowKit Go.PlainAid
set_option linter.unusedVariables false

/-- where a text ends, the letters of a class at its end away -/
def endOf (p : Int → Bool) (s : ByteArray) : Nat → Nat
  | 0 => 0
  | n + 1 => if p (bt s n) = true then endOf p s n else n + 1
theorem endOf_le (p : Int → Bool) (s : ByteArray) : ∀ n, endOf p s n ≤ n
  | 0 => Nat.le_refl _
  | n + 1 => by have := endOf_le p s n; unfold endOf; split <;> omega
theorem endOf_in (p : Int → Bool) (s : ByteArray) : ∀ n i, endOf p s n ≤ i → i < n → p (bt s i) = true
  | 0, i, _, h => by omega
  | n + 1, i, h, h1 => by
    unfold endOf at h
    split at h
    · rename_i hp
      by_cases e : i = n
      · subst e; exact hp
      · exact endOf_in p s n i h (by omega)
    · omega
/-- the text without blanks at its ends, as the code takes it -/
def trimS (s : ByteArray) : ByteArray := (s.extract (runEnd blkB s 0) s.size).extract 0 (endOf blkB (s.extract (runEnd blkB s 0) s.size) (s.extract (runEnd blkB s 0) s.size).size)
theorem trimS_fold (s : ByteArray) : (F (bt (trimS s)) (trimS s).size).1 = (F (bt s) s.size).1 := by
  have hle := runEnd_le blkB s (i := 0) (by omega)
  have h1 := F_lead (bt s) (runEnd blkB s 0) (fun j hj => runEnd_in (p := blkB) (Nat.zero_le _) hj)
  have h2 := F_add (bt s) _ h1 (s.size - runEnd blkB s 0)
  rw [show runEnd blkB s 0 + (s.size - runEnd blkB s 0) = s.size from by omega] at h2
  rw [h2]
  unfold trimS
  have hz : (s.extract (runEnd blkB s 0) s.size).size = s.size - runEnd blkB s 0 := by rw [size_extract]; omega
  have h3 : F (fun j => bt s (runEnd blkB s 0 + j)) (s.size - runEnd blkB s 0) = F (bt (s.extract (runEnd blkB s 0) s.size)) (s.size - runEnd blkB s 0) :=
    F_congr _ fun j hj => (bt_extract s (by omega) (Nat.le_refl _)).symm
  rw [h3, ← hz]
  generalize s.extract (runEnd blkB s 0) s.size = t
  have h4 := endOf_le blkB t t.size
  have h5 := F_tail (bt t) (endOf blkB t t.size) (t.size - endOf blkB t t.size) (fun i a b => endOf_in blkB t t.size i a (by omega))
  rw [show endOf blkB t t.size + (t.size - endOf blkB t t.size) = t.size from by omega] at h5
  rw [h5]
  have hz2 : (t.extract 0 (endOf blkB t t.size)).size = endOf blkB t t.size := by rw [size_extract]; omega
  rw [hz2]
  exact congrArg Prod.fst (F_congr _ fun j hj => by rw [bt_extract t (by omega) h4, Nat.zero_add])
theorem trimS_size (s : ByteArray) : (trimS s).size ≤ s.size := by
  unfold trimS; rw [size_extract, size_extract]; omega
theorem trimS_first (s : ByteArray) (h : 0 < (trimS s).size) : blkB (bt (trimS s) 0) = false := by
  have hle := runEnd_le blkB s (i := 0) (by omega)
  unfold trimS at h ⊢
  have hz : (s.extract (runEnd blkB s 0) s.size).size = s.size - runEnd blkB s 0 := by rw [size_extract]; omega
  rw [size_extract] at h
  have h4 := endOf_le blkB (s.extract (runEnd blkB s 0) s.size) (s.extract (runEnd blkB s 0) s.size).size
  rw [bt_extract _ (by omega) h4, Nat.zero_add, bt_extract s (by omega) (Nat.le_refl _), Nat.add_zero]
  exact runEnd_at (by omega) (by omega)
theorem trimS_all (s : ByteArray) (P : Int → Prop) (h : ∀ k, k < s.size → P (bt s k)) : ∀ k, k < (trimS s).size → P (bt (trimS s) k) := by
  intro k hk
  unfold trimS at hk ⊢
  rw [size_extract] at hk
  have h4 := endOf_le blkB (s.extract (runEnd blkB s 0) s.size) (s.extract (runEnd blkB s 0) s.size).size
  have hz : (s.extract (runEnd blkB s 0) s.size).size = s.size - runEnd blkB s 0 := by rw [size_extract]; omega
  rw [bt_extract _ (by omega) h4, Nat.zero_add, bt_extract s (by omega) (Nat.le_refl _)]
  exact h _ (by omega)

/-- what the tests say of a letter -/
theorem blk_tests (c : Int) : ((c == 32) = true ∧ blkB c = true) ∨ ((c == 32) = false ∧ (c == 9) = true ∧ blkB c = true) ∨ ((c == 32) = false ∧ (c == 9) = false ∧ (c == 10) = true ∧ blkB c = true) ∨ ((c == 32) = false ∧ (c == 9) = false ∧ (c == 10) = false ∧ blkB c = false) := by
  simp only [beq_iff_eq, beq_eq_false_iff_ne, blkB, decide_eq_true_eq, decide_eq_false_iff_not]
  omega

set_option maxHeartbeats 2000000 in
theorem trim_c (s : ByteArray) (hs : s.size ≤ 2147483647) (w : World) :
    Calls Tryd.prog 24 #[.string s] w fun e w1 => e = .returned (.string (trimS s)) ∧ w = w1 := by
  have hb := get_bt s
  have hle := runEnd_le blkB s (i := 0) (by omega)
  have hrun := fun j (h : j < runEnd blkB s 0) => runEnd_in (p := blkB) (s := s) (i := 0) (j := j) (Nat.zero_le _) h
  have hat := fun (h : runEnd blkB s 0 < s.size) => runEnd_at (p := blkB) (s := s) (i := 0) (by omega) h
  obtain ⟨a, ha⟩ : ∃ a, a = runEnd blkB s 0 := ⟨_, rfl⟩
  rw [← ha] at hle hrun hat
  have hT : trimS s = (s.extract a s.size).extract 0 (endOf blkB (s.extract a s.size) (s.extract a s.size).size) := by rw [ha]; rfl
  replace ha := Lib.hid ha
  replace hT := Lib.hid hT
  replace hrun := Lib.hid hrun
  replace hat := Lib.hid hat
  go_enter Tryd.func24, Tryd.ntmps24
  go_wp2
  go_loop [3] (fun i => ∃ k : Nat, k ≤ a ∧ i = .int .i64 k) (fun i => s.size - (intOf i).toNat)
  case atStart => exact ⟨0, Nat.zero_le _, rfl⟩
  case round =>
    obtain ⟨k, hk, rfl⟩ := hrel
    by_cases hka : k < a
    · have hlt : k < s.size := by omega
      have hx := hrun.out k hka
      rcases blk_tests (bt s k) with ⟨t1, _⟩ | ⟨t1, t2, _⟩ | ⟨t1, t2, t3, _⟩ | ⟨t1, t2, t3, t4⟩
      · replace hx := Lib.hid hx
        go_wp2
        go_round
        case rel => exact ⟨k + 1, by omega, by go_num⟩
        case measure => simp [intOf]; omega
      · replace hx := Lib.hid hx
        go_wp2
        go_round
        case rel => exact ⟨k + 1, by omega, by go_num⟩
        case measure => simp [intOf]; omega
      · replace hx := Lib.hid hx
        go_wp2
        go_round
        case rel => exact ⟨k + 1, by omega, by go_num⟩
        case measure => simp [intOf]; omega
      · rw [t4] at hx; cases hx
    · obtain rfl : k = a := by omega
      have hex : (¬ k < s.size) ∨ (k < s.size ∧ (bt s k == 32) = false ∧ (bt s k == 9) = false ∧ (bt s k == 10) = false) := by
        by_cases hlt : k < s.size
        · have hx := hat.out hlt
          rcases blk_tests (bt s k) with ⟨t1, t4⟩ | ⟨t1, t2, t4⟩ | ⟨t1, t2, t3, t4⟩ | ⟨t1, t2, t3, t4⟩
          · rw [t4] at hx; cases hx
          · rw [t4] at hx; cases hx
          · rw [t4] at hx; cases hx
          · exact .inr ⟨hlt, t1, t2, t3⟩
        · exact .inl hlt
      rcases hex with hlt | ⟨hlt, t1, t2, t3⟩
      all_goals
        go_wp2
        obtain ⟨T, hTT⟩ : ∃ T, T = s.extract k s.size := ⟨_, rfl⟩
        have hz : s.size - k = T.size := by rw [hTT, size_extract]; omega
        have hT2 : Hid (trimS s = T.extract 0 (endOf blkB T T.size)) := by rw [hTT]; exact hT.out
        rw [← hTT, hz]
        have hTs : T.size ≤ 2147483647 := by omega
        clear hTT hz hT hat hrun ha hb
        have hb := get_bt T
        go_loop [4] (fun j => ∃ k : Nat, k ≤ T.size ∧ j = .int .i64 k ∧ Hid (endOf blkB T k = endOf blkB T T.size)) (fun j => (intOf j).toNat)
        case atStart => exact ⟨T.size, Nat.le_refl _, rfl, rfl⟩
        case round =>
          obtain ⟨m, hm, rfl, he⟩ := hrel
          match m, hm, he with
          | 0, hm, he =>
            go_wp2
            go_ret
            exact ⟨ret1 (strEq (by rw [hT2.out, ← he.out, endOf]; exact str_ext (by rw [size_extract]; show 0 = min 0 T.size - 0; omega) (fun k hk => absurd hk (Nat.not_lt_zero _)))), rfl⟩
          | m + 1, hm, he =>
            have hcast : (((m + 1 : Nat) : Int)) = (m : Int) + 1 := by omega
            rcases blk_tests (bt T m) with ⟨t1, t4⟩ | ⟨t1, t2, t4⟩ | ⟨t1, t2, t3, t4⟩ | ⟨t1, t2, t3, t4⟩
            · have he2 : Hid (endOf blkB T m = endOf blkB T T.size) := by rw [← he.out, endOf, if_pos t4]; rfl
              clear t4
              go_wp2
              go_round
              case rel => exact ⟨m, by omega, by go_num, he2⟩
              case measure => simp [intOf]
            · have he2 : Hid (endOf blkB T m = endOf blkB T T.size) := by rw [← he.out, endOf, if_pos t4]; rfl
              clear t4
              go_wp2
              go_round
              case rel => exact ⟨m, by omega, by go_num, he2⟩
              case measure => simp [intOf]
            · have he2 : Hid (endOf blkB T m = endOf blkB T T.size) := by rw [← he.out, endOf, if_pos t4]; rfl
              clear t4
              go_wp2
              go_round
              case rel => exact ⟨m, by omega, by go_num, he2⟩
              case measure => simp [intOf]
            · have he2 : Hid (endOf blkB T T.size = m + 1) := by rw [← he.out, endOf, t4]; rfl
              clear t4
              go_wp2
              go_ret
              exact ⟨ret1 (strEq (by rw [hT2.out, he2.out])), rfl⟩
end Go.Proofs.YtonadaoehhlafaaDoor.W
