/- Walks of parseHTMLEntity at a name, and at the end of a text. Condition: the text has at most 300 bytes; the table holds its twelve names. -/
import Derived.Test.YthgdgpoblbblpaaGreatDoorEntP
namespace Go.Proofs.YthgdgpoblbblpaaGreatDoor.W
open Go.RowKit Go.PlainAid
set_option linter.unusedVariables false

/-! ### names -/
set_option maxRecDepth 100000 in
theorem parse_short (s : ByteArray) (i : Nat) (hs : s.size ≤ 300) (hi : i + 1 = s.size) (pv : Value) (w : World) :
    Calls Tryz.prog 17 #[pv, .string s, .int .i64 i] w (PNo w) := by
  have hb := get_bt s
  go_enter Tryz.func17, Tryz.ntmps17
  go_wp2_with fail
  go_loop [17] (fun u => u = .int .i64 ((i : Int) + 1)) (fun u => s.size - (intOf u).toNat)
  case atStart => rfl
  case round =>
    subst hrel
    go_wp2_with fail
    all_goals (refine bodyPost_ret (results_tmp4 rfl _ _ _) rfl ?_; exact ⟨rfl, rfl⟩)
def NameIn (s : ByteArray) (i J : Nat) : Prop := J < s.size ∧ J < i + 64 ∧ bt s J = 59
def PName (s : ByteArray) (i J : Nat) (w : World) (e : Ending) (w1 : World) : Prop :=
  (∀ q, q < 12 → NameIn s i J → s.extract i (J + 1) = entN q → PYes (entV q) i (J + 1) w.heap.size w e w1) ∧ ((NameIn s i J → ∀ q, q < 12 → entN q ≠ s.extract i (J + 1)) → PNo w e w1)

set_option maxHeartbeats 4000000 in
set_option maxRecDepth 100000 in
theorem parse_yes (s : ByteArray) (i : Nat) (hs : s.size ≤ 300) (hi : i + 1 < s.size) (h35 : bt s (i + 1) ≠ 35) (J : Nat) (hJ : runEnd nsB s (i + 1) = J) (h2 : J < s.size) (h64 : J < i + 64) (h59 : bt s J = 59) (q : Nat) (hq : q < 12) (hN : s.extract i (J + 1) = entN q) (pv : Value) (w : World) (hT : EntAt w) :
    Calls Tryz.prog 17 #[pv, .string s, .int .i64 i] w (PYes (entV q) i (J + 1) w.heap.size w) := by
  have hb := get_bt s
  have t35 : (bt s (i + 1) == 35) = false := by simp [h35]
  have hJ1 : i + 1 ≤ J := by rw [← hJ]; exact runEnd_ge _ _ _
  have hJ2 : J ≤ s.size := by rw [← hJ]; exact runEnd_le _ _ (by omega)
  replace hJ := Lib.hid hJ
  replace hT := Lib.hid hT
  clear h35
  have cH : Hid (∀ w, EntAt w → Calls Tryz.prog 26 #[.string (s.extract i (J + 1))] w fun e w1 => e = .returned (.tuple #[.string (entV q), .bool true]) ∧ w = w1) := fun w hT => by
    rw [hN]; exact html_yes q hq w hT
  have t3 : (bt s J == 38) = false := by simp [h59]
  have t4 : (bt s J == 59) = true := by simp [h59]
  clear hN h59
  go_enter Tryz.func17, Tryz.ntmps17
  go_wp2_with fail
  go_loop [17] (fun u => ∃ j : Nat, i + 1 ≤ j ∧ j ≤ J ∧ u = .int .i64 j) (fun u => s.size - (intOf u).toNat)
  case atStart => exact ⟨i + 1, by omega, hJ1, by go_num⟩
  case round =>
    obtain ⟨j, hj1, hj2, rfl⟩ := hrel
    by_cases hjE : j < J
    · have hc := (nsB_iff _).1 (runEnd_in (p := nsB) hj1 (by rw [hJ.out]; exact hjE))
      have t1 : (bt s j == 38) = false := by simp [hc.1]
      have t2 : (bt s j == 59) = false := by simp [hc.2]
      clear hc
      have hj64 : j < i + 64 := by omega
      go_wp2_with fail
      go_round
      case rel => exact ⟨j + 1, by omega, by omega, by go_num⟩
      case measure => simp [intOf]; omega
    · obtain rfl : j = J := by omega
      go_wp2_with (go_at_call 26; refine (cH.out _ hT.out).mono ?_; rintro e w1 ⟨rfl, rfl⟩)
      all_goals (refine bodyPost_ret (results_tmp4 rfl _ _ _) rfl ?_; exact ⟨w.heap.size, (Below.refl _ _).alloc (Nat.le_refl _) _, by simp, ret4 rfl rfl (intEq (by omega)) rfl, by rw [World.cell?_alloc_at _ _ _ _ rfl]; rfl⟩)

set_option maxHeartbeats 4000000 in
set_option maxRecDepth 100000 in
theorem parse_no (s : ByteArray) (i : Nat) (hs : s.size ≤ 300) (hi : i + 1 < s.size) (h35 : bt s (i + 1) ≠ 35) (J : Nat) (hJ : runEnd nsB s (i + 1) = J) (hN : J < s.size → bt s J = 59 → ∀ k, k < 12 → entN k ≠ s.extract i (J + 1)) (pv : Value) (w : World) (hT : EntAt w) :
    Calls Tryz.prog 17 #[pv, .string s, .int .i64 i] w (PNo w) := by
  have hb := get_bt s
  have t35 : (bt s (i + 1) == 35) = false := by simp [h35]
  have hJ1 : i + 1 ≤ J := by rw [← hJ]; exact runEnd_ge _ _ _
  have hJ2 : J ≤ s.size := by rw [← hJ]; exact runEnd_le _ _ (by omega)
  replace hJ := Lib.hid hJ
  replace hT := Lib.hid hT
  clear h35
  go_enter Tryz.func17, Tryz.ntmps17
  go_wp2_with fail
  go_loop [17] (fun u => ∃ j : Nat, i + 1 ≤ j ∧ j ≤ J ∧ u = .int .i64 j) (fun u => s.size - (intOf u).toNat)
  case atStart => exact ⟨i + 1, by omega, hJ1, by go_num⟩
  case round =>
    obtain ⟨j, hj1, hj2, rfl⟩ := hrel
    by_cases hjE : j < J
    · have hc := (nsB_iff _).1 (runEnd_in (p := nsB) hj1 (by rw [hJ.out]; exact hjE))
      have t1 : (bt s j == 38) = false := by simp [hc.1]
      have t2 : (bt s j == 59) = false := by simp [hc.2]
      clear hc
      clear hN
      go_wp2_with fail
      all_goals first
        | (go_round
           case rel => exact ⟨j + 1, by omega, by omega, by go_num⟩
           case measure => simp [intOf]; omega)
        | (refine bodyPost_ret (results_tmp4 rfl _ _ _) rfl ?_; exact ⟨rfl, rfl⟩)
    · obtain rfl : j = J := by omega
      by_cases h2 : j < s.size
      · have hc : nsB (bt s j) = false := by have := runEnd_at (p := nsB) (s := s) (i := i + 1) (by omega) (by rw [hJ.out]; exact h2); rw [hJ.out] at this; exact this
        by_cases h38 : bt s j = 38
        · have t3 : (bt s j == 38) = true := by simp [h38]
          clear hc h38 hN
          go_wp2_with fail
          all_goals (refine bodyPost_ret (results_tmp4 rfl _ _ _) rfl ?_; exact ⟨rfl, rfl⟩)
        · have h59 : bt s j = 59 := by
            have : ¬ nsB (bt s j) = true := by rw [hc]; decide
            rw [nsB_iff] at this
            omega
          have t3 : (bt s j == 38) = false := by simp [h59]
          have t4 : (bt s j == 59) = true := by simp [h59]
          have cH : Hid (∀ w, EntAt w → Calls Tryz.prog 26 #[.string (s.extract i (j + 1))] w fun e w1 => e = .returned (.tuple #[.string ⟨#[]⟩, .bool false]) ∧ w = w1) := fun w hT => html_no _ (hN h2 h59) w hT
          clear hc h38 hN h59
          go_wp2_with (go_at_call 26; refine (cH.out _ hT.out).mono ?_; rintro e w1 ⟨rfl, rfl⟩)
          all_goals (refine bodyPost_ret (results_tmp4 rfl _ _ _) rfl ?_; exact ⟨rfl, rfl⟩)
      · clear hN
        go_wp2_with fail
        all_goals (refine bodyPost_ret (results_tmp4 rfl _ _ _) rfl ?_; exact ⟨rfl, rfl⟩)
end Go.Proofs.YthgdgpoblbblpaaGreatDoor.W
