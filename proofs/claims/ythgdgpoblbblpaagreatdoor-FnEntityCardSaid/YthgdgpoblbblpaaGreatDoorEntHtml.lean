/- Walks of the reference's Entity at a name, and of the package's table of names. Condition: the text has at most 300 bytes; the table holds its twelve names. -/
import Derived.Test.YthgdgpoblbblpaaGreatDoorEntSpec
namespace Go.Proofs.YthgdgpoblbblpaaGreatDoor.W
open Go.RowKit Go.PlainAid
set_option linter.unusedVariables false

/-! ### the table -/
def EntAt (w : World) : Prop := ∀ k, k < 12 → w.cell? ⟨0, k * 2, none⟩ = some (.string (entN k)) ∧ w.cell? ⟨0, k * 2 + 1, none⟩ = some (.string (entV k))
theorem EntAt.below {w w1 : World} {B : Nat} (h : EntAt w) (hB : Below B w w1) (hb : 0 < B) : EntAt w1 := fun k hk => by
  obtain ⟨a, b⟩ := h k hk
  exact ⟨(hB.cell (p := ⟨0, k * 2, none⟩) hb).trans a, (hB.cell (p := ⟨0, k * 2 + 1, none⟩) hb).trans b⟩
theorem eqNo {a b : ByteArray} (h : a ≠ b) : (a.toList == b.toList) = false := by
  rw [beq_eq_false_iff_ne]
  intro e
  rw [ByteArray.toList_eq, ByteArray.toList_eq] at e
  exact h (by cases a; cases b; simp_all)
set_option maxHeartbeats 400000 in
theorem html_yes (q : Nat) (hq : q < 12) (w : World) (hT : EntAt w) :
    Calls Tryz.prog 26 #[.string (entN q)] w fun e w1 => e = .returned (.tuple #[.string (entV q), .bool true]) ∧ w = w1 := by
  obtain ⟨t, ht⟩ : ∃ t, Hid (entN q = t) := ⟨_, rfl⟩
  obtain ⟨v, hv⟩ : ∃ v, Hid (entV q = v) := ⟨_, rfl⟩
  rw [ht.out, hv.out]
  replace hT := Lib.hid hT
  go_enter Tryz.func26, Tryz.ntmps26
  go_wp2_with fail
  go_loop [4] (fun v => ∃ k : Nat, k ≤ q ∧ v = .int .i64 k) (fun v => 12 - (intOf v).toNat)
  case atStart => exact ⟨0, by omega, rfl⟩
  case round =>
    obtain ⟨k, hk, rfl⟩ := hrel
    obtain ⟨c0, c1⟩ := hT.out k (by omega)
    by_cases hlt : k < q
    · have hne : ((entN k).toList == t.toList) = false := eqNo (by rw [← ht.out]; exact ent_ne q hq k hlt)
      go_wp2_with fail
      go_round
      case rel => exact ⟨k + 1, by omega, by go_num⟩
      case measure => simp [intOf]; omega
    · obtain rfl : k = q := by omega
      rw [ht.out] at c0
      rw [hv.out] at c1
      go_wp2_with fail
      go_ret2
      exact ⟨rfl, rfl⟩
set_option maxHeartbeats 400000 in
theorem html_no (t : ByteArray) (h : ∀ k, k < 12 → entN k ≠ t) (w : World) (hT : EntAt w) :
    Calls Tryz.prog 26 #[.string t] w fun e w1 => e = .returned (.tuple #[.string ⟨#[]⟩, .bool false]) ∧ w = w1 := by
  replace hT := Lib.hid hT
  replace h := Lib.hid h
  go_enter Tryz.func26, Tryz.ntmps26
  go_wp2_with fail
  go_loop [4] (fun v => ∃ k : Nat, k ≤ 12 ∧ v = .int .i64 k) (fun v => 12 - (intOf v).toNat)
  case atStart => exact ⟨0, by omega, rfl⟩
  case round =>
    obtain ⟨k, hk, rfl⟩ := hrel
    by_cases hlt : k < 12
    · obtain ⟨c0, c1⟩ := hT.out k hlt
      have hne : ((entN k).toList == t.toList) = false := eqNo (h.out k hlt)
      go_wp2_with fail
      go_round
      case rel => exact ⟨k + 1, by omega, by go_num⟩
      case measure => simp [intOf]; omega
    · obtain rfl : k = 12 := by omega
      go_wp2_with fail
      go_ret2
      exact ⟨rfl, rfl⟩

/-! ### the reference -/
set_option maxRecDepth 100000 in
theorem ent_short (s : ByteArray) (i : Nat) (hs : s.size ≤ 300) (hi : i + 1 = s.size) (h38 : bt s i = 38) (w : World) :
    Calls Tryz.prog 7 #[.string s, .int .i64 i] w fun e w1 => e = .returned (.tuple #[.string ⟨#[]⟩, .int .i64 0]) ∧ w = w1 := by
  have hb := get_bt s
  have t38 : (bt s i != 38) = false := by simp [h38]
  have hz : decide ((s.size : Int) ≤ (i : Int) + 1) = true := by simp only [decide_eq_true_eq]; omega
  have hi2 : i < s.size := by omega
  clear h38 hi
  go_enter Tryz.func7, Tryz.ntmps7
  go_wp2_with fail
  go_ret2
  exact ⟨rfl, rfl⟩
def NameOk (s : ByteArray) (i E : Nat) : Prop := i + 1 < E ∧ E < s.size ∧ bt s E = 59
def NameSaid (s : ByteArray) (i E : Nat) (w : World) (e : Ending) (w1 : World) : Prop :=
  w = w1 ∧ (NameOk s i E → namedS (s.extract (i + 1) E) ≠ ⟨#[]⟩ → e = .returned (.tuple #[.string (namedS (s.extract (i + 1) E)), .int .i64 (E + 1 - i : Nat)])) ∧ (¬ NameOk s i E → e = .returned (.tuple #[.string ⟨#[]⟩, .int .i64 0]))
theorem emptyIs {t : ByteArray} (h : t ≠ ⟨#[]⟩) : t.toList.isEmpty = false := by
  rw [Bool.eq_false_iff]
  intro e
  rw [ByteArray.toList_eq, List.isEmpty_iff] at e
  exact h (by cases t; simp_all)
set_option maxHeartbeats 2000000 in
set_option maxRecDepth 100000 in
theorem ent_name (s : ByteArray) (i : Nat) (hs : s.size ≤ 300) (hi : i + 1 < s.size) (h38 : bt s i = 38) (h35 : bt s (i + 1) ≠ 35) (E : Nat) (hE : runEnd ldB s (i + 1) = E) (w : World) :
    Calls Tryz.prog 7 #[.string s, .int .i64 i] w (NameSaid s i E w) := by
  have hb := get_bt s
  have t38 : (bt s i != 38) = false := by simp [h38]
  have t35 : (bt s (i + 1) == 35) = false := by simp [h35]
  have hE1 : i + 1 ≤ E := by rw [← hE]; exact runEnd_ge _ _ _
  have hE2 : E ≤ s.size := by rw [← hE]; exact runEnd_le _ _ (by omega)
  have z1 : decide (s.size ≤ i) = false := by simp only [decide_eq_false_iff_not]; omega
  have z2 : decide ((s.size : Int) ≤ (i : Int) + 1) = false := by simp only [decide_eq_false_iff_not]; omega
  replace hE := Lib.hid hE
  clear h38 h35
  go_enter Tryz.func7, Tryz.ntmps7
  go_wp2_with fail
  go_loop [6] (fun v => ∃ j : Nat, i + 1 ≤ j ∧ j ≤ E ∧ v = .int .i64 j) (fun v => s.size - (intOf v).toNat)
  case atStart => exact ⟨i + 1, by omega, hE1, by go_num⟩
  case round =>
    obtain ⟨j, hj1, hj2, rfl⟩ := hrel
    by_cases hjE : j < E
    · have hld : ldB (bt s j) = true := runEnd_in hj1 (by rw [hE.out]; exact hjE)
      cases hl : letB (bt s j)
      · have hd := ldB_split hld hl
        clear hld
        go_wp2_with (first | (go_at_call 9; refine (IsLetter_c _ _).mono ?_; rintro e w1 ⟨rfl, rfl⟩; rw [hl]) | (go_at_call 10; refine (IsDigit_c _ _).mono ?_; rintro e w1 ⟨rfl, rfl⟩; rw [hd]))
        go_round
        case rel => exact ⟨j + 1, by omega, by omega, by go_num⟩
        case measure => simp [intOf]; omega
      · clear hld
        go_wp2_with (first | (go_at_call 9; refine (IsLetter_c _ _).mono ?_; rintro e w1 ⟨rfl, rfl⟩; rw [hl]))
        go_round
        case rel => exact ⟨j + 1, by omega, by omega, by go_num⟩
        case measure => simp [intOf]; omega
    · obtain rfl : j = E := by omega
      by_cases hz : j < s.size
      · have hno : ldB (bt s j) = false := by have := runEnd_at (p := ldB) (s := s) (i := i + 1) (by omega) (by rw [hE.out]; exact hz); rw [hE.out] at this; exact this
        obtain ⟨hl, hd⟩ := ldB_none hno
        clear hno
        have f3 : ((j : Int) == (s.size : Int)) = false := by rw [beq_eq_false_iff_ne]; omega
        by_cases e1 : i + 1 < j
        · have f1 : ((j : Int) == (i : Int) + 1) = false := by rw [beq_eq_false_iff_ne]; omega
          by_cases e59 : bt s j = 59
          · have t59 : (bt s j != 59) = false := by simp [e59]
            have hok : NameOk s i j := ⟨e1, hz, e59⟩
            clear e59
            by_cases hne : namedS (s.extract (i + 1) j) = ⟨#[]⟩
            · have hx : (namedS (s.extract (i + 1) j)).toList.isEmpty = true := by rw [hne]; simp [ByteArray.toList_eq]
              replace hne := Lib.hid hne
              go_wp2_with (first | (go_at_call 9; refine (IsLetter_c _ _).mono ?_; rintro e w1 ⟨rfl, rfl⟩; rw [hl]) | (go_at_call 10; refine (IsDigit_c _ _).mono ?_; rintro e w1 ⟨rfl, rfl⟩; rw [hd]) | (go_at_call 11; refine (named_c _ _).mono ?_; rintro e w1 ⟨rfl, rfl⟩))
              all_goals (go_ret2; exact ⟨rfl, fun _ h => absurd hne.out h, fun h => absurd hok h⟩)
            · have hx : (namedS (s.extract (i + 1) j)).toList.isEmpty = false := emptyIs hne
              replace hne := Lib.hid hne
              go_wp2_with (first | (go_at_call 9; refine (IsLetter_c _ _).mono ?_; rintro e w1 ⟨rfl, rfl⟩; rw [hl]) | (go_at_call 10; refine (IsDigit_c _ _).mono ?_; rintro e w1 ⟨rfl, rfl⟩; rw [hd]) | (go_at_call 11; refine (named_c _ _).mono ?_; rintro e w1 ⟨rfl, rfl⟩))
              go_ret2
              exact ⟨rfl, fun _ _ => ret2 rfl (intEq (by omega)), fun h => absurd hok h⟩
          · have t59 : (bt s j != 59) = true := by simp [e59]
            have hbad : ¬ NameOk s i j := fun h => e59 h.2.2
            clear e59
            go_wp2_with (first | (go_at_call 9; refine (IsLetter_c _ _).mono ?_; rintro e w1 ⟨rfl, rfl⟩; rw [hl]) | (go_at_call 10; refine (IsDigit_c _ _).mono ?_; rintro e w1 ⟨rfl, rfl⟩; rw [hd]))
            all_goals (go_ret2; exact ⟨rfl, fun h => absurd h hbad, fun _ => rfl⟩)
        · have hbad : ¬ NameOk s i j := fun h => e1 h.1
          obtain rfl : j = i + 1 := by omega
          go_wp2_with (first | (go_at_call 9; refine (IsLetter_c _ _).mono ?_; rintro e w1 ⟨rfl, rfl⟩; rw [hl]) | (go_at_call 10; refine (IsDigit_c _ _).mono ?_; rintro e w1 ⟨rfl, rfl⟩; rw [hd]))
          all_goals (go_ret2; exact ⟨rfl, fun h => absurd h hbad, fun _ => rfl⟩)
      · have hbad : ¬ NameOk s i j := fun h => hz h.2.1
        go_wp2_with fail
        all_goals (go_ret2; exact ⟨rfl, fun h => absurd h hbad, fun _ => rfl⟩)
end Go.Proofs.YthgdgpoblbblpaaGreatDoor.W
