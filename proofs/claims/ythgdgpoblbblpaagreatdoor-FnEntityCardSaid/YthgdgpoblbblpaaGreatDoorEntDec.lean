/- A walk of parseHTMLEntity at a numeric reference to base 10. Condition: the text has at most 300 bytes. -/
import Derived.Test.YthgdgpoblbblpaaGreatDoorEntP
namespace Go.Proofs.YthgdgpoblbblpaaGreatDoor.W
open Go.RowKit Go.PlainAid
set_option linter.unusedVariables false

set_option maxHeartbeats 4000000 in
set_option maxRecDepth 100000 in
theorem parse_dec (s : ByteArray) (i : Nat) (hs : s.size ≤ 300) (hi : i + 1 < s.size) (h35 : bt s (i + 1) = 35) (hx : i + 2 < s.size → bt s (i + 2) ≠ 120 ∧ bt s (i + 2) ≠ 88) (E : Nat) (hE : runEnd digB s (i + 2) = E) (pv : Value) (w : World) :
    Calls Tryz.prog 17 #[pv, .string s, .int .i64 i] w (PRef s ((numV 10 s (i + 2) (E - (i + 2)) : Nat) : Int) i (i + 2) 7 E w) := by
  have hb := get_bt s
  have t35 : (bt s (i + 1) == 35) = true := by simp [h35]
  have hE1 : i + 2 ≤ E := by rw [← hE]; exact runEnd_ge _ _ _
  have hx3 : (i + 2 < s.size ∧ (bt s (i + 2) == 120) = false ∧ (bt s (i + 2) == 88) = false) ∨ s.size = i + 2 := by
    by_cases h : i + 2 < s.size
    · exact .inl ⟨h, by simp [(hx h).1], by simp [(hx h).2]⟩
    · exact .inr (by omega)
  have hE2 : E ≤ s.size := by rw [← hE]; exact runEnd_le _ _ (by omega)
  obtain ⟨v, hv⟩ : ∃ v : Int, Hid (((numV 10 s (i + 2) (E - (i + 2)) : Nat) : Int) = v) := ⟨_, rfl⟩
  have cP : Hid (i + 2 < E → E ≤ i + 2 + 7 → 0 ≤ v ∧ v < 10000000 ∧ ∀ w, Calls Tryz.prog 25 #[.string (s.extract (i + 2) E)] w fun e w1 => e = .returned (.tuple #[.int .i64 v, .nilIface]) ∧ Below w.heap.size w w1) := fun g1 g2 => by
    have hin : ∀ t, t < E - (i + 2) → digB (bt s (i + 2 + t)) = true := fun t ht => runEnd_in (i := i + 2) (by omega) (by omega)
    have hl := numV10 (s := s) (i := i + 2) (k := E - (i + 2)) hin (by omega)
    have hz : (s.extract (i + 2) E).size = E - (i + 2) := by rw [size_extract]; omega
    refine ⟨by rw [← hv.out]; omega, by rw [← hv.out]; omega, fun w => ?_⟩
    have c := atoi_c (s.extract (i + 2) E) (by omega) (by omega) (fun t ht => by rw [bt_extract s (by omega) hE2]; exact hin t (by omega)) w
    rw [cut_num hE1 hE2, hv.out] at c
    exact c
  rw [hv.out]
  replace hE := Lib.hid hE
  clear h35 hx
  rcases hx3 with ⟨hx, hx4, hx5⟩ | hx
  all_goals
    go_enter Tryz.func17, Tryz.ntmps17
    go_wp2_with fail
    go_loop [16] (fun u => ∃ j : Nat, i + 2 ≤ j ∧ j ≤ E ∧ u = .int .i64 j) (fun u => s.size - (intOf u).toNat)
    case atStart => exact ⟨i + 2, by omega, hE1, by go_num⟩
    case round =>
      obtain ⟨j, hj1, hj2, rfl⟩ := hrel
      by_cases hjE : j < E
      · have hc : digB (bt s j) = true := runEnd_in hj1 (by rw [hE.out]; exact hjE)
        go_wp2_with (go_at_call 24; refine (isDigit_c _ _).mono ?_; rintro e w1 ⟨rfl, rfl⟩; rw [hc])
        all_goals
          go_round
          case rel => exact ⟨j + 1, by omega, by omega, by go_num⟩
          case measure => simp [intOf]; omega
      · obtain rfl : j = E := by omega
        have hno : j < s.size → digB (bt s j) = false := fun hz => by have := runEnd_at (p := digB) (s := s) (i := i + 2) (by omega) (by rw [hE.out]; exact hz); rw [hE.out] at this; exact this
        by_cases e1 : j = i + 2
        · have hbad : ¬ RefOk s (i + 2) 7 j := by unfold RefOk; omega
          obtain rfl : j = i + 2 := e1
          by_cases hz : i + 2 < s.size
          · have hc := hno hz
            clear hno cP
            go_wp2_with (go_at_call 24; refine (isDigit_c _ _).mono ?_; rintro e w1 ⟨rfl, rfl⟩; rw [hc])
            all_goals (refine bodyPost_ret (results_tmp4 rfl _ _ _) rfl ?_; exact ⟨fun h => absurd h hbad, fun _ => ⟨rfl, rfl⟩⟩)
          · clear hno cP
            first
              | (exfalso; omega)
              | (go_wp2_with fail
                 all_goals (refine bodyPost_ret (results_tmp4 rfl _ _ _) rfl ?_; exact ⟨fun h => absurd h hbad, fun _ => ⟨rfl, rfl⟩⟩))
        · have n1 : i + 2 < j := by omega
          have f1 : decide ((j : Int) - ((i : Int) + 2) < 1) = false := by simp only [decide_eq_false_iff_not]; omega
          clear e1
          by_cases hz : j < s.size
          · have hc := hno hz
            have f3 : decide (s.size ≤ j) = false := by simp only [decide_eq_false_iff_not]; omega
            clear hno
            by_cases n2 : j ≤ i + 2 + 7
            · have f2 : decide ((7 : Int) < (j : Int) - ((i : Int) + 2)) = false := by simp only [decide_eq_false_iff_not]; omega
              by_cases e59 : bt s j = 59
              · have t59 : (bt s j != 59) = false := by simp [e59]
                have hok : RefOk s (i + 2) 7 j := ⟨n1, n2, hz, e59⟩
                obtain ⟨v0, v1, cP⟩ := cP.out n1 n2
                clear e59
                replace cP := Lib.hid cP
                by_cases y0 : v = 0
                · have hS := Lib.hid (numS_out (n := v) (.inl y0))
                  subst y0
                  go_wp2_with (first | (go_at_call 24; refine (isDigit_c _ _).mono ?_; rintro e w1 ⟨rfl, rfl⟩; rw [hc]) | (go_at_call 25; refine (cP.out _).mono ?_; rintro e w2 ⟨rfl, hB⟩))
                  all_goals (refine bodyPost_ret (results_tmp4 rfl _ _ _) rfl ?_; exact ⟨fun _ => ⟨w2.heap.size, hB.alloc hB.size _, by simp, ret4 rfl rfl (intEq (by omega)) rfl, by rw [World.cell?_alloc_at _ _ _ _ rfl, ← hS.out]; rfl⟩, fun h => absurd hok h⟩)
                · have y1 : (v == 0) = false := by simp [y0]
                  by_cases y2 : 1114111 < v
                  · have hS := Lib.hid (numS_out (n := v) (.inr y2))
                    clear y0
                    go_wp2_with (first | (go_at_call 24; refine (isDigit_c _ _).mono ?_; rintro e w1 ⟨rfl, rfl⟩; rw [hc]) | (go_at_call 25; refine (cP.out _).mono ?_; rintro e w2 ⟨rfl, hB⟩))
                    all_goals (refine bodyPost_ret (results_tmp4 rfl _ _ _) rfl ?_; exact ⟨fun _ => ⟨w2.heap.size, hB.alloc hB.size _, by simp, ret4 rfl rfl (intEq (by omega)) rfl, by rw [World.cell?_alloc_at _ _ _ _ rfl, ← hS.out]; rfl⟩, fun h => absurd hok h⟩)
                  · have hS := Lib.hid (numS_in (n := v) y0 (by omega))
                    have y3 : v ≤ 1114111 := by omega
                    clear y0
                    go_wp2_with (first | (go_at_call 24; refine (isDigit_c _ _).mono ?_; rintro e w1 ⟨rfl, rfl⟩; rw [hc]) | (go_at_call 25; refine (cP.out _).mono ?_; rintro e w2 ⟨rfl, hB⟩))
                    all_goals (refine bodyPost_ret (results_tmp4 rfl _ _ _) rfl ?_; exact ⟨fun _ => ⟨w2.heap.size, hB.alloc hB.size _, by simp, ret4 rfl rfl (intEq (by omega)) rfl, by rw [World.cell?_alloc_at _ _ _ _ rfl, ← hS.out]; rfl⟩, fun h => absurd hok h⟩)
              · have t59 : (bt s j != 59) = true := by simp [e59]
                have hbad : ¬ RefOk s (i + 2) 7 j := fun h => e59 h.2.2.2
                clear e59 cP
                go_wp2_with (go_at_call 24; refine (isDigit_c _ _).mono ?_; rintro e w1 ⟨rfl, rfl⟩; rw [hc])
                all_goals (refine bodyPost_ret (results_tmp4 rfl _ _ _) rfl ?_; exact ⟨fun h => absurd h hbad, fun _ => ⟨rfl, rfl⟩⟩)
            · have hbad : ¬ RefOk s (i + 2) 7 j := by unfold RefOk; omega
              clear cP
              go_wp2_with (go_at_call 24; refine (isDigit_c _ _).mono ?_; rintro e w1 ⟨rfl, rfl⟩; rw [hc])
              all_goals (refine bodyPost_ret (results_tmp4 rfl _ _ _) rfl ?_; exact ⟨fun h => absurd h hbad, fun _ => ⟨rfl, rfl⟩⟩)
          · have hbad : ¬ RefOk s (i + 2) 7 j := by unfold RefOk; omega
            clear hno cP
            go_wp2_with fail
            all_goals (refine bodyPost_ret (results_tmp4 rfl _ _ _) rfl ?_; exact ⟨fun h => absurd h hbad, fun _ => ⟨rfl, rfl⟩⟩)
end Go.Proofs.YthgdgpoblbblpaaGreatDoor.W
