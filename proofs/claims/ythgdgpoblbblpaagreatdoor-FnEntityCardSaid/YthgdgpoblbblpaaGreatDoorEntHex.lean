/- A walk of parseHTMLEntity at a numeric reference to base 16. Condition: the text has at most 300 bytes. -/
import Derived.Test.YthgdgpoblbblpaaGreatDoorEntP
namespace Go.Proofs.YthgdgpoblbblpaaGreatDoor.W
open Go.RowKit Go.PlainAid
set_option linter.unusedVariables false

set_option maxHeartbeats 4000000 in
set_option maxRecDepth 100000 in
theorem parse_hex (s : ByteArray) (i : Nat) (hs : s.size ≤ 300) (hi : i + 1 < s.size) (h35 : bt s (i + 1) = 35) (hx : i + 2 < s.size) (hx2 : bt s (i + 2) = 120 ∨ bt s (i + 2) = 88) (E : Nat) (hE : runEnd hexB s (i + 3) = E) (pv : Value) (w : World) :
    Calls Tryz.prog 17 #[pv, .string s, .int .i64 i] w (PRef s ((numV 16 s (i + 3) (E - (i + 3)) : Nat) : Int) i (i + 3) 6 E w) := by
  have hb := get_bt s
  have t35 : (bt s (i + 1) == 35) = true := by simp [h35]
  have hE1 : i + 3 ≤ E := by rw [← hE]; exact runEnd_ge _ _ _
  have hx3 : (bt s (i + 2) == 120) = true ∨ ((bt s (i + 2) == 120) = false ∧ (bt s (i + 2) == 88) = true) := by
    rcases hx2 with h | h
    · exact .inl (by simp [h])
    · exact .inr ⟨by simp [h], by simp [h]⟩
  have hE2 : E ≤ s.size := by rw [← hE]; exact runEnd_le _ _ (by omega)
  obtain ⟨v, hv⟩ : ∃ v : Int, Hid (((numV 16 s (i + 3) (E - (i + 3)) : Nat) : Int) = v) := ⟨_, rfl⟩
  have cP : Hid (i + 3 < E → E ≤ i + 3 + 6 → 0 ≤ v ∧ v < 16777216 ∧ ∀ w, Calls Tryz.prog 23 #[.string (s.extract (i + 3) E), .int .i64 16, .int .i64 0] w fun e w1 => e = .returned (.tuple #[.int .i64 v, .nilIface]) ∧ Below w.heap.size w w1) := fun g1 g2 => by
    have hin : ∀ t, t < E - (i + 3) → hexB (bt s (i + 3 + t)) = true := fun t ht => runEnd_in (i := i + 3) (by omega) (by omega)
    have hl := numV16 (s := s) (i := i + 3) (k := E - (i + 3)) hin (by omega)
    have hz : (s.extract (i + 3) E).size = E - (i + 3) := by rw [size_extract]; omega
    refine ⟨by rw [← hv.out]; omega, by rw [← hv.out]; omega, fun w => ?_⟩
    have c := parseInt16_c (s.extract (i + 3) E) (by omega) (by omega) (fun t ht => by rw [bt_extract s (by omega) hE2]; exact hin t (by omega)) w
    rw [cut_num hE1 hE2, hv.out] at c
    exact c
  rw [hv.out]
  replace hE := Lib.hid hE
  clear h35 hx2
  rcases hx3 with hx4 | ⟨hx4, hx5⟩
  all_goals
    go_enter Tryz.func17, Tryz.ntmps17
    go_wp2_with fail
    go_loop [13] (fun u => ∃ j : Nat, i + 3 ≤ j ∧ j ≤ E ∧ u = .int .i64 j) (fun u => s.size - (intOf u).toNat)
    case atStart => exact ⟨i + 3, by omega, hE1, by go_num⟩
    case round =>
      obtain ⟨j, hj1, hj2, rfl⟩ := hrel
      by_cases hjE : j < E
      · have hc : hexB (bt s j) = true := runEnd_in hj1 (by rw [hE.out]; exact hjE)
        go_wp2_with (go_at_call 22; refine (isHexDigit_c _ _).mono ?_; rintro e w1 ⟨rfl, rfl⟩; rw [hc])
        all_goals
          go_round
          case rel => exact ⟨j + 1, by omega, by omega, by go_num⟩
          case measure => simp [intOf]; omega
      · obtain rfl : j = E := by omega
        have hno : j < s.size → hexB (bt s j) = false := fun hz => by have := runEnd_at (p := hexB) (s := s) (i := i + 3) (by omega) (by rw [hE.out]; exact hz); rw [hE.out] at this; exact this
        by_cases e1 : j = i + 3
        · have hbad : ¬ RefOk s (i + 3) 6 j := by unfold RefOk; omega
          obtain rfl : j = i + 3 := e1
          by_cases hz : i + 3 < s.size
          · have hc := hno hz
            clear hno cP
            go_wp2_with (go_at_call 22; refine (isHexDigit_c _ _).mono ?_; rintro e w1 ⟨rfl, rfl⟩; rw [hc])
            all_goals (refine bodyPost_ret (results_tmp4 rfl _ _ _) rfl ?_; exact ⟨fun h => absurd h hbad, fun _ => ⟨rfl, rfl⟩⟩)
          · clear hno cP
            first
              | (exfalso; omega)
              | (go_wp2_with fail
                 all_goals (refine bodyPost_ret (results_tmp4 rfl _ _ _) rfl ?_; exact ⟨fun h => absurd h hbad, fun _ => ⟨rfl, rfl⟩⟩))
        · have n1 : i + 3 < j := by omega
          have f1 : decide ((j : Int) - ((i : Int) + 2 + 1) < 1) = false := by simp only [decide_eq_false_iff_not]; omega
          clear e1
          by_cases hz : j < s.size
          · have hc := hno hz
            have f3 : decide (s.size ≤ j) = false := by simp only [decide_eq_false_iff_not]; omega
            clear hno
            by_cases n2 : j ≤ i + 3 + 6
            · have f2 : decide ((6 : Int) < (j : Int) - ((i : Int) + 2 + 1)) = false := by simp only [decide_eq_false_iff_not]; omega
              by_cases e59 : bt s j = 59
              · have t59 : (bt s j != 59) = false := by simp [e59]
                have hok : RefOk s (i + 3) 6 j := ⟨n1, n2, hz, e59⟩
                obtain ⟨v0, v1, cP⟩ := cP.out n1 n2
                clear e59
                replace cP := Lib.hid cP
                by_cases y0 : v = 0
                · have hS := Lib.hid (numS_out (n := v) (.inl y0))
                  subst y0
                  go_wp2_with (first | (go_at_call 22; refine (isHexDigit_c _ _).mono ?_; rintro e w1 ⟨rfl, rfl⟩; rw [hc]) | (go_at_call 23; refine (cP.out _).mono ?_; rintro e w2 ⟨rfl, hB⟩))
                  all_goals (refine bodyPost_ret (results_tmp4 rfl _ _ _) rfl ?_; exact ⟨fun _ => ⟨w2.heap.size, hB.alloc hB.size _, by simp, ret4 rfl rfl (intEq (by omega)) rfl, by rw [World.cell?_alloc_at _ _ _ _ rfl, ← hS.out]; rfl⟩, fun h => absurd hok h⟩)
                · have y1 : (v == 0) = false := by simp [y0]
                  by_cases y2 : 1114111 < v
                  · have hS := Lib.hid (numS_out (n := v) (.inr y2))
                    clear y0
                    go_wp2_with (first | (go_at_call 22; refine (isHexDigit_c _ _).mono ?_; rintro e w1 ⟨rfl, rfl⟩; rw [hc]) | (go_at_call 23; refine (cP.out _).mono ?_; rintro e w2 ⟨rfl, hB⟩))
                    all_goals (refine bodyPost_ret (results_tmp4 rfl _ _ _) rfl ?_; exact ⟨fun _ => ⟨w2.heap.size, hB.alloc hB.size _, by simp, ret4 rfl rfl (intEq (by omega)) rfl, by rw [World.cell?_alloc_at _ _ _ _ rfl, ← hS.out]; rfl⟩, fun h => absurd hok h⟩)
                  · have hS := Lib.hid (numS_in (n := v) y0 (by omega))
                    have y3 : v ≤ 1114111 := by omega
                    clear y0
                    go_wp2_with (first | (go_at_call 22; refine (isHexDigit_c _ _).mono ?_; rintro e w1 ⟨rfl, rfl⟩; rw [hc]) | (go_at_call 23; refine (cP.out _).mono ?_; rintro e w2 ⟨rfl, hB⟩))
                    all_goals (refine bodyPost_ret (results_tmp4 rfl _ _ _) rfl ?_; exact ⟨fun _ => ⟨w2.heap.size, hB.alloc hB.size _, by simp, ret4 rfl rfl (intEq (by omega)) rfl, by rw [World.cell?_alloc_at _ _ _ _ rfl, ← hS.out]; rfl⟩, fun h => absurd hok h⟩)
              · have t59 : (bt s j != 59) = true := by simp [e59]
                have hbad : ¬ RefOk s (i + 3) 6 j := fun h => e59 h.2.2.2
                clear e59 cP
                go_wp2_with (go_at_call 22; refine (isHexDigit_c _ _).mono ?_; rintro e w1 ⟨rfl, rfl⟩; rw [hc])
                all_goals (refine bodyPost_ret (results_tmp4 rfl _ _ _) rfl ?_; exact ⟨fun h => absurd h hbad, fun _ => ⟨rfl, rfl⟩⟩)
            · have hbad : ¬ RefOk s (i + 3) 6 j := by unfold RefOk; omega
              clear cP
              go_wp2_with (go_at_call 22; refine (isHexDigit_c _ _).mono ?_; rintro e w1 ⟨rfl, rfl⟩; rw [hc])
              all_goals (refine bodyPost_ret (results_tmp4 rfl _ _ _) rfl ?_; exact ⟨fun h => absurd h hbad, fun _ => ⟨rfl, rfl⟩⟩)
          · have hbad : ¬ RefOk s (i + 3) 6 j := by unfold RefOk; omega
            clear hno cP
            go_wp2_with fail
            all_goals (refine bodyPost_ret (results_tmp4 rfl _ _ _) rfl ?_; exact ⟨fun h => absurd h hbad, fun _ => ⟨rfl, rfl⟩⟩)
end Go.Proofs.YthgdgpoblbblpaaGreatDoor.W
