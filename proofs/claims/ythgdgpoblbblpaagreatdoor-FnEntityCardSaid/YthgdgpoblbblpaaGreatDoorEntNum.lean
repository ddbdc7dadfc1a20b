/- Walks of the reference's numeric and of its Entity at a numeric reference. Condition: the text has at most 300 bytes. -/
import Derived.Test.YthgdgpoblbblpaaGreatDoorEntSpec
namespace Go.Proofs.YthgdgpoblbblpaaGreatDoor.W
open Go.RowKit Go.PlainAid
set_option linter.unusedVariables false

def numS (n : Int) : ByteArray := Utf8.encode (if n = 0 ∨ 1114111 < n ∨ (55296 ≤ n ∧ n < 57344) then 65533 else n)
theorem numeric_c (n : Int) (h0 : 0 ≤ n) (h1 : n ≤ 1073741824) (w : World) :
    Calls Tryz.prog 15 #[.int .i64 n] w fun e w1 => e = .returned (.string (numS n)) ∧ w = w1 := by
  have hz : n = 0 ∨ (0 < n ∧ 1114111 < n) ∨ (0 < n ∧ n ≤ 1114111 ∧ 55296 ≤ n ∧ n < 57344) ∨ (0 < n ∧ n < 55296) ∨ (0 < n ∧ 57344 ≤ n ∧ n ≤ 1114111) := by omega
  rcases hz with rfl | ⟨a, b⟩ | ⟨a, b, c, d⟩ | ⟨a, b⟩ | ⟨a, b, c⟩
  · go_enter Tryz.func15, Tryz.ntmps15
    go_wp2
    go_ret
    exact ⟨rfl, rfl⟩
  · have hx : numS n = Utf8.encode 65533 := by unfold numS; rw [if_pos (by omega)]
    have n0 : (n == 0) = false := by rw [beq_eq_false_iff_ne]; omega
    rw [hx]; clear hx
    go_enter Tryz.func15, Tryz.ntmps15
    go_wp2
    go_ret
    exact ⟨rfl, rfl⟩
  · have hx : numS n = Utf8.encode 65533 := by unfold numS; rw [if_pos (by omega)]
    have n0 : (n == 0) = false := by rw [beq_eq_false_iff_ne]; omega
    rw [hx]; clear hx
    go_enter Tryz.func15, Tryz.ntmps15
    go_wp2
    go_ret
    exact ⟨rfl, rfl⟩
  · have hx : numS n = Utf8.encode n := by unfold numS; rw [if_neg (by omega)]
    have n0 : (n == 0) = false := by rw [beq_eq_false_iff_ne]; omega
    rw [hx]; clear hx
    go_enter Tryz.func15, Tryz.ntmps15
    go_wp2
    go_ret
    exact ⟨rfl, rfl⟩
  · have hx : numS n = Utf8.encode n := by unfold numS; rw [if_neg (by omega)]
    have n0 : (n == 0) = false := by rw [beq_eq_false_iff_ne]; omega
    rw [hx]; clear hx
    go_enter Tryz.func15, Tryz.ntmps15
    go_wp2
    go_ret
    exact ⟨rfl, rfl⟩

theorem hex_dig {c : Int} (h : hexB c = false) : digB c = false := by
  have a : ¬ hexB c = true := by rw [h]; decide
  rw [hexB_iff] at a
  rw [Bool.eq_false_iff, Ne, digB_iff]; omega
/-- is there a numeric reference whose digits stand from 'from' to E? -/
def RefOk (s : ByteArray) (fr most E : Nat) : Prop := fr < E ∧ E ≤ fr + most ∧ E < s.size ∧ bt s E = 59
def NumSaid (b : Nat) (s : ByteArray) (i fr most E : Nat) (w : World) (e : Ending) (w1 : World) : Prop :=
  w = w1 ∧ (RefOk s fr most E → e = .returned (.tuple #[.string (numS (numV b s fr (E - fr) : Nat)), .int .i64 (E + 1 - i : Nat)])) ∧ (¬ RefOk s fr most E → e = .returned (.tuple #[.string ⟨#[]⟩, .int .i64 0]))
theorem numV_step {b : Nat} {s : ByteArray} {fr j : Nat} {v d : Int} (hj : fr ≤ j) (hd : d = (dv (bt s j) : Nat)) (hv : j ≤ fr + 7 → v = (numV b s fr (j - fr) : Nat)) (hl : j ≤ fr + 6 → v * b + d ≤ 1073741824) :
    j + 1 ≤ fr + 7 → (if 1073741824 < v * b + d then 1073741824 else v * b + d) = (numV b s fr (j + 1 - fr) : Nat) := fun h => by
  have h1 := hv (by omega)
  have h2 := hl (by omega)
  rw [show j + 1 - fr = (j - fr) + 1 from by omega, numV, show fr + (j - fr) = j from by omega, Int.natCast_add, Int.natCast_mul, ← h1, ← hd, if_neg (by omega)]

set_option maxHeartbeats 4000000 in
set_option maxRecDepth 100000 in
theorem ent_hex (s : ByteArray) (i : Nat) (hs : s.size ≤ 300) (hi : i + 1 < s.size) (h38 : bt s i = 38) (h35 : bt s (i + 1) = 35) (hx : i + 2 < s.size) (hx2 : bt s (i + 2) = 120 ∨ bt s (i + 2) = 88) (E : Nat) (hE : runEnd hexB s (i + 3) = E) (w : World) :
    Calls Tryz.prog 7 #[.string s, .int .i64 i] w (NumSaid 16 s i (i + 3) 6 E w) := by
  have hb := get_bt s
  have t38 : (bt s i != 38) = false := by simp [h38]
  have t35 : (bt s (i + 1) == 35) = true := by simp [h35]
  have hE1 : i + 3 ≤ E := by rw [← hE]; exact runEnd_ge _ _ _
  have hx3 : (bt s (i + 2) == 120) = true ∨ ((bt s (i + 2) == 120) = false ∧ (bt s (i + 2) == 88) = true) := by
    rcases hx2 with h | h
    · exact .inl (by simp [h])
    · exact .inr ⟨by simp [h], by simp [h]⟩
  have hE2 : E ≤ s.size := by rw [← hE]; exact runEnd_le _ _ (by omega)
  replace hE := Lib.hid hE
  clear h38 h35 hx2
  rcases hx3 with hx4 | ⟨hx4, hx5⟩
  all_goals
    go_enter Tryz.func7, Tryz.ntmps7
    go_wp2_with fail
    go_loop [6, 9] (fun v x => ∃ (j : Nat) (a : Int), i + 3 ≤ j ∧ j ≤ E ∧ v = .int .i64 j ∧ x = .int .i64 a ∧ 0 ≤ a ∧ a ≤ 1073741824 ∧ Hid (j ≤ i + 3 + 7 → a = (numV 16 s (i + 3) (j - (i + 3)) : Nat))) (fun v _ => s.size - (intOf v).toNat)
    case atStart => exact ⟨i + 3, 0, by omega, hE1, by go_num, rfl, by omega, by omega, fun _ => by rw [Nat.sub_self]; rfl⟩
    case round =>
      obtain ⟨j, a, hj1, hj2, rfl, rfl, ha0, ha1, hv⟩ := hrel
      by_cases hjE : j < E
      · have hc : hexB (bt s j) = true := runEnd_in hj1 (by rw [hE.out]; exact hjE)
        have hz : (48 ≤ bt s j ∧ bt s j ≤ 57) ∨ (65 ≤ bt s j ∧ bt s j ≤ 70) ∨ (97 ≤ bt s j ∧ bt s j ≤ 102) := (hexB_iff _).1 hc
        have hlt7 : Hid (j ≤ i + 3 + 6 → a < 16777216) := fun h => by
          rw [hv.out (by omega)]
          have := numV16 (s := s) (i := i + 3) (k := j - (i + 3)) (fun t ht => runEnd_in (i := i + 3) (by omega) (by rw [hE.out]; omega)) (by omega)
          omega
        rcases hz with ⟨q0, q1⟩ | ⟨q0, q1⟩ | ⟨q0, q1⟩
        · have hd : digB (bt s j) = true := by rw [digB_iff]; omega
          have hst := Lib.hid (numV_step (b := 16) (s := s) (fr := i + 3) (j := j) (v := a) (d := bt s j - 48) hj1 (by rw [dv_no (by omega) (by omega)]) hv.out (fun h => by have := hlt7.out h; omega))
          clear hlt7
          go_wp2_with (first | (go_at_call 10; refine (IsDigit_c _ _).mono ?_; rintro e w1 ⟨rfl, rfl⟩; rw [hd]) | (go_at_call 14; refine (IsHex_c _ _).mono ?_; rintro e w1 ⟨rfl, rfl⟩; rw [hc]))
          go_round
          case rel => exact ⟨j + 1, _, by omega, by omega, by go_num, rfl, by split <;> omega, by split <;> omega, hst.out⟩
          case measure => simp [intOf]; omega
        · have hd : digB (bt s j) = false := by rw [Bool.eq_false_iff, Ne, digB_iff]; omega
          have hst := Lib.hid (numV_step (b := 16) (s := s) (fr := i + 3) (j := j) (v := a) (d := bt s j - 65 + 10) hj1 (by rw [dv_up (by omega) (by omega)]; omega) hv.out (fun h => by have := hlt7.out h; omega))
          clear hlt7
          go_wp2_with (first | (go_at_call 10; refine (IsDigit_c _ _).mono ?_; rintro e w1 ⟨rfl, rfl⟩; rw [hd]) | (go_at_call 14; refine (IsHex_c _ _).mono ?_; rintro e w1 ⟨rfl, rfl⟩; rw [hc]))
          go_round
          case rel => exact ⟨j + 1, _, by omega, by omega, by go_num, rfl, by split <;> omega, by split <;> omega, hst.out⟩
          case measure => simp [intOf]; omega
        · have hd : digB (bt s j) = false := by rw [Bool.eq_false_iff, Ne, digB_iff]; omega
          have hst := Lib.hid (numV_step (b := 16) (s := s) (fr := i + 3) (j := j) (v := a) (d := bt s j - 97 + 10) hj1 (by rw [dv_lo (by omega)]; omega) hv.out (fun h => by have := hlt7.out h; omega))
          clear hlt7
          go_wp2_with (first | (go_at_call 10; refine (IsDigit_c _ _).mono ?_; rintro e w1 ⟨rfl, rfl⟩; rw [hd]) | (go_at_call 14; refine (IsHex_c _ _).mono ?_; rintro e w1 ⟨rfl, rfl⟩; rw [hc]))
          go_round
          case rel => exact ⟨j + 1, _, by omega, by omega, by go_num, rfl, by split <;> omega, by split <;> omega, hst.out⟩
          case measure => simp [intOf]; omega
      · obtain rfl : j = E := by omega
        have hno : j < s.size → hexB (bt s j) = false := fun hz => by have := runEnd_at (p := hexB) (s := s) (i := i + 3) (by omega) (by rw [hE.out]; exact hz); rw [hE.out] at this; exact this
        by_cases e1 : j = i + 3
        · have hbad : ¬ RefOk s (i + 3) 6 j := by unfold RefOk; omega
          by_cases hz : j < s.size
          · have hc := hno hz
            have hd : digB (bt s j) = false := hex_dig hc
            clear hno
            obtain rfl : j = i + 3 := e1
            go_wp2_with (first | (go_at_call 10; refine (IsDigit_c _ _).mono ?_; rintro e w1 ⟨rfl, rfl⟩; rw [hd]) | (go_at_call 14; refine (IsHex_c _ _).mono ?_; rintro e w1 ⟨rfl, rfl⟩; rw [hc]) | (go_at_call 15; refine (numeric_c _ (by omega) (by omega) _).mono ?_; rintro e w1 ⟨rfl, rfl⟩))
            all_goals (go_ret2; exact ⟨rfl, fun h => absurd h hbad, fun _ => rfl⟩)
          · clear hno
            obtain rfl : j = i + 3 := e1
            go_wp2_with (first | (go_at_call 10; refine (IsDigit_c _ _).mono ?_; rintro e w1 ⟨rfl, rfl⟩; rw [hd]) | (go_at_call 14; refine (IsHex_c _ _).mono ?_; rintro e w1 ⟨rfl, rfl⟩; rw [hc]) | (go_at_call 15; refine (numeric_c _ (by omega) (by omega) _).mono ?_; rintro e w1 ⟨rfl, rfl⟩))
            all_goals (go_ret2; exact ⟨rfl, fun h => absurd h hbad, fun _ => rfl⟩)
        · have n1 : i + 3 < j := by omega
          clear e1
          by_cases hz : j < s.size
          · have hc := hno hz
            have hd : digB (bt s j) = false := hex_dig hc
            clear hno
            by_cases n2 : j ≤ i + 3 + 6
            · by_cases e59 : bt s j = 59
              · have t59 : (bt s j != 59) = false := by simp [e59]
                have hok : RefOk s (i + 3) 6 j := ⟨n1, n2, hz, e59⟩
                have f1 : ((j : Int) == (i : Int) + 1 + 1 + 1) = false := by rw [beq_eq_false_iff_ne]; omega
                have f2 : decide ((6 : Int) < (j : Int) - ((i : Int) + 1 + 1 + 1)) = false := by simp only [decide_eq_false_iff_not]; omega
                have f3 : ((j : Int) == (s.size : Int)) = false := by rw [beq_eq_false_iff_ne]; omega
                clear e59
                go_wp2_with (first | (go_at_call 10; refine (IsDigit_c _ _).mono ?_; rintro e w1 ⟨rfl, rfl⟩; rw [hd]) | (go_at_call 14; refine (IsHex_c _ _).mono ?_; rintro e w1 ⟨rfl, rfl⟩; rw [hc]) | (go_at_call 15; refine (numeric_c _ (by omega) (by omega) _).mono ?_; rintro e w1 ⟨rfl, rfl⟩))
                all_goals (go_ret2; exact ⟨rfl, fun _ => ret2 (strEq (congrArg numS (hv.out (by omega)))) (intEq (by omega)), fun h => absurd hok h⟩)
              · have t59 : (bt s j != 59) = true := by simp [e59]
                have hbad : ¬ RefOk s (i + 3) 6 j := fun h => e59 h.2.2.2
                clear e59
                go_wp2_with (first | (go_at_call 10; refine (IsDigit_c _ _).mono ?_; rintro e w1 ⟨rfl, rfl⟩; rw [hd]) | (go_at_call 14; refine (IsHex_c _ _).mono ?_; rintro e w1 ⟨rfl, rfl⟩; rw [hc]) | (go_at_call 15; refine (numeric_c _ (by omega) (by omega) _).mono ?_; rintro e w1 ⟨rfl, rfl⟩))
                all_goals (go_ret2; exact ⟨rfl, fun h => absurd h hbad, fun _ => rfl⟩)
            · have hbad : ¬ RefOk s (i + 3) 6 j := by unfold RefOk; omega
              go_wp2_with (first | (go_at_call 10; refine (IsDigit_c _ _).mono ?_; rintro e w1 ⟨rfl, rfl⟩; rw [hd]) | (go_at_call 14; refine (IsHex_c _ _).mono ?_; rintro e w1 ⟨rfl, rfl⟩; rw [hc]) | (go_at_call 15; refine (numeric_c _ (by omega) (by omega) _).mono ?_; rintro e w1 ⟨rfl, rfl⟩))
              all_goals (go_ret2; exact ⟨rfl, fun h => absurd h hbad, fun _ => rfl⟩)
          · have hbad : ¬ RefOk s (i + 3) 6 j := by unfold RefOk; omega
            clear hno
            go_wp2_with (first | (go_at_call 10; refine (IsDigit_c _ _).mono ?_; rintro e w1 ⟨rfl, rfl⟩; rw [hd]) | (go_at_call 14; refine (IsHex_c _ _).mono ?_; rintro e w1 ⟨rfl, rfl⟩; rw [hc]) | (go_at_call 15; refine (numeric_c _ (by omega) (by omega) _).mono ?_; rintro e w1 ⟨rfl, rfl⟩))
            all_goals (go_ret2; exact ⟨rfl, fun h => absurd h hbad, fun _ => rfl⟩)

set_option maxHeartbeats 4000000 in
set_option maxRecDepth 100000 in
theorem ent_dec (s : ByteArray) (i : Nat) (hs : s.size ≤ 300) (hi : i + 1 < s.size) (h38 : bt s i = 38) (h35 : bt s (i + 1) = 35) (hx : i + 2 < s.size → bt s (i + 2) ≠ 120 ∧ bt s (i + 2) ≠ 88) (E : Nat) (hE : runEnd digB s (i + 2) = E) (w : World) :
    Calls Tryz.prog 7 #[.string s, .int .i64 i] w (NumSaid 10 s i (i + 2) 7 E w) := by
  have hb := get_bt s
  have t38 : (bt s i != 38) = false := by simp [h38]
  have t35 : (bt s (i + 1) == 35) = true := by simp [h35]
  have hE1 : i + 2 ≤ E := by rw [← hE]; exact runEnd_ge _ _ _
  have hx3 : (i + 2 < s.size ∧ (bt s (i + 2) == 120) = false ∧ (bt s (i + 2) == 88) = false) ∨ s.size = i + 2 := by
    by_cases h : i + 2 < s.size
    · exact .inl ⟨h, by simp [(hx h).1], by simp [(hx h).2]⟩
    · exact .inr (by omega)
  have hE2 : E ≤ s.size := by rw [← hE]; exact runEnd_le _ _ (by omega)
  replace hE := Lib.hid hE
  clear h38 h35 hx
  rcases hx3 with ⟨hx, hx4, hx5⟩ | hx
  all_goals
    go_enter Tryz.func7, Tryz.ntmps7
    go_wp2_with fail
    go_loop [6, 9] (fun v x => ∃ (j : Nat) (a : Int), i + 2 ≤ j ∧ j ≤ E ∧ v = .int .i64 j ∧ x = .int .i64 a ∧ 0 ≤ a ∧ a ≤ 1073741824 ∧ Hid (j ≤ i + 2 + 7 → a = (numV 10 s (i + 2) (j - (i + 2)) : Nat))) (fun v _ => s.size - (intOf v).toNat)
    case atStart => exact ⟨i + 2, 0, by omega, hE1, by go_num, rfl, by omega, by omega, fun _ => by rw [Nat.sub_self]; rfl⟩
    case round =>
      obtain ⟨j, a, hj1, hj2, rfl, rfl, ha0, ha1, hv⟩ := hrel
      by_cases hjE : j < E
      · have hc : digB (bt s j) = true := runEnd_in hj1 (by rw [hE.out]; exact hjE)
        have hz := (digB_iff _).1 hc
        obtain ⟨q0, q1⟩ := hz
        have hd := hc
        have hlt7 : j ≤ i + 2 + 6 → a < 10000000 := fun h => by
          rw [hv.out (by omega)]
          have := numV10 (s := s) (i := i + 2) (k := j - (i + 2)) (fun t ht => runEnd_in (i := i + 2) (by omega) (by rw [hE.out]; omega)) (by omega)
          omega
        have hst := Lib.hid (numV_step (b := 10) (s := s) (fr := i + 2) (j := j) (v := a) (d := bt s j - 48) hj1 (by rw [dv_no (by omega) (by omega)]) hv.out (fun h => by have := hlt7 h; omega))
        clear hlt7
        go_wp2_with (first | (go_at_call 10; refine (IsDigit_c _ _).mono ?_; rintro e w1 ⟨rfl, rfl⟩; rw [hd]) | (go_at_call 14; refine (IsHex_c _ _).mono ?_; rintro e w1 ⟨rfl, rfl⟩; rw [hc]))
        all_goals
          go_round
          case rel => exact ⟨j + 1, _, by omega, by omega, by go_num, rfl, by split <;> omega, by split <;> omega, hst.out⟩
          case measure => simp [intOf]; omega
      · obtain rfl : j = E := by omega
        have hno : j < s.size → digB (bt s j) = false := fun hz => by have := runEnd_at (p := digB) (s := s) (i := i + 2) (by omega) (by rw [hE.out]; exact hz); rw [hE.out] at this; exact this
        by_cases e1 : j = i + 2
        · have hbad : ¬ RefOk s (i + 2) 7 j := by unfold RefOk; omega
          by_cases hz : j < s.size
          · have hc := hno hz
            have hd : digB (bt s j) = false := hc
            clear hno
            obtain rfl : j = i + 2 := e1
            go_wp2_with (first | (go_at_call 10; refine (IsDigit_c _ _).mono ?_; rintro e w1 ⟨rfl, rfl⟩; rw [hd]) | (go_at_call 14; refine (IsHex_c _ _).mono ?_; rintro e w1 ⟨rfl, rfl⟩; rw [hc]) | (go_at_call 15; refine (numeric_c _ (by omega) (by omega) _).mono ?_; rintro e w1 ⟨rfl, rfl⟩))
            all_goals (go_ret2; exact ⟨rfl, fun h => absurd h hbad, fun _ => rfl⟩)
          · clear hno
            obtain rfl : j = i + 2 := e1
            go_wp2_with (first | (go_at_call 10; refine (IsDigit_c _ _).mono ?_; rintro e w1 ⟨rfl, rfl⟩; rw [hd]) | (go_at_call 14; refine (IsHex_c _ _).mono ?_; rintro e w1 ⟨rfl, rfl⟩; rw [hc]) | (go_at_call 15; refine (numeric_c _ (by omega) (by omega) _).mono ?_; rintro e w1 ⟨rfl, rfl⟩))
            all_goals (go_ret2; exact ⟨rfl, fun h => absurd h hbad, fun _ => rfl⟩)
        · have n1 : i + 2 < j := by omega
          clear e1
          by_cases hz : j < s.size
          · have hc := hno hz
            have hd : digB (bt s j) = false := hc
            clear hno
            by_cases n2 : j ≤ i + 2 + 7
            · by_cases e59 : bt s j = 59
              · have t59 : (bt s j != 59) = false := by simp [e59]
                have hok : RefOk s (i + 2) 7 j := ⟨n1, n2, hz, e59⟩
                have f1 : ((j : Int) == (i : Int) + 1 + 1) = false := by rw [beq_eq_false_iff_ne]; omega
                have f2 : decide ((7 : Int) < (j : Int) - ((i : Int) + 1 + 1)) = false := by simp only [decide_eq_false_iff_not]; omega
                have f3 : ((j : Int) == (s.size : Int)) = false := by rw [beq_eq_false_iff_ne]; omega
                clear e59
                go_wp2_with (first | (go_at_call 10; refine (IsDigit_c _ _).mono ?_; rintro e w1 ⟨rfl, rfl⟩; rw [hd]) | (go_at_call 14; refine (IsHex_c _ _).mono ?_; rintro e w1 ⟨rfl, rfl⟩; rw [hc]) | (go_at_call 15; refine (numeric_c _ (by omega) (by omega) _).mono ?_; rintro e w1 ⟨rfl, rfl⟩))
                all_goals (go_ret2; exact ⟨rfl, fun _ => ret2 (strEq (congrArg numS (hv.out (by omega)))) (intEq (by omega)), fun h => absurd hok h⟩)
              · have t59 : (bt s j != 59) = true := by simp [e59]
                have hbad : ¬ RefOk s (i + 2) 7 j := fun h => e59 h.2.2.2
                clear e59
                go_wp2_with (first | (go_at_call 10; refine (IsDigit_c _ _).mono ?_; rintro e w1 ⟨rfl, rfl⟩; rw [hd]) | (go_at_call 14; refine (IsHex_c _ _).mono ?_; rintro e w1 ⟨rfl, rfl⟩; rw [hc]) | (go_at_call 15; refine (numeric_c _ (by omega) (by omega) _).mono ?_; rintro e w1 ⟨rfl, rfl⟩))
                all_goals (go_ret2; exact ⟨rfl, fun h => absurd h hbad, fun _ => rfl⟩)
            · have hbad : ¬ RefOk s (i + 2) 7 j := by unfold RefOk; omega
              go_wp2_with (first | (go_at_call 10; refine (IsDigit_c _ _).mono ?_; rintro e w1 ⟨rfl, rfl⟩; rw [hd]) | (go_at_call 14; refine (IsHex_c _ _).mono ?_; rintro e w1 ⟨rfl, rfl⟩; rw [hc]) | (go_at_call 15; refine (numeric_c _ (by omega) (by omega) _).mono ?_; rintro e w1 ⟨rfl, rfl⟩))
              all_goals (go_ret2; exact ⟨rfl, fun h => absurd h hbad, fun _ => rfl⟩)
          · have hbad : ¬ RefOk s (i + 2) 7 j := by unfold RefOk; omega
            clear hno
            go_wp2_with (first | (go_at_call 10; refine (IsDigit_c _ _).mono ?_; rintro e w1 ⟨rfl, rfl⟩; rw [hd]) | (go_at_call 14; refine (IsHex_c _ _).mono ?_; rintro e w1 ⟨rfl, rfl⟩; rw [hc]) | (go_at_call 15; refine (numeric_c _ (by omega) (by omega) _).mono ?_; rintro e w1 ⟨rfl, rfl⟩))
            all_goals (go_ret2; exact ⟨rfl, fun h => absurd h hbad, fun _ => rfl⟩)
end Go.Proofs.YthgdgpoblbblpaaGreatDoor.W
