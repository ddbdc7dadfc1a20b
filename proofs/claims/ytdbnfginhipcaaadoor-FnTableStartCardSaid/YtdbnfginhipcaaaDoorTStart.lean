/- The walk of isTableStart at a header of n cells and a delimiter row of m cells. Condition: 1 to 40 cells, 1 to 20 hyphens. -/
import Derived.Test.YtdbnfginhipcaaaDoorTPlain
namespace Go.Proofs.YtdbnfginhipcaaaDoor.W
open Go.RowKit Go.PlainAid
set_option linter.unusedVariables false

set_option maxHeartbeats 4000000 in
set_option maxRecDepth 100000 in
theorem isTableStart_c (n m p h q : Nat) (c : ByteArray) (hn : 1 ≤ n) (hn40 : n ≤ 40) (hm : 1 ≤ m) (hm40 : m ≤ 40) (hc : DCell c p h q) (hh : 1 ≤ h) (hh20 : h ≤ 20) (w : World) :
    Calls Tryd.prog 7 #[.string (rowS cellA n), .string (rowS c m)] w fun e w1 => e = .returned (.bool ((m : Int) == (n : Int))) ∧ w = w1 := by
  have zA : (rowS cellA n).size = 1 + n * 4 := size_rowS cellA n
  have zD := size_rowS c m
  have hp1 := hc.p1
  have hq1 := hc.q1
  have hL := hc.size
  have hmL : m * c.size ≤ 40 * 25 := Nat.mul_le_mul hm40 (by omega)
  have hmL2 : 1 * c.size ≤ m * c.size := Nat.mul_le_mul_right _ hm
  rw [Nat.one_mul] at hmL2
  have cOH := Lib.hid (fun w => trimOuter_c (rowS cellA n) (by omega) (by omega) (row_first _ _) (row_last _ (by omega) (by decide) rfl) w)
  have hlast : bt c (c.size - 1) = 124 := by rw [hL, show p + h + q + 3 - 1 = 2 + p + h + q from by omega]; exact hc.pipe
  have cOD := Lib.hid (fun w => trimOuter_c (rowS c m) (by omega) (by omega) (row_first _ _) (row_last _ (by omega) (by omega) hlast) w)
  have cZ := Lib.hid (fun w => zzTrim_c (rowS cellA n) (by omega) (by omega) (row_first _ _) (row_last _ (by omega) (by decide) rfl) w)
  have zI : (innerS cellA n).size = n * 4 - 1 := size_inner cellA n
  have cC : Hid (∀ w, Calls Tryd.prog 11 #[.string (innerS cellA n)] w fun e w1 => e = .returned (.int .i64 n) ∧ w = w1) := fun w => by
    have k := tableCount_c (innerS cellA n) (by omega) w
    rw [cols_header (by omega)] at k
    exact k
  have zT := size_inner c m
  have hT : ∀ cc r, cc < m → r < c.size → cc * c.size + r < m * c.size - 1 → bt (innerS c m) (cc * c.size + r) = bt c r := fun cc r h1 h2 h3 => inner_at c h1 h2 h3
  have tH : ((rowS cellA n).toList == [124]) = false := by
    rw [beq_eq_false_iff_ne]
    intro e
    rw [ByteArray.toList_eq] at e
    have e2 := congrArg List.length e
    simp only [Array.length_toList] at e2
    have e3 : (rowS cellA n).size = 1 := e2
    omega
  change Hid (∀ w, Calls Tryd.prog 8 #[.string (rowS cellA n)] w fun e w1 => e = .returned (.string (innerS cellA n)) ∧ w = w1) at cOH
  change Hid (∀ w, Calls Tryd.prog 8 #[.string (rowS c m)] w fun e w1 => e = .returned (.string (innerS c m)) ∧ w = w1) at cOD
  have zH : (rowS cellA n).size ≤ 200 := by omega
  clear zA
  generalize rowS cellA n = H at *
  generalize rowS c m = D at *
  generalize innerS cellA n = TH at *
  generalize innerS c m = T at *
  have zT2 : T.size ≤ 1100 := by omega
  have hb := get_bt T
  replace hT := Lib.hid hT
  replace hc := Lib.hid hc
  replace zT := Lib.hid zT
  replace hL := Lib.hid hL
  clear zD hlast zI
  go_enter Tryd.func7, Tryd.ntmps7
  go_wp2_with (first | (go_at_call 8; refine (cOD.out _).mono ?_; rintro e w1 ⟨rfl, rfl⟩))
  go_loop [5, 7] (fun col i => ∃ cc o : Nat, cc ≤ m ∧ o ≤ T.size ∧ col = .int .i64 cc ∧ i = .int .i64 o ∧ Hid ((cc < m → o = cc * c.size) ∧ (cc = m → o = T.size))) (fun col i => m - (intOf col).toNat)
  case atStart => exact ⟨0, 0, by omega, by omega, rfl, rfl, ⟨fun _ => (Nat.zero_mul _).symm, fun e => by omega⟩⟩
  case round =>
    obtain ⟨cc, o, hcc, ho, rfl, rfl, hO⟩ := hrel
    by_cases hlt : cc < m
    · have hpos := hO.out.1 hlt
      have hm1 : (cc + 1) * c.size ≤ m * c.size := Nat.mul_le_mul_right _ hlt
      rw [Nat.succ_mul] at hm1
      have hL' := hL.out
      have zT' := zT.out
      have hat : ∀ r, o + r < T.size → r < c.size → bt T (o + r) = bt c r := fun r h1 h2 => by
        have := hT.out cc r hlt h2 (by omega)
        rw [hpos]; exact this
      have hend : (cc + 1 = m ∧ T.size = o + c.size - 1) ∨ (cc + 1 < m ∧ o + c.size < T.size ∧ (cc + 1) * c.size = o + c.size) := by
        rcases Nat.lt_or_ge (cc + 1) m with g | g
        · right
          have hm2 : (cc + 1 + 1) * c.size ≤ m * c.size := Nat.mul_le_mul_right _ g
          rw [Nat.succ_mul, Nat.succ_mul] at hm2
          refine ⟨g, by omega, by rw [Nat.succ_mul]; omega⟩
        · left
          have e : cc + 1 = m := by omega
          refine ⟨e, ?_⟩
          rw [zT', ← e, Nat.succ_mul]; omega
      have hzT : o + (p + h + q + 3) ≤ T.size + 1 := by omega
      clear hpos hm1
      obtain ⟨a1, ha1⟩ : ∃ a1, a1 = o + 1 := ⟨_, rfl⟩
      obtain ⟨b, hbb⟩ : ∃ b, b = o + 1 + p := ⟨_, rfl⟩
      obtain ⟨a4, ha4⟩ : ∃ a4, a4 = o + 1 + p + h + q := ⟨_, rfl⟩
      obtain ⟨a5, ha5⟩ : ∃ a5, a5 = o + 2 + p + h + q := ⟨_, rfl⟩
      have v0 : bt T o = 32 := by have k := hat 0 (by omega) (by omega); rw [Nat.add_zero] at k; rw [k]; exact hc.out.sp
      have v4 : bt T a4 = 32 := by rw [ha4, show o + 1 + p + h + q = o + (1 + p + h + q) from by omega, hat _ (by omega) (by omega)]; exact hc.out.sp2
      have vd : ∀ j, j < h → bt T (b + j) = 45 := fun j hj => by rw [hbb, show o + 1 + p + j = o + (1 + p + j) from by omega, hat _ (by omega) (by omega)]; exact hc.out.dash j hj
      have v5 : a5 < T.size → bt T a5 = 124 := fun g => by rw [ha5, show o + 2 + p + h + q = o + (2 + p + h + q) from by omega, hat _ (by omega) (by omega)]; exact hc.out.pipe
      have vc : p = 1 → bt T a1 = 58 := fun e => by rw [ha1, hat _ (by omega) (by omega)]; exact hc.out.col e
      have ve : q = 1 → bt T (b + h) = 58 := fun e => by rw [hbb, show o + 1 + p + h = o + (1 + p + h) from by omega, hat _ (by omega) (by omega)]; exact hc.out.col2 e
      have ve0 : q = 0 → bt T (b + h) = 32 := fun e => by rw [show b + h = a4 from by omega]; exact v4
      have v1 : bt T a1 = 58 ∨ bt T a1 = 45 := by
        rcases (show p = 1 ∨ p = 0 by omega) with e | e
        · exact .inl (vc e)
        · right
          have k := vd 0 (by omega)
          rw [Nat.add_zero, show b = a1 from by omega] at k
          exact k
      have hend2 : (cc + 1 = m ∧ T.size ≤ a5 ∧ a5 ≤ T.size) ∨ (cc + 1 < m ∧ a5 < T.size ∧ Hid (a5 + 1 = (cc + 1) * c.size)) := by
        rcases hend with ⟨g1, g2⟩ | ⟨g1, g2, g3⟩
        · exact .inl ⟨g1, by omega, by omega⟩
        · exact .inr ⟨g1, by omega, by show a5 + 1 = (cc + 1) * c.size; omega⟩
      have c0 : Hid (∀ w, Calls Tryd.prog 9 #[.int .u8 (bt T o)] w fun e w1 => e = .returned (.bool true) ∧ w = w1) := fun w => by rw [v0]; exact ts_yes w
      have c4 : Hid (∀ w, Calls Tryd.prog 9 #[.int .u8 (bt T a4)] w fun e w1 => e = .returned (.bool true) ∧ w = w1) := fun w => by rw [v4]; exact ts_yes w
      have c1 : Hid (∀ w, Calls Tryd.prog 9 #[.int .u8 (bt T a1)] w fun e w1 => e = .returned (.bool false) ∧ w = w1) := fun w => ts_no _ (by omega) w
      have i1 : o + 1 ≤ a1 := by omega
      have i2 : a1 ≤ o + 1 := by omega
      have i3 : a4 + 1 ≤ a5 := by omega
      have i4 : a5 ≤ a4 + 1 := by omega
      have i5 : a5 ≤ T.size := by omega
      have i6 : b + h + q ≤ a4 := by omega
      have i7 : a4 ≤ b + h + q := by omega
      have i8 : a1 + p ≤ b := by omega
      have i9 : b ≤ a1 + p := by omega
      have t45 : ∀ j, j < h → (bt T (b + j) == 45) = true := fun j hj => by rw [vd j hj]; rfl
      have t45e : (bt T (b + h) == 45) = false := by
        rcases (show q = 1 ∨ q = 0 by omega) with e | e
        · rw [ve e]; rfl
        · rw [ve0 e]; rfl
      have t58 : (bt T (b + h) == 58) = decide (q = 1) := by
        rcases (show q = 1 ∨ q = 0 by omega) with e | e
        · rw [ve e, e]; rfl
        · rw [ve0 e, e]; rfl
      have t1c : p = 0 → (bt T a1 == 58) = false := fun e => by
        have k := vd 0 (by omega)
        rw [Nat.add_zero, show b = a1 from by omega] at k
        rw [k]; rfl
      have t1d : p = 0 → (bt T a1 == 45) = true := fun e => by
        have k := vd 0 (by omega)
        rw [Nat.add_zero, show b = a1 from by omega] at k
        rw [k]; rfl
      have t1e : p = 1 → (bt T (a1 + 1) == 45) = true := fun e => by
        have k := vd 0 (by omega)
        rw [Nat.add_zero, show b = a1 + 1 from by omega] at k
        rw [k]; rfl
      have t1f : p = 1 → (bt T a1 == 58) = true := fun e => by rw [vc e]; rfl
      have c5 : Hid (a5 < T.size → ∀ w, Calls Tryd.prog 9 #[.int .u8 (bt T a5)] w fun e w1 => e = .returned (.bool false) ∧ w = w1) := fun g w => by rw [v5 g]; exact ts_no _ (by omega) w
      have t5 : Hid (a5 < T.size → (bt T a5 == 124) = true) := fun g => by rw [v5 g]; rfl
      replace t45 := Lib.hid t45
      replace t45e := Lib.hid t45e
      replace t58 := Lib.hid t58
      replace t1c := Lib.hid t1c
      replace t1d := Lib.hid t1d
      replace t1e := Lib.hid t1e
      replace t1f := Lib.hid t1f
      have hpq : p = 0 ∨ p = 1 := by omega
      have hqq : q = 0 ∨ q = 1 := by omega
      clear ha1 hbb ha4 ha5 v0 v4 vd v5 vc ve ve0 v1 hat hend hzT hL' zT' hp1 hq1 hmL hmL2
      go_wp2_with fail
      go_loop [7] (fun v => v = .int .i64 o ∨ v = .int .i64 a1) (fun v => T.size - (intOf v).toNat)
      case atStart => exact .inl rfl
      case round =>
        rcases hrel with rfl | rfl
        · go_wp2_with (first | (go_at_call 9; refine (c0.out _).mono ?_; rintro e w1 ⟨rfl, rfl⟩))
          go_round
          case rel => exact .inr ((by first | rfl | exact intEq (by omega) | omega))
          case measure => simp [intOf]; omega
        · rcases hpq with hp | hp
          · have u1 := t1c.out hp
            have u2 := t1d.out hp
            clear t1c t1d t1e t1f
            have hjs0 : a1 < T.size := by omega
            have hjs1 : a1 + 1 < T.size := by omega
            go_wp2_with (first | (go_at_call 9; refine (c1.out _).mono ?_; rintro e w1 ⟨rfl, rfl⟩))
            clear u1 u2
            go_loop [7] (fun v => ∃ j : Nat, 1 ≤ j ∧ j ≤ h ∧ v = .int .i64 (b + j : Nat)) (fun v => T.size - (intOf v).toNat)
            case atStart => exact ⟨1, by omega, by omega, (by first | rfl | exact intEq (by omega) | omega)⟩
            case round =>
              obtain ⟨j, hj1, hj, rfl⟩ := hrel
              by_cases hjh : j < h
              · have u := t45.out j hjh
                have hjs : b + j < T.size := by omega
                go_wp2_with fail
                go_round
                case rel => exact ⟨j + 1, by omega, by omega, (by first | rfl | exact intEq (by omega) | omega)⟩
                case measure => simp [intOf]; omega
              · obtain rfl : j = h := by omega
                have hjs : b + j < T.size := by omega
                have ut := t45e.out
                rcases hqq with hq | hq
                · have u := t58.out
                  rw [show decide (q = 1) = false from by rw [hq]; rfl] at u
                  clear t45 t45e t58
                  go_wp2_with fail
                  clear u ut
                  go_loop [7] (fun v => v = .int .i64 a4 ∨ v = .int .i64 a5) (fun v => T.size - (intOf v).toNat)
                  case atStart => exact .inl ((by first | rfl | exact intEq (by omega) | omega))
                  case round =>
                    rcases hrel with rfl | rfl
                    · go_wp2_with (first | (go_at_call 9; refine (c4.out _).mono ?_; rintro e w1 ⟨rfl, rfl⟩))
                      go_round
                      case rel => exact .inr ((by first | rfl | exact intEq (by omega) | omega))
                      case measure => simp [intOf]; omega
                    · rcases hend2 with ⟨g1, g2, g3⟩ | ⟨g1, g2, g3⟩
                      · go_wp2_with fail
                        go_round
                        case rel => exact ⟨cc + 1, a5, by omega, by omega, (by first | rfl | exact intEq (by omega) | omega), rfl, ⟨fun e => by omega, fun e => by omega⟩⟩
                        case measure => simp [intOf]; omega
                      · have c5b := Lib.hid (c5.out g2)
                        have u5 := t5.out g2
                        go_wp2_with (first | (go_at_call 9; refine (c5b.out _).mono ?_; rintro e w1 ⟨rfl, rfl⟩))
                        go_round
                        case rel => exact ⟨cc + 1, a5 + 1, by omega, by omega, (by first | rfl | exact intEq (by omega) | omega), (by first | rfl | exact intEq (by omega) | omega), ⟨fun e => g3.out, fun e => by omega⟩⟩
                        case measure => simp [intOf]; omega
                · have u := t58.out
                  rw [show decide (q = 1) = true from by rw [hq]; rfl] at u
                  clear t45 t45e t58
                  go_wp2_with fail
                  clear u ut
                  go_loop [7] (fun v => v = .int .i64 a4 ∨ v = .int .i64 a5) (fun v => T.size - (intOf v).toNat)
                  case atStart => exact .inl ((by first | rfl | exact intEq (by omega) | omega))
                  case round =>
                    rcases hrel with rfl | rfl
                    · go_wp2_with (first | (go_at_call 9; refine (c4.out _).mono ?_; rintro e w1 ⟨rfl, rfl⟩))
                      go_round
                      case rel => exact .inr ((by first | rfl | exact intEq (by omega) | omega))
                      case measure => simp [intOf]; omega
                    · rcases hend2 with ⟨g1, g2, g3⟩ | ⟨g1, g2, g3⟩
                      · go_wp2_with fail
                        go_round
                        case rel => exact ⟨cc + 1, a5, by omega, by omega, (by first | rfl | exact intEq (by omega) | omega), rfl, ⟨fun e => by omega, fun e => by omega⟩⟩
                        case measure => simp [intOf]; omega
                      · have c5b := Lib.hid (c5.out g2)
                        have u5 := t5.out g2
                        go_wp2_with (first | (go_at_call 9; refine (c5b.out _).mono ?_; rintro e w1 ⟨rfl, rfl⟩))
                        go_round
                        case rel => exact ⟨cc + 1, a5 + 1, by omega, by omega, (by first | rfl | exact intEq (by omega) | omega), (by first | rfl | exact intEq (by omega) | omega), ⟨fun e => g3.out, fun e => by omega⟩⟩
                        case measure => simp [intOf]; omega
          · have u1 := t1f.out hp
            have u2 := t1e.out hp
            have u3 : (bt T (a1 + 1) != 45) = false := by rw [bne, u2]; rfl
            have u4 : decide ((T.size : Int) ≤ (a1 : Int) + 1) = false := by simp only [decide_eq_false_iff_not]; omega
            clear t1c t1d t1e t1f
            have hjs0 : a1 < T.size := by omega
            have hjs1 : a1 + 1 < T.size := by omega
            go_wp2_with (first | (go_at_call 9; refine (c1.out _).mono ?_; rintro e w1 ⟨rfl, rfl⟩))
            clear u1 u2
            go_loop [7] (fun v => ∃ j : Nat, 1 ≤ j ∧ j ≤ h ∧ v = .int .i64 (b + j : Nat)) (fun v => T.size - (intOf v).toNat)
            case atStart => exact ⟨1, by omega, by omega, (by first | rfl | exact intEq (by omega) | omega)⟩
            case round =>
              obtain ⟨j, hj1, hj, rfl⟩ := hrel
              by_cases hjh : j < h
              · have u := t45.out j hjh
                have hjs : b + j < T.size := by omega
                go_wp2_with fail
                go_round
                case rel => exact ⟨j + 1, by omega, by omega, (by first | rfl | exact intEq (by omega) | omega)⟩
                case measure => simp [intOf]; omega
              · obtain rfl : j = h := by omega
                have hjs : b + j < T.size := by omega
                have ut := t45e.out
                rcases hqq with hq | hq
                · have u := t58.out
                  rw [show decide (q = 1) = false from by rw [hq]; rfl] at u
                  clear t45 t45e t58
                  go_wp2_with fail
                  clear u ut
                  go_loop [7] (fun v => v = .int .i64 a4 ∨ v = .int .i64 a5) (fun v => T.size - (intOf v).toNat)
                  case atStart => exact .inl ((by first | rfl | exact intEq (by omega) | omega))
                  case round =>
                    rcases hrel with rfl | rfl
                    · go_wp2_with (first | (go_at_call 9; refine (c4.out _).mono ?_; rintro e w1 ⟨rfl, rfl⟩))
                      go_round
                      case rel => exact .inr ((by first | rfl | exact intEq (by omega) | omega))
                      case measure => simp [intOf]; omega
                    · rcases hend2 with ⟨g1, g2, g3⟩ | ⟨g1, g2, g3⟩
                      · go_wp2_with fail
                        go_round
                        case rel => exact ⟨cc + 1, a5, by omega, by omega, (by first | rfl | exact intEq (by omega) | omega), rfl, ⟨fun e => by omega, fun e => by omega⟩⟩
                        case measure => simp [intOf]; omega
                      · have c5b := Lib.hid (c5.out g2)
                        have u5 := t5.out g2
                        go_wp2_with (first | (go_at_call 9; refine (c5b.out _).mono ?_; rintro e w1 ⟨rfl, rfl⟩))
                        go_round
                        case rel => exact ⟨cc + 1, a5 + 1, by omega, by omega, (by first | rfl | exact intEq (by omega) | omega), (by first | rfl | exact intEq (by omega) | omega), ⟨fun e => g3.out, fun e => by omega⟩⟩
                        case measure => simp [intOf]; omega
                · have u := t58.out
                  rw [show decide (q = 1) = true from by rw [hq]; rfl] at u
                  clear t45 t45e t58
                  go_wp2_with fail
                  clear u ut
                  go_loop [7] (fun v => v = .int .i64 a4 ∨ v = .int .i64 a5) (fun v => T.size - (intOf v).toNat)
                  case atStart => exact .inl ((by first | rfl | exact intEq (by omega) | omega))
                  case round =>
                    rcases hrel with rfl | rfl
                    · go_wp2_with (first | (go_at_call 9; refine (c4.out _).mono ?_; rintro e w1 ⟨rfl, rfl⟩))
                      go_round
                      case rel => exact .inr ((by first | rfl | exact intEq (by omega) | omega))
                      case measure => simp [intOf]; omega
                    · rcases hend2 with ⟨g1, g2, g3⟩ | ⟨g1, g2, g3⟩
                      · go_wp2_with fail
                        go_round
                        case rel => exact ⟨cc + 1, a5, by omega, by omega, (by first | rfl | exact intEq (by omega) | omega), rfl, ⟨fun e => by omega, fun e => by omega⟩⟩
                        case measure => simp [intOf]; omega
                      · have c5b := Lib.hid (c5.out g2)
                        have u5 := t5.out g2
                        go_wp2_with (first | (go_at_call 9; refine (c5b.out _).mono ?_; rintro e w1 ⟨rfl, rfl⟩))
                        go_round
                        case rel => exact ⟨cc + 1, a5 + 1, by omega, by omega, (by first | rfl | exact intEq (by omega) | omega), (by first | rfl | exact intEq (by omega) | omega), ⟨fun e => g3.out, fun e => by omega⟩⟩
                        case measure => simp [intOf]; omega
    · have e1 : cc = m := by omega
      have hpos := hO.out.2 e1
      have hge : T.size ≤ o := by omega
      clear hpos
      replace e1 := Lib.hid e1
      go_wp2_with fail
      go_loop [7] (fun v => v = .int .i64 o) (fun v => 0)
      case atStart => rfl
      case round =>
        subst hrel
        go_wp2_with (first | (go_at_call 10; refine (cZ.out _).mono ?_; rintro e w1 ⟨rfl, rfl⟩) | (go_at_call 8; refine (cOH.out _).mono ?_; rintro e w1 ⟨rfl, rfl⟩) | (go_at_call 11; refine (cC.out _).mono ?_; rintro e w1 ⟨rfl, rfl⟩))
        go_ret
        exact ⟨ret1 (boolEq (by rw [e1.out])), rfl⟩
end Go.Proofs.YtdbnfginhipcaaaDoor.W
