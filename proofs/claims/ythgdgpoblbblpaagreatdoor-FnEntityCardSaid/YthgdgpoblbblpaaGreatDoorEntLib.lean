/- Walks of strconv.ParseInt at base 16, and of strconv.Atoi, at a short row of digits. Condition: at most six hexadecimal digits, at most seven decimal ones; at least one. -/
import Derived.Test.YthgdgpoblbblpaaGreatDoorEntPlain
import Derived.Test.YthgdgpoblbblpaaGreatDoorRet
import Derived.Test.YthgdgpoblbblpaaGreatDoorRows
import Derived.Test.YthgdgpoblbblpaaGreatDoorShelf
import Derived.Lib.ConvBytes
import Derived.Lib.AtoiErrMem
namespace Go.Proofs.YthgdgpoblbblpaaGreatDoor.W
open Go.RowKit Go.PlainAid
set_option linter.unusedVariables false

theorem lower_up (c : Int) (h0 : 65 ≤ c) (h1 : c ≤ 70) (w : World) : Calls Tryz.prog 36 #[.int .u8 c] w fun e w1 => e = .returned (.int .u8 (c + 32)) ∧ w = w1 := by
  have hc : c = 65 ∨ c = 66 ∨ c = 67 ∨ c = 68 ∨ c = 69 ∨ c = 70 := by omega
  rcases hc with rfl | rfl | rfl | rfl | rfl | rfl
  all_goals
    go_enter Tryz.func36, Tryz.ntmps36
    go_wp2
    go_ret
    exact ⟨rfl, rfl⟩
theorem lower_lo (c : Int) (h0 : 97 ≤ c) (h1 : c ≤ 102) (w : World) : Calls Tryz.prog 36 #[.int .u8 c] w fun e w1 => e = .returned (.int .u8 c) ∧ w = w1 := by
  have hc : c = 97 ∨ c = 98 ∨ c = 99 ∨ c = 100 ∨ c = 101 ∨ c = 102 := by omega
  rcases hc with rfl | rfl | rfl | rfl | rfl | rfl
  all_goals
    go_enter Tryz.func36, Tryz.ntmps36
    go_wp2
    go_ret
    exact ⟨rfl, rfl⟩
theorem byteAt (s : ByteArray) {j : Nat} (h : j < s.size) : ((s.data.toList.getD j 0).toNat : Int) = bt s j := by
  rw [List.getD_eq_getElem?_getD, toList_get s h, ← get_bt s j h]; rfl
theorem numStep {b : Nat} {t : ByteArray} {k : Nat} {a d : Int} (h : a = (numV b t 0 k : Nat)) (hd : d = (dv (bt t k) : Nat)) : a * b + d = (numV b t 0 (k + 1) : Nat) := by
  rw [numV, Nat.zero_add, Int.natCast_add, Int.natCast_mul, ← h, ← hd]

set_option maxHeartbeats 1000000 in
set_option maxRecDepth 100000 in
theorem parseUint16_c (t : ByteArray) (h0 : 0 < t.size) (h6 : t.size ≤ 6) (hh : ∀ j, j < t.size → hexB (bt t j) = true) (w : World) :
    Calls Tryz.prog 31 #[.string t, .int .i64 16, .int .i64 0] w fun e w1 => e = .returned (.tuple #[.int .u64 (numV 16 t 0 t.size : Nat), .nilIface]) ∧ Below w.heap.size w w1 := by
  have hemp : t.toList.isEmpty = false := by
    rw [← decide_eq_emptyBytes]
    exact decide_eq_false (fun h => by rw [h] at h0; exact absurd h0 (by decide))
  have hcv := Lib.run_convert_string_bytes (P := Tryz.prog) w 9 104 5 t (u := .string) Tryz.underlying9 Tryz.underlying104 Tryz.underlying5
  have hB : ∀ j, j < t.size → (Lib.bytesWorld w 5 t).cell? ⟨w.heap.size, j, none⟩ = some (.int .u8 (bt t j)) := fun j hj => by
    rw [← byteAt t hj]
    exact Lib.bytesWorld_cell w 5 t j hj
  have hW : Below w.heap.size w (Lib.bytesWorld w 5 t) := Lib.bytesWorld_below w 5 t
  obtain ⟨W1, hW1⟩ : ∃ W1, W1 = Lib.bytesWorld w 5 t := ⟨_, rfl⟩
  rw [← hW1] at hcv hB hW
  clear hW1
  replace hB := Lib.hid hB
  replace hh := Lib.hid hh
  have hmv : IntKind.u64.wrap (IntKind.u64.wrap 18446744073709551616 - 1) = 18446744073709551615 := by
    rw [IntKind.wrap_u64, IntKind.wrap_u64]
    decide
  go_enter Tryz.func31, Tryz.ntmps31
  go_wp2
  go_loop [12, 13, 101] (fun vu vn vi => ∃ (k : Nat) (a : Int), vu = .bool false ∧ vn = .int .u64 a ∧ vi = .int .i64 k ∧ k ≤ t.size ∧ 0 ≤ a ∧ Hid (a = (numV 16 t 0 k : Nat)))
    (fun _ _ vi => t.size - (intOf vi).toNat)
  case atStart => exact ⟨0, 0, rfl, rfl, rfl, by omega, by omega, rfl⟩
  case round =>
    obtain ⟨k, a, rfl, rfl, rfl, hk, ha0, ha⟩ := hrel
    have ha1 : a < 16777216 := by
      rw [ha.out]
      have := numV16 (s := t) (i := 0) (k := k) (fun j hj => by rw [Nat.zero_add]; exact hh.out j (by omega)) (by omega)
      omega
    by_cases hkn : k < t.size
    · have hc := hB.out k hkn
      rcases (hexB_iff _).1 (hh.out k hkn) with ⟨q0, q1⟩ | ⟨q0, q1⟩ | ⟨q0, q1⟩
      · have hst := Lib.hid (numStep (b := 16) (t := t) (k := k) (d := bt t k - 48) ha.out (by rw [dv_no (by omega) (by omega)]))
        go_wp2_with fail
        go_round
        case rel => exact ⟨k + 1, _, rfl, rfl, by go_num, by omega, by omega, hst.out⟩
        case measure => simp [intOf]; omega
      · have hst := Lib.hid (numStep (b := 16) (t := t) (k := k) (d := bt t k + 32 - 97 + 10) ha.out (by rw [dv_up (by omega) (by omega)]; omega))
        go_wp2_with (go_at_call 36; refine (lower_up _ (by omega) (by omega) _).mono ?_; rintro e w1 ⟨rfl, rfl⟩)
        go_round
        case rel => exact ⟨k + 1, _, rfl, rfl, by go_num, by omega, by omega, hst.out⟩
        case measure => simp [intOf]; omega
      · have hst := Lib.hid (numStep (b := 16) (t := t) (k := k) (d := bt t k - 97 + 10) ha.out (by rw [dv_lo (by omega)]; omega))
        go_wp2_with (go_at_call 36; refine (lower_lo _ (by omega) (by omega) _).mono ?_; rintro e w1 ⟨rfl, rfl⟩)
        go_round
        case rel => exact ⟨k + 1, _, rfl, rfl, by go_num, by omega, by omega, hst.out⟩
        case measure => simp [intOf]; omega
    · obtain rfl : k = t.size := by omega
      go_wp2
      go_ret2
      exact ⟨ret2 (intEq ha.out) rfl, hW⟩

set_option maxRecDepth 100000 in
theorem parseInt16_i (t : ByteArray) (h0 : 0 < t.size) (h6 : t.size ≤ 6) (hh : ∀ j, j < t.size → hexB (bt t j) = true) (w : World) :
    Calls Tryz.prog 28 #[.string t, .int .i64 16, .int .i64 0] w fun e w1 => e = .returned (.tuple #[.int .i64 (numV 16 t 0 t.size : Nat), .nilIface]) ∧ Below w.heap.size w w1 := by
  have hb := get_bt t
  have hc := (hexB_iff _).1 (hh 0 h0)
  have t43 : (bt t 0 == 43) = false := by rw [beq_eq_false_iff_ne]; omega
  have t45 : (bt t 0 == 45) = false := by rw [beq_eq_false_iff_ne]; omega
  have hemp : t.toList.isEmpty = false := by
    rw [← decide_eq_emptyBytes]
    exact decide_eq_false (fun h => by rw [h] at h0; exact absurd h0 (by decide))
  have hv := numV16 (s := t) (i := 0) (k := t.size) (fun j hj => by rw [Nat.zero_add]; exact hh j hj) h6
  obtain ⟨v, hv2⟩ : ∃ v : Int, Hid (((numV 16 t 0 t.size : Nat) : Int) = v) := ⟨_, rfl⟩
  have v0 : 0 ≤ v := by rw [← hv2.out]; omega
  have v1 : v < 16777216 := by rw [← hv2.out]; omega
  have cU := Lib.hid (fun w => parseUint16_c t h0 h6 hh w)
  rw [hv2.out] at cU ⊢
  clear hv hc hh
  go_enter Tryz.func28, Tryz.ntmps28
  go_wp2_with (go_at_call 31; refine (cU.out _).mono ?_; rintro e w1 ⟨rfl, hB⟩)
  go_ret2
  exact ⟨rfl, hB⟩
theorem parseInt16_c (t : ByteArray) (h0 : 0 < t.size) (h6 : t.size ≤ 6) (hh : ∀ j, j < t.size → hexB (bt t j) = true) (w : World) :
    Calls Tryz.prog 23 #[.string t, .int .i64 16, .int .i64 0] w fun e w1 => e = .returned (.tuple #[.int .i64 (numV 16 t 0 t.size : Nat), .nilIface]) ∧ Below w.heap.size w w1 := by
  replace hh := Lib.hid hh
  go_enter Tryz.func23, Tryz.ntmps23
  go_wp2_with (go_at_call 28; refine (parseInt16_i t h0 h6 hh.out _).mono ?_; rintro e w1 ⟨rfl, hB⟩)
  go_ret2
  exact ⟨rfl, hB⟩
theorem atoi_c (t : ByteArray) (h0 : 0 < t.size) (h7 : t.size ≤ 7) (hh : ∀ j, j < t.size → digB (bt t j) = true) (w : World) :
    Calls Tryz.prog 25 #[.string t] w fun e w1 => e = .returned (.tuple #[.int .i64 (numV 10 t 0 t.size : Nat), .nilIface]) ∧ Below w.heap.size w w1 :=
  (Tryz.strconv_Atoi t _ (by omega) (atoi_num t h0 hh) w).mono fun _ _ ⟨he, u, hw⟩ => ⟨he, by rw [hw]; exact Lib.bytesWorld_below w 5 u⟩
end Go.Proofs.YthgdgpoblbblpaaGreatDoor.W
