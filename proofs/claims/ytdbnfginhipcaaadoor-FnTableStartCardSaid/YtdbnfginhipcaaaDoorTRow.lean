/- Walks of the trimming of a table's row that begins and ends with a pipe. Condition: the row has at most 100000 bytes. -/
import Derived.Test.YtdbnfginhipcaaaDoorApp
import Derived.Test.YtdbnfginhipcaaaDoorRet
namespace Go.Proofs.YtdbnfginhipcaaaDoor.W
open Go.RowKit Go.PlainAid
set_option linter.unusedVariables false

theorem whole (s : ByteArray) : s.extract 0 s.size = s := str_ext (by rw [size_extract]; omega) (fun j hj => by rw [size_extract] at hj; rw [bt_extract s (by omega) (Nat.le_refl _), Nat.zero_add])

theorem full_of {x : ByteArray} (h : 0 < x.size) : x.toList.isEmpty = false := by
  rw [ByteArray.toList_eq]
  cases hd : x.data.toList with
  | nil => have h0 : x.data.size = 0 := by rw [← Array.length_toList, hd]; rfl
           have : x.size = 0 := h0
           omega
  | cons a l => rfl
theorem ts_yes (w : World) :
    Calls Tryd.prog 9 #[.int .u8 32] w fun e w1 => e = .returned (.bool true) ∧ w = w1 := by
  go_enter Tryd.func9, Tryd.ntmps9
  go_wp2
  go_ret
  exact ⟨rfl, rfl⟩
theorem ts_no (c : Int) (h : 40 < c) (w : World) :
    Calls Tryd.prog 9 #[.int .u8 c] w fun e w1 => e = .returned (.bool false) ∧ w = w1 := by
  have t1 : (c == 32) = false := by simp only [beq_eq_false_iff_ne]; omega
  have t2 : (c == 9) = false := by simp only [beq_eq_false_iff_ne]; omega
  have t3 : (c == 11) = false := by simp only [beq_eq_false_iff_ne]; omega
  have t4 : (c == 12) = false := by simp only [beq_eq_false_iff_ne]; omega
  go_enter Tryd.func9, Tryd.ntmps9
  go_wp2
  go_ret
  exact ⟨rfl, rfl⟩

theorem trimSpace_c (s : ByteArray) (hs : s.size ≤ 100000) (hz : 0 < s.size) (h0 : bt s 0 = 124) (h1 : bt s (s.size - 1) = 124) (w : World) :
    Calls Tryd.prog 12 #[.string s] w fun e w1 => e = .returned (.string s) ∧ w = w1 := by
  have hb := get_bt s
  have hw := Lib.hid (whole s)
  have c0 : Hid (∀ w, Calls Tryd.prog 9 #[.int .u8 (bt s 0)] w fun e w1 => e = .returned (.bool false) ∧ w = w1) := fun w => ts_no _ (by omega) w
  have c1 : Hid (∀ w, Calls Tryd.prog 9 #[.int .u8 (bt s (s.size - 1))] w fun e w1 => e = .returned (.bool false) ∧ w = w1) := fun w => ts_no _ (by omega) w
  clear h0 h1
  go_enter Tryd.func12, Tryd.ntmps12
  go_wp2
  go_loop [3] (fun v => v = .int .i64 0) (fun v => 0)
  case atStart => rfl
  case round =>
    subst hrel
    go_wp2_with (first | (go_at_call 9; refine (c0.out _).mono ?_; rintro e w1 ⟨rfl, rfl⟩))
    go_loop [4] (fun v => v = .int .i64 s.size) (fun v => 0)
    case atStart => rfl
    case round =>
      subst hrel
      go_wp2_with (first | (go_at_call 9; refine (c1.out _).mono ?_; rintro e w1 ⟨rfl, rfl⟩))
      go_ret
      exact ⟨rfl, rfl⟩

theorem trimOuter_c (s : ByteArray) (hs : s.size ≤ 100000) (hz : 2 ≤ s.size) (h0 : bt s 0 = 124) (h1 : bt s (s.size - 1) = 124) (w : World) :
    Calls Tryd.prog 8 #[.string s] w fun e w1 => e = .returned (.string (s.extract 1 (s.size - 1))) ∧ w = w1 := by
  have hb := get_bt s
  have c := Lib.hid (fun w => trimSpace_c s hs (by omega) h0 h1 w)
  have t0 : (bt s 0 == 124) = true := by simp [h0]
  obtain ⟨x, hx⟩ : ∃ x, Hid (s.extract 1 s.size = x) := ⟨_, rfl⟩
  have hxz : x.size = s.size - 1 := by rw [← hx.out, size_extract]; omega
  have t1 : (bt x (x.size - 1) == 124) = true := by
    rw [hxz, ← hx.out, bt_extract s (by omega) (Nat.le_refl _), show 1 + (s.size - 1 - 1) = s.size - 1 from by omega, h1]; rfl
  have hxx : Hid (x.extract 0 (x.size - 1) = s.extract 1 (s.size - 1)) := by
    refine str_ext (by rw [← hx.out]; simp only [size_extract]; omega) fun j hj => ?_
    rw [size_extract] at hj
    rw [bt_extract x (by omega) (by omega), bt_extract s (by omega) (by omega), ← hx.out, bt_extract s (by omega) (by omega), Nat.zero_add]
  have hx1 : 0 < x.size := by omega
  have hx2 : x.size ≤ 100000 := by omega
  have hbx := get_bt x
  have hx' := hx.out
  clear h0 h1 hxz hx
  go_enter Tryd.func8, Tryd.ntmps8
  go_wp2_with (first | (go_at_call 12; refine (c.out _).mono ?_; rintro e w1 ⟨rfl, rfl⟩))
  go_ret
  exact ⟨ret1 (strEq hxx.out), rfl⟩
set_option maxHeartbeats 1000000 in
theorem zzTrim_c (s : ByteArray) (hs : s.size ≤ 100000) (hz : 0 < s.size) (h0 : bt s 0 = 124) (h1 : bt s (s.size - 1) = 124) (w : World) :
    Calls Tryd.prog 10 #[.string s] w fun e w1 => e = .returned (.string s) ∧ w = w1 := by
  have hb := get_bt s
  have he := full_of hz
  go_enter Tryd.func10, Tryd.ntmps10
  go_wp2
  go_loop [0, 3, 4] (fun v _ _ => v = .string s) (fun _ _ _ => 0)
  case atStart => rfl
  case round =>
    subst hrel
    go_wp2
    go_loop [0, 5, 6] (fun v _ _ => v = .string s) (fun _ _ _ => 0)
    case atStart => rfl
    case round =>
      subst hrel
      go_wp2
      go_ret
      exact ⟨rfl, rfl⟩
end Go.Proofs.YtdbnfginhipcaaaDoor.W
