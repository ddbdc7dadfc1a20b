/- Walks of parseAttrValue, its doors, and of the reference's attrValue: a value in quotation marks, in single ones, or without. Condition: the string has at most 2147483647 bytes, and the place stands in it. -/
import Derived.Test.YtonadaoehhlafaaIdx
import Derived.Deep.QuietTactic
import Derived.BigQuiet
namespace Go.Proofs.Ytonadaoehhlafaa.W
open Go.RowKit Go.PlainAid

/-- what may stand in a value without quotation marks -/
def unqB (c : Int) : Bool := decide (¬ (c = 32 ∨ c = 9 ∨ c = 10 ∨ c = 34 ∨ c = 39 ∨ c = 61 ∨ c = 60 ∨ c = 62 ∨ c = 96))
theorem unq_in : ∀ n : Nat, n < 256 → inB ⟨#[32, 9, 10, 34, 39, 61, 60, 62, 96]⟩ (n : Int) = !unqB (n : Int) := by decide +kernel
/-- one step of the search for the end of such a value -/
theorem unq_c (c : Int) (h0 : 0 ≤ c) (h1 : c ≤ 255) (h : unqB c = true) (w : World) :
    Calls Try.prog 56 #[.string ⟨#[32, 9, 10, 34, 39, 61, 60, 62, 96]⟩, .int .u8 c] w fun e w1 => ∃ n : Int, e = .returned (.int .i64 n) ∧ n < 0 ∧ w = w1 :=
  (idx_in _ c w).mono fun _ _ ⟨n, he, hn, hw⟩ => ⟨n, he, by
    obtain ⟨m, rfl⟩ := Int.eq_ofNat_of_zero_le h0
    have e := hn.out
    rw [unq_in m (by omega), h] at e
    simpa using e, hw⟩
theorem unq_no (c : Int) (h0 : 0 ≤ c) (h1 : c ≤ 255) (h : unqB c = false) (w : World) :
    Calls Try.prog 56 #[.string ⟨#[32, 9, 10, 34, 39, 61, 60, 62, 96]⟩, .int .u8 c] w fun e w1 => ∃ n : Int, e = .returned (.int .i64 n) ∧ 0 ≤ n ∧ w = w1 :=
  (idx_in _ c w).mono fun _ _ ⟨n, he, hn, hw⟩ => ⟨n, he, by
    obtain ⟨m, rfl⟩ := Int.eq_ofNat_of_zero_le h0
    have e := hn.out
    rw [unq_in m (by omega), h] at e
    simpa using e, hw⟩

/-- in quotation marks: k is the first place behind i with the same mark -/
theorem attrValue_quoted (s : ByteArray) (i k : Nat) (hs : s.size ≤ 2147483647) (hq : bt s i = 39 ∨ bt s i = 34) (hik : i < k) (hk : k < s.size) (he : bt s k = bt s i) (hl : ∀ t, i < t → t < k → bt s t ≠ bt s i) (w : World) :
    Calls Try.prog 58 #[.string s, .int .i64 i] w fun e w1 => e = .returned (.tuple #[.string (s.extract i (k + 1)), .int .i64 (k + 1 : Nat), .bool true]) ∧ ∃ m, w1 = w.drewN m := by
  have hb := get_bt s
  have hc : ∀ w, Calls Try.prog 56 #[.string (s.extract (i + 1) s.size), .int .u8 (bt s i)] w fun e w1 => e = .returned (.int .i64 ((k - (i + 1) : Nat) : Int)) ∧ w1 = w := fun w => by
    refine idx_yes _ _ _ (bt_nonneg s i) (bt_le s i) (by rw [size_extract]; omega) ?_ ?_ w
    · rw [bt_extract s (by omega) (Nat.le_refl _), show i + 1 + (k - (i + 1)) = k from by omega, he]
    · intro t ht
      rw [bt_extract s (by omega) (Nat.le_refl _)]
      exact hl _ (by omega) (by omega)
  have hc := Lib.hid hc
  have he := Lib.hid he
  have hl := Lib.hid hl
  have hq' : (bt s i == 39) = true ∨ (bt s i == 39) = false ∧ (bt s i == 34) = true := by simp only [beq_iff_eq, beq_eq_false_iff_ne]; omega
  clear hq
  rcases hq' with hq | ⟨hq, hq2⟩
  all_goals
    go_enter Try.func58, Try.ntmps58
    go_wp2_with fail
    go_quiet ((go_at_call 56; exact Calls.quiet_of_same (hc.out _)))
    go_wp2
    go_ret3
    exact ⟨ret3 (strEq (by rw [show i + 1 + (k - (i + 1)) + 1 = k + 1 from by omega])) (intEq (by omega)) rfl, _, rfl⟩

/-- the walk's search for the end of a value without marks -/
theorem attrValue_open (s : ByteArray) (i : Nat) (hs : s.size ≤ 2147483647) (hi : i < s.size) (hq : bt s i = 39 ∨ bt s i = 34) (hl : ∀ t, i < t → t < s.size → bt s t ≠ bt s i) (w : World) :
    Calls Try.prog 58 #[.string s, .int .i64 i] w fun e w1 => e = .returned (.tuple #[.string ByteArray.empty, .int .i64 0, .bool false]) ∧ ∃ m, w1 = w.drewN m := by
  have hb := get_bt s
  have b0 := bt_nonneg s i
  have b1 := bt_le s i
  have hc : ∀ w, Calls Try.prog 56 #[.string (s.extract (i + 1) s.size), .int .u8 (bt s i)] w fun e w1 => e = .returned (.int .i64 (-1)) ∧ w1 = w := fun w => by
    refine idx_no _ _ b0 b1 ?_ w
    intro t ht
    rw [size_extract] at ht
    rw [bt_extract s (by omega) (Nat.le_refl _)]
    exact hl _ (by omega) (by omega)
  have hc := Lib.hid hc
  have hu : unqB (bt s i) = false := by rcases hq with h | h <;> simp [unqB, h]
  have hu := Lib.hid hu
  have hq' : (bt s i == 39) = true ∨ (bt s i == 39) = false ∧ (bt s i == 34) = true := by simp only [beq_iff_eq, beq_eq_false_iff_ne]; omega
  clear hq hl
  rcases hq' with hq | ⟨hq, hq2⟩
  all_goals
    go_enter Try.func58, Try.ntmps58
    go_wp2_with fail
    go_quiet ((go_at_call 56; exact Calls.quiet_of_same (hc.out _)))
    go_wp2_with fail
    refine Go.wp_loop_rounds 1 ?_
    rw [rounds_succ]
    go_wp2_with (go_at_call 56; refine (unq_no _ b0 b1 hu.out _).mono ?_; rintro e w1 ⟨n, rfl, hn, rfl⟩)
    go_ret3
    exact ⟨rfl, _, rfl⟩

/-- what is read of a value without marks that ends at k -/
def bareVal (s : ByteArray) (i k : Nat) : Value := if i < k then .tuple #[.string (s.extract i k), .int .i64 k, .bool true] else .tuple #[.string ByteArray.empty, .int .i64 0, .bool false]
theorem bareVal_yes {s : ByteArray} {i k : Nat} (h : i < k) : bareVal s i k = .tuple #[.string (s.extract i k), .int .i64 k, .bool true] := if_pos h
theorem bareVal_no {s : ByteArray} {i k : Nat} (h : ¬ i < k) : bareVal s i k = .tuple #[.string ByteArray.empty, .int .i64 0, .bool false] := if_neg h
set_option maxHeartbeats 1000000 in
/-- without marks: what stands up to the first byte that ends it -/
theorem attrValue_bare (s : ByteArray) (i : Nat) (hs : s.size ≤ 2147483647) (hi : i < s.size) (hq : ¬ (bt s i = 39 ∨ bt s i = 34)) (w : World) :
    Calls Try.prog 58 #[.string s, .int .i64 i] w fun e w1 => e = .returned (bareVal s i (runEnd unqB s i)) ∧ ∃ m, w1 = w.drewN m := by
  have hb := get_bt s
  have h1 : (bt s i == 39) = false := by simp only [beq_eq_false_iff_ne]; omega
  have h2 : (bt s i == 34) = false := by simp only [beq_eq_false_iff_ne]; omega
  clear hq
  go_enter Try.func58, Try.ntmps58
  go_wp2_with fail
  go_loop [9] (fun j => ∃ k : Nat, i ≤ k ∧ k ≤ s.size ∧ j = .int .i64 k ∧ Hid (runEnd unqB s k = runEnd unqB s i)) (fun j => s.size - (intOf j).toNat)
  case atStart => exact ⟨i, by omega, by omega, rfl, rfl⟩
  case round =>
    obtain ⟨k, hik, hk, rfl, hR⟩ := hrel
    have b0 := bt_nonneg s k
    have b1 := bt_le s k
    by_cases hlt : k < s.size
    · cases hc : unqB (bt s k)
      · have hR' : Hid (k = runEnd unqB s i) := (runEnd_stop hc).symm.trans hR.out
        have hc' := Lib.hid hc
        clear hc hR
        by_cases hki : i < k
        · go_wp2_with (go_at_call 56; refine (unq_no _ b0 b1 hc'.out _).mono ?_; rintro e w1 ⟨n, rfl, hn, rfl⟩)
          go_ret3
          refine ⟨?_, 0, rfl⟩
          rw [← hR'.out, bareVal_yes hki]; rfl
        · go_wp2_with (go_at_call 56; refine (unq_no _ b0 b1 hc'.out _).mono ?_; rintro e w1 ⟨n, rfl, hn, rfl⟩)
          go_ret3
          refine ⟨?_, 0, rfl⟩
          rw [← hR'.out, bareVal_no hki]; rfl
      · have hc' := Lib.hid hc
        clear hc
        go_wp2_with (go_at_call 56; refine (unq_c _ b0 b1 hc'.out _).mono ?_; rintro e w1 ⟨n, rfl, hn, rfl⟩)
        go_round
        case rel => exact ⟨k + 1, by omega, by omega, by go_num, (runEnd_step hlt hc'.out).trans hR.out⟩
        case measure => simp [intOf]; omega
    · have hR' : Hid (k = runEnd unqB s i) := (runEnd_end (by omega)).symm.trans hR.out
      clear hR
      have hki : i < k := by omega
      go_wp2
      go_ret3
      refine ⟨?_, 0, rfl⟩
      rw [← hR'.out, bareVal_yes hki]; rfl

theorem attrValue_quoted_z (s : ByteArray) (i k : Nat) (hs : s.size ≤ 2147483647) (hq : bt s i = 39 ∨ bt s i = 34) (hik : i < k) (hk : k < s.size) (he : bt s k = bt s i) (hl : ∀ t, i < t → t < k → bt s t ≠ bt s i) (w : World) :
    Calls Try.prog 46 #[.string s, .int .i64 i] w fun e w1 => e = .returned (.tuple #[.string (s.extract i (k + 1)), .int .i64 (k + 1 : Nat), .bool true]) ∧ ∃ m, w1 = w.drewN m := by
  have H := Lib.hid hl
  have H2 := Lib.hid he
  have H3 := Lib.hid hq
  clear hl he hq
  go_enter Try.func46, Try.ntmps46
  go_wp2_with (go_at_call 58; refine (attrValue_quoted _ _ k hs H3.out hik hk H2.out H.out _).mono ?_; rintro e w1 ⟨rfl, m, rfl⟩)
  go_ret3
  exact ⟨rfl, _, rfl⟩
theorem attrValue_quoted_i (s : ByteArray) (i k : Nat) (hs : s.size ≤ 2147483647) (hq : bt s i = 39 ∨ bt s i = 34) (hik : i < k) (hk : k < s.size) (he : bt s k = bt s i) (hl : ∀ t, i < t → t < k → bt s t ≠ bt s i) (w : World) :
    Calls Try.prog 29 #[.string s, .int .i64 i] w fun e w1 => e = .returned (.tuple #[.string (s.extract i (k + 1)), .int .i64 (k + 1 : Nat), .bool true]) ∧ ∃ m, w1 = w.drewN m := by
  have H := Lib.hid hl
  have H2 := Lib.hid he
  have H3 := Lib.hid hq
  clear hl he hq
  go_enter Try.func29, Try.ntmps29
  go_wp2_with (go_at_call 46; refine (attrValue_quoted_z _ _ k hs H3.out hik hk H2.out H.out _).mono ?_; rintro e w1 ⟨rfl, m, rfl⟩)
  go_ret3
  exact ⟨rfl, _, rfl⟩
theorem attrValue_open_z (s : ByteArray) (i : Nat) (hs : s.size ≤ 2147483647) (hi : i < s.size) (hq : bt s i = 39 ∨ bt s i = 34) (hl : ∀ t, i < t → t < s.size → bt s t ≠ bt s i) (w : World) :
    Calls Try.prog 46 #[.string s, .int .i64 i] w fun e w1 => e = .returned (.tuple #[.string ByteArray.empty, .int .i64 0, .bool false]) ∧ ∃ m, w1 = w.drewN m := by
  have H := Lib.hid hl
  have H3 := Lib.hid hq
  clear hl hq
  go_enter Try.func46, Try.ntmps46
  go_wp2_with (go_at_call 58; refine (attrValue_open _ _ hs hi H3.out H.out _).mono ?_; rintro e w1 ⟨rfl, m, rfl⟩)
  go_ret3
  exact ⟨rfl, _, rfl⟩
theorem attrValue_open_i (s : ByteArray) (i : Nat) (hs : s.size ≤ 2147483647) (hi : i < s.size) (hq : bt s i = 39 ∨ bt s i = 34) (hl : ∀ t, i < t → t < s.size → bt s t ≠ bt s i) (w : World) :
    Calls Try.prog 29 #[.string s, .int .i64 i] w fun e w1 => e = .returned (.tuple #[.string ByteArray.empty, .int .i64 0, .bool false]) ∧ ∃ m, w1 = w.drewN m := by
  have H := Lib.hid hl
  have H3 := Lib.hid hq
  clear hl hq
  go_enter Try.func29, Try.ntmps29
  go_wp2_with (go_at_call 46; refine (attrValue_open_z _ _ hs hi H3.out H.out _).mono ?_; rintro e w1 ⟨rfl, m, rfl⟩)
  go_ret3
  exact ⟨rfl, _, rfl⟩
theorem attrValue_some (s : ByteArray) (i : Nat) (hs : s.size ≤ 2147483647) (hi : i < s.size) (hq : ¬ (bt s i = 39 ∨ bt s i = 34)) (hr : i < runEnd unqB s i) (w : World) :
    Calls Try.prog 58 #[.string s, .int .i64 i] w fun e w1 => e = .returned (.tuple #[.string (s.extract i (runEnd unqB s i)), .int .i64 (runEnd unqB s i), .bool true]) ∧ ∃ m, w1 = w.drewN m :=
  (attrValue_bare s i hs hi hq w).mono fun _ _ ⟨he, hw⟩ => ⟨by rw [he, bareVal_yes hr], hw⟩
theorem attrValue_none (s : ByteArray) (i : Nat) (hs : s.size ≤ 2147483647) (hi : i < s.size) (hq : ¬ (bt s i = 39 ∨ bt s i = 34)) (hr : ¬ i < runEnd unqB s i) (w : World) :
    Calls Try.prog 58 #[.string s, .int .i64 i] w fun e w1 => e = .returned (.tuple #[.string ByteArray.empty, .int .i64 0, .bool false]) ∧ ∃ m, w1 = w.drewN m :=
  (attrValue_bare s i hs hi hq w).mono fun _ _ ⟨he, hw⟩ => ⟨by rw [he, bareVal_no hr], hw⟩
theorem attrValue_some_z (s : ByteArray) (i : Nat) (hs : s.size ≤ 2147483647) (hi : i < s.size) (hq : ¬ (bt s i = 39 ∨ bt s i = 34)) (hr : i < runEnd unqB s i) (w : World) :
    Calls Try.prog 46 #[.string s, .int .i64 i] w fun e w1 => e = .returned (.tuple #[.string (s.extract i (runEnd unqB s i)), .int .i64 (runEnd unqB s i), .bool true]) ∧ ∃ m, w1 = w.drewN m := by
  have H := Lib.hid hq
  have H2 := Lib.hid hr
  clear hq hr
  go_enter Try.func46, Try.ntmps46
  go_wp2_with (go_at_call 58; refine (attrValue_some _ _ hs hi H.out H2.out _).mono ?_; rintro e w1 ⟨rfl, m, rfl⟩)
  go_ret3
  exact ⟨rfl, _, rfl⟩
theorem attrValue_some_i (s : ByteArray) (i : Nat) (hs : s.size ≤ 2147483647) (hi : i < s.size) (hq : ¬ (bt s i = 39 ∨ bt s i = 34)) (hr : i < runEnd unqB s i) (w : World) :
    Calls Try.prog 29 #[.string s, .int .i64 i] w fun e w1 => e = .returned (.tuple #[.string (s.extract i (runEnd unqB s i)), .int .i64 (runEnd unqB s i), .bool true]) ∧ ∃ m, w1 = w.drewN m := by
  have H := Lib.hid hq
  have H2 := Lib.hid hr
  clear hq hr
  go_enter Try.func29, Try.ntmps29
  go_wp2_with (go_at_call 46; refine (attrValue_some_z _ _ hs hi H.out H2.out _).mono ?_; rintro e w1 ⟨rfl, m, rfl⟩)
  go_ret3
  exact ⟨rfl, _, rfl⟩
theorem attrValue_none_z (s : ByteArray) (i : Nat) (hs : s.size ≤ 2147483647) (hi : i < s.size) (hq : ¬ (bt s i = 39 ∨ bt s i = 34)) (hr : ¬ i < runEnd unqB s i) (w : World) :
    Calls Try.prog 46 #[.string s, .int .i64 i] w fun e w1 => e = .returned (.tuple #[.string ByteArray.empty, .int .i64 0, .bool false]) ∧ ∃ m, w1 = w.drewN m := by
  have H := Lib.hid hq
  have H2 := Lib.hid hr
  clear hq hr
  go_enter Try.func46, Try.ntmps46
  go_wp2_with (go_at_call 58; refine (attrValue_none _ _ hs hi H.out H2.out _).mono ?_; rintro e w1 ⟨rfl, m, rfl⟩)
  go_ret3
  exact ⟨rfl, _, rfl⟩
theorem attrValue_none_i (s : ByteArray) (i : Nat) (hs : s.size ≤ 2147483647) (hi : i < s.size) (hq : ¬ (bt s i = 39 ∨ bt s i = 34)) (hr : ¬ i < runEnd unqB s i) (w : World) :
    Calls Try.prog 29 #[.string s, .int .i64 i] w fun e w1 => e = .returned (.tuple #[.string ByteArray.empty, .int .i64 0, .bool false]) ∧ ∃ m, w1 = w.drewN m := by
  have H := Lib.hid hq
  have H2 := Lib.hid hr
  clear hq hr
  go_enter Try.func29, Try.ntmps29
  go_wp2_with (go_at_call 46; refine (attrValue_none_z _ _ hs hi H.out H2.out _).mono ?_; rintro e w1 ⟨rfl, m, rfl⟩)
  go_ret3
  exact ⟨rfl, _, rfl⟩

/-! ### the reference's attrValue -/
theorem specValue_quoted (s : ByteArray) (i k : Nat) (hs : s.size ≤ 2147483647) (hq : bt s i = 39 ∨ bt s i = 34) (hik : i < k) (hk : k < s.size) (he : bt s k = bt s i) (hl : ∀ t, i < t → t < k → bt s t ≠ bt s i) (w : World) :
    Calls Try.prog 47 #[.string s, .int .i64 i] w fun e w1 => e = .returned (.int .i64 (k + 1 : Nat)) ∧ ∃ m, w1 = w.drewN m := by
  have hb := get_bt s
  have H := Lib.hid hl
  have H2 := Lib.hid he
  have hq' : (bt s i == 34) = true ∨ (bt s i == 34) = false ∧ (bt s i == 39) = true := by simp only [beq_iff_eq, beq_eq_false_iff_ne]; omega
  clear hl he hq
  rcases hq' with hq | ⟨hq, hq2⟩
  all_goals
    go_enter Try.func47, Try.ntmps47
    go_wp2_with fail
    go_loopw [5] (fun j wr => ∃ t : Nat, i < t ∧ t ≤ k ∧ j = .int .i64 t ∧ Hid (∃ m, wr = w.drewN m)) (fun j _ => s.size - (intOf j).toNat)
    case atStart => exact ⟨i + 1, by omega, by omega, by go_num, 0, rfl⟩
    case round =>
      obtain ⟨t, h1, h2, rfl, hW⟩ := hrel
      by_cases htk : t = k
      · subst htk
        have e0 : (bt s t == bt s i) = true := by simp [H2.out]
        go_wp2_with fail
        go_quiet (fail)
        go_wp2
        go_ret
        obtain ⟨m, hm⟩ := hW.out
        exact ⟨retInt (by omega), _, by rw [hm, World.drewN_drewN]⟩
      · have e0 : (bt s t == bt s i) = false := by simpa using H.out t h1 (by omega)
        go_wp2_with fail
        go_quiet (fail)
        go_wp2
        go_roundw
        case rel => exact ⟨t + 1, by omega, by omega, by go_num, by obtain ⟨m, hm⟩ := hW.out; exact ⟨_, by rw [hm, World.drewN_drewN]⟩⟩
        case measure => simp [intOf]; omega
theorem specValue_open (s : ByteArray) (i : Nat) (hs : s.size ≤ 2147483647) (hi : i < s.size) (hq : bt s i = 39 ∨ bt s i = 34) (hl : ∀ t, i < t → t < s.size → bt s t ≠ bt s i) (w : World) :
    Calls Try.prog 47 #[.string s, .int .i64 i] w fun e w1 => e = .returned (.int .i64 (-1)) ∧ ∃ m, w1 = w.drewN m := by
  have hb := get_bt s
  have H := Lib.hid hl
  have hq' : (bt s i == 34) = true ∨ (bt s i == 34) = false ∧ (bt s i == 39) = true := by simp only [beq_iff_eq, beq_eq_false_iff_ne]; omega
  clear hl hq
  rcases hq' with hq | ⟨hq, hq2⟩
  all_goals
    go_enter Try.func47, Try.ntmps47
    go_wp2_with fail
    go_loopw [5] (fun j wr => ∃ t : Nat, i < t ∧ t ≤ s.size ∧ j = .int .i64 t ∧ Hid (∃ m, wr = w.drewN m)) (fun j _ => s.size - (intOf j).toNat)
    case atStart => exact ⟨i + 1, by omega, by omega, by go_num, 0, rfl⟩
    case round =>
      obtain ⟨t, h1, h2, rfl, hW⟩ := hrel
      by_cases htk : t = s.size
      · subst htk
        go_wp2_with fail
        go_ret
        obtain ⟨m, hm⟩ := hW.out
        exact ⟨rfl, _, hm⟩
      · have e0 : (bt s t == bt s i) = false := by simpa using H.out t h1 (by omega)
        have hlt : t < s.size := by omega
        go_wp2_with fail
        go_quiet (fail)
        go_wp2
        go_roundw
        case rel => exact ⟨t + 1, by omega, by omega, by go_num, by obtain ⟨m, hm⟩ := hW.out; exact ⟨_, by rw [hm, World.drewN_drewN]⟩⟩
        case measure => simp [intOf]; omega
/-- what may stand in a value without quotation marks, in the reference's words -/
def unq2B (c : Int) : Bool := decide (¬ (c = 32 ∨ c = 9 ∨ c = 10 ∨ c = 13 ∨ c = 34 ∨ c = 39 ∨ c = 61 ∨ c = 60 ∨ c = 62 ∨ c = 96))
/-- what the reference tells of a value without marks that ends at k -/
def specVal (i k : Nat) : Int := if i < k then (k : Int) else -1
set_option maxHeartbeats 1000000 in
theorem specValue_bare (s : ByteArray) (i : Nat) (hs : s.size ≤ 2147483647) (hi : i < s.size) (hq : ¬ (bt s i = 39 ∨ bt s i = 34)) (w : World) :
    Calls Try.prog 47 #[.string s, .int .i64 i] w fun e w1 => e = .returned (.int .i64 (specVal i (runEnd unq2B s i))) ∧ ∃ m, w1 = w.drewN m := by
  have hb := get_bt s
  have h1 : (bt s i == 34) = false := by simp only [beq_eq_false_iff_ne]; omega
  have h2 : (bt s i == 39) = false := by simp only [beq_eq_false_iff_ne]; omega
  have hd : decide (s.size ≤ i) = false := by simp; omega
  clear hq
  go_enter Try.func47, Try.ntmps47
  go_wp2_with fail
  go_loop [6] (fun j => ∃ k : Nat, i ≤ k ∧ k ≤ s.size ∧ j = .int .i64 k ∧ Hid (runEnd unq2B s k = runEnd unq2B s i)) (fun j => s.size - (intOf j).toNat)
  case atStart => exact ⟨i, by omega, by omega, rfl, rfl⟩
  case round =>
    obtain ⟨k, hik, hk, rfl, hR⟩ := hrel
    by_cases hlt : k < s.size ∧ unq2B (bt s k) = true
    · obtain ⟨hlt, hc⟩ := hlt
      have hn : Hid (runEnd unq2B s (k + 1) = runEnd unq2B s i) := (runEnd_step hlt hc).trans hR.out
      have hc' := Lib.hid hc
      clear hc hR
      go_wp2_with (go_at_call 28; refine (IsBlank_c _ _).mono ?_; rintro e w1 ⟨rfl, rfl⟩)
      all_goals first
        | (exfalso; have hc := hc'.out; simp [unq2B, blankB] at *; omega)
        | (go_round
           case rel => exact ⟨k + 1, by omega, by omega, by go_num, hn⟩
           case measure => simp [intOf]; omega)
    · have hR' : Hid (k = runEnd unq2B s i) := by
        show k = runEnd unq2B s i
        by_cases c : k < s.size
        · have : unq2B (bt s k) = false := by
            cases e : unq2B (bt s k)
            · rfl
            · exact absurd ⟨c, e⟩ hlt
          rw [← hR.out, runEnd_stop this]
        · rw [← hR.out, runEnd_end (by omega)]
      have hv : Hid (specVal i (runEnd unq2B s i) = if i < k then (k : Int) else -1) := by show specVal i (runEnd unq2B s i) = _; rw [← hR'.out]; rfl
      have hend : k < s.size → Hid (unq2B (bt s k) = false) := fun c => by
        show unq2B (bt s k) = false
        cases e : unq2B (bt s k)
        · rfl
        · exact absurd ⟨c, e⟩ hlt
      clear hlt hR
      by_cases hki : i < k
      · have hki' : ((k : Int) == i) = false := by simp; omega
        by_cases hlt : k < s.size
        · have hend := hend hlt
          go_wp2_with (go_at_call 28; refine (IsBlank_c _ _).mono ?_; rintro e w1 ⟨rfl, rfl⟩)
          all_goals first
            | (go_ret; exact ⟨retInt (by rw [hv.out, if_pos hki]), 0, rfl⟩)
            | (exfalso; have hend := hend.out; simp [unq2B, blankB] at *; omega)
        · clear hend
          go_wp2
          go_ret; exact ⟨retInt (by rw [hv.out, if_pos hki]), 0, rfl⟩
      · have e : k = i := by omega
        subst e
        have hend := hend hi
        go_wp2_with (go_at_call 28; refine (IsBlank_c _ _).mono ?_; rintro e w1 ⟨rfl, rfl⟩)
        all_goals first
          | (go_ret; exact ⟨retInt (by rw [hv.out, if_neg (by omega)]), 0, rfl⟩)
          | (exfalso; have hend := hend.out; simp [unq2B, blankB] at *; omega)
theorem specValue_quoted_a (s : ByteArray) (i k : Nat) (hs : s.size ≤ 2147483647) (hq : bt s i = 39 ∨ bt s i = 34) (hik : i < k) (hk : k < s.size) (he : bt s k = bt s i) (hl : ∀ t, i < t → t < k → bt s t ≠ bt s i) (w : World) :
    Calls Try.prog 30 #[.string s, .int .i64 i] w fun e w1 => e = .returned (.int .i64 (k + 1 : Nat)) ∧ ∃ m, w1 = w.drewN m := by
  have H := Lib.hid hl
  have H2 := Lib.hid he
  have H3 := Lib.hid hq
  clear hl he hq
  go_enter Try.func30, Try.ntmps30
  go_wp2_with (go_at_call 47; refine (specValue_quoted _ _ k hs H3.out hik hk H2.out H.out _).mono ?_; rintro e w1 ⟨rfl, m, rfl⟩)
  go_ret
  exact ⟨rfl, _, rfl⟩
theorem specValue_open_a (s : ByteArray) (i : Nat) (hs : s.size ≤ 2147483647) (hi : i < s.size) (hq : bt s i = 39 ∨ bt s i = 34) (hl : ∀ t, i < t → t < s.size → bt s t ≠ bt s i) (w : World) :
    Calls Try.prog 30 #[.string s, .int .i64 i] w fun e w1 => e = .returned (.int .i64 (-1)) ∧ ∃ m, w1 = w.drewN m := by
  have H := Lib.hid hl
  have H3 := Lib.hid hq
  clear hl hq
  go_enter Try.func30, Try.ntmps30
  go_wp2_with (go_at_call 47; refine (specValue_open _ _ hs hi H3.out H.out _).mono ?_; rintro e w1 ⟨rfl, m, rfl⟩)
  go_ret
  exact ⟨rfl, _, rfl⟩
theorem specValue_bare_a (s : ByteArray) (i : Nat) (hs : s.size ≤ 2147483647) (hi : i < s.size) (hq : ¬ (bt s i = 39 ∨ bt s i = 34)) (w : World) :
    Calls Try.prog 30 #[.string s, .int .i64 i] w fun e w1 => e = .returned (.int .i64 (specVal i (runEnd unq2B s i))) ∧ ∃ m, w1 = w.drewN m := by
  have H := Lib.hid hq
  clear hq
  go_enter Try.func30, Try.ntmps30
  go_wp2_with (go_at_call 47; refine (specValue_bare _ _ hs hi H.out _).mono ?_; rintro e w1 ⟨rfl, m, rfl⟩)
  go_ret
  exact ⟨rfl, _, rfl⟩

theorem runGo_congr {p q : Int → Bool} {s : ByteArray} : ∀ (n i : Nat), (∀ t, i ≤ t → t < i + n → p (bt s t) = q (bt s t)) → runGo p s n i = runGo q s n i
  | 0, _, _ => rfl
  | n + 1, i, h => by
    unfold runGo
    rw [h i (Nat.le_refl _) (by omega), runGo_congr n (i + 1) (fun t h1 h2 => h t (by omega) (by omega))]
theorem runEnd_congr {p q : Int → Bool} {s : ByteArray} {i : Nat} (h : ∀ t, i ≤ t → t < s.size → p (bt s t) = q (bt s t)) : runEnd p s i = runEnd q s i :=
  runGo_congr _ _ fun t h1 h2 => h t h1 (by omega)
theorem unq_same {s : ByteArray} (h : LinedTo s s.size) (i : Nat) : runEnd unq2B s i = runEnd unqB s i :=
  runEnd_congr fun t _ ht => by
    have := h t ht
    simp only [unqB, unq2B, decide_eq_decide]
    omega
end Go.Proofs.Ytonadaoehhlafaa.W
