/- A walk of skipDomainElem, and of the doors to it: letters and digits, up to 63 of them, up to a byte that stands in no domain or the end, are read whole. Condition: as that says. -/
import Derived.Test.YtonadaoehhlafaaOnly
namespace Go.Proofs.Ytonadaoehhlafaa.W
open Go.RowKit Go.PlainAid

theorem elem_c (s : ByteArray) (n : Nat) (hs : s.size ≤ 2147483647) (hn0 : 1 ≤ n) (hn : n ≤ 63) (hns : n ≤ s.size) (hl : ∀ t, t < n → ldB (bt s t) = true) (he : n < s.size → ldhB (bt s n) = false) (w : World) :
    Calls Try.prog 57 #[.string s] w fun e w1 => e = .returned (.tuple #[.int .i64 n, .bool true]) ∧ w = w1 := by
  have hb := get_bt s
  have h0 := hl 0 (by omega)
  have hl' := Lib.hid hl
  have he' := Lib.hid he
  clear hl he
  go_enter Try.func57, Try.ntmps57
  go_wp2_with (go_at_call 61; refine (isLetterDigit_c _ _).mono ?_; rintro e w1 ⟨rfl, rfl⟩)
  go_loop [4] (fun j => ∃ k : Nat, 1 ≤ k ∧ k ≤ n ∧ j = .int .i64 k) (fun j => s.size - (intOf j).toNat)
  case atStart => exact ⟨1, by omega, by omega, rfl⟩
  case round =>
    obtain ⟨k, h1, h2, rfl⟩ := hrel
    by_cases hkn : k = n
    · subst hkn
      have hlast := hl'.out (k - 1) (by omega)
      have hk1 : (k : Int) - 1 = ((k - 1 : Nat) : Int) := by omega
      by_cases hlt : k < s.size
      · have hend := he'.out hlt
        go_wp2_with (first | (go_at_call 64; refine (isLDH_c _ _).mono ?_; rintro e w1 ⟨rfl, rfl⟩) | (go_at_call 61; refine (isLetterDigit_c _ _).mono ?_; rintro e w1 ⟨rfl, rfl⟩))
        go_ret2
        exact ⟨rfl, rfl⟩
      · go_wp2_with (first | (go_at_call 64; refine (isLDH_c _ _).mono ?_; rintro e w1 ⟨rfl, rfl⟩) | (go_at_call 61; refine (isLetterDigit_c _ _).mono ?_; rintro e w1 ⟨rfl, rfl⟩))
        go_ret2
        exact ⟨rfl, rfl⟩
    · have hk : ldhB (bt s k) = true := by have := hl'.out k (by omega); simp [ldB, ldhB] at *; omega
      have hkl : ((k : Int) ≤ 63) := by omega
      go_wp2_with (go_at_call 64; refine (isLDH_c _ _).mono ?_; rintro e w1 ⟨rfl, rfl⟩)
      go_round
      case rel => exact ⟨k + 1, by omega, by omega, by go_num⟩
      case measure => simp [intOf]; omega
theorem elem_z (s : ByteArray) (n : Nat) (hs : s.size ≤ 2147483647) (hn0 : 1 ≤ n) (hn : n ≤ 63) (hns : n ≤ s.size) (hl : ∀ t, t < n → ldB (bt s t) = true) (he : n < s.size → ldhB (bt s n) = false) (w : World) :
    Calls Try.prog 45 #[.string s] w fun e w1 => e = .returned (.tuple #[.int .i64 n, .bool true]) ∧ w = w1 := by
  have H := Lib.hid hl
  have H2 := Lib.hid he
  clear hl he
  go_enter Try.func45, Try.ntmps45
  go_wp2_with (go_at_call 57; refine (elem_c _ n hs hn0 hn hns H.out H2.out _).mono ?_; rintro e w1 ⟨rfl, rfl⟩)
  go_ret2
  exact ⟨rfl, rfl⟩
theorem elem_i (s : ByteArray) (n : Nat) (hs : s.size ≤ 2147483647) (hn0 : 1 ≤ n) (hn : n ≤ 63) (hns : n ≤ s.size) (hl : ∀ t, t < n → ldB (bt s t) = true) (he : n < s.size → ldhB (bt s n) = false) (w : World) :
    Calls Try.prog 27 #[.string s] w fun e w1 => e = .returned (.tuple #[.int .i64 n, .bool true]) ∧ w = w1 := by
  have H := Lib.hid hl
  have H2 := Lib.hid he
  clear hl he
  go_enter Try.func27, Try.ntmps27
  go_wp2_with (go_at_call 45; refine (elem_z _ n hs hn0 hn hns H.out H2.out _).mono ?_; rintro e w1 ⟨rfl, rfl⟩)
  go_ret2
  exact ⟨rfl, rfl⟩

/-- the statement's word: letters and digits of its small alphabet -/
theorem word_in : ∀ n : Nat, n < 256 → inB ⟨#[97, 98, 122, 48, 49, 57]⟩ (n : Int) = true → ldB (n : Int) = true := by decide +kernel
theorem word_ld {a : ByteArray} (h : onlyB a ⟨#[97, 98, 122, 48, 49, 57]⟩ 20 = true) {t : Nat} (ht : t < a.size) : ldB (bt a t) = true := by
  have h1 := ((onlyB_iff a _ 20).1 h).2 t ht
  have b0 := bt_nonneg a t
  have b1 := bt_le a t
  obtain ⟨n, hn⟩ := Int.eq_ofNat_of_zero_le b0
  rw [hn] at h1 ⊢
  exact word_in n (by omega) h1
theorem elem_tail (a t : ByteArray) (h : onlyB a ⟨#[97, 98, 122, 48, 49, 57]⟩ 20 = true) (h0 : a.size ≠ 0) (ht : t.size ≤ 1) (ht1 : t.size = 1 → ldhB (bt t 0) = false) (w : World) :
    Calls Try.prog 27 #[.string (a ++ t)] w fun e w1 => e = .returned (.tuple #[.int .i64 a.size, .bool true]) ∧ w = w1 := by
  have hz := ((onlyB_iff a _ 20).1 h).1
  refine elem_i (a ++ t) a.size (by rw [size_app]; omega) (by omega) (by omega) (by rw [size_app]; omega) ?_ ?_ w
  · intro k hk
    rw [bt_app_l a t hk]
    exact word_ld h hk
  · intro hk
    rw [size_app] at hk
    rw [bt_app_r a t (Nat.le_refl _), Nat.sub_self]
    exact ht1 (by omega)

end Go.Proofs.Ytonadaoehhlafaa.W
