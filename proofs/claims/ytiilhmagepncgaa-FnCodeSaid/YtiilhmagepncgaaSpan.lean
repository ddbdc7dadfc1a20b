/- Plain words on code spans, and walks of the reference's RunLength, spanText and ReadSpan. Condition: the text has at most 300 bytes. -/
import Derived.Test.YtiilhmagepncgaaApp
import Derived.Test.YtiilhmagepncgaaRet
import Derived.Test.YtiilhmagepncgaaRows
import Derived.Lib.UnsafeStr
namespace Go.Proofs.Ytiilhmagepncgaa.W
open Go.RowKit Go.PlainAid
set_option linter.unusedVariables false

def byteOf (c : Int) : UInt8 := UInt8.ofNat c.toNat
theorem byteOf_toNat {c : Int} (h0 : 0 ≤ c) (h1 : c ≤ 255) : ((byteOf c).toNat : Int) = c := by
  unfold byteOf
  rw [UInt8.toNat_ofNat']; omega
def tickB (c : Int) : Bool := c == 96
theorem tick_gt {s : ByteArray} {p : Nat} (h : p < s.size) (h1 : bt s p = 96) : p < runEnd tickB s p := by
  have e := runEnd_step (p := tickB) h (by simp [tickB, h1])
  have := runEnd_ge tickB s (p + 1)
  omega
/-- where the first run of n backquotes begins, from p on -/
def spanFrom (s : ByteArray) (n p : Nat) : Option Nat :=
  if h : p < s.size then
    if h1 : bt s p = 96 then
      if runEnd tickB s p - p = n then some p else spanFrom s n (runEnd tickB s p)
    else spanFrom s n (p + 1)
  else none
termination_by s.size - p
decreasing_by
  · have := tick_gt h h1; omega
  · omega
theorem spanFrom_end {s : ByteArray} {n p : Nat} (h : s.size ≤ p) : spanFrom s n p = none := by
  rw [spanFrom, dif_neg (by omega)]
theorem spanFrom_skip {s : ByteArray} {n p : Nat} (h : p < s.size) (h1 : bt s p ≠ 96) : spanFrom s n p = spanFrom s n (p + 1) := by
  rw [spanFrom, dif_pos h, dif_neg h1]
theorem spanFrom_hit {s : ByteArray} {n p : Nat} (h : p < s.size) (h1 : bt s p = 96) (h2 : runEnd tickB s p - p = n) : spanFrom s n p = some p := by
  rw [spanFrom, dif_pos h, dif_pos h1, if_pos h2]
theorem spanFrom_other {s : ByteArray} {n p : Nat} (h : p < s.size) (h1 : bt s p = 96) (h2 : runEnd tickB s p - p ≠ n) : spanFrom s n p = spanFrom s n (runEnd tickB s p) := by
  rw [spanFrom, dif_pos h, dif_pos h1, if_neg h2]

theorem runLength_c (s : ByteArray) (i : Nat) (hs : s.size ≤ 2147483647) (hi : i ≤ s.size) (w : World) :
    Calls Try.prog 12 #[.string s, .int .i64 i, .int .u8 96] w fun e w1 => e = .returned (.int .i64 (runEnd tickB s i - i : Nat)) ∧ w = w1 := by
  have hb := get_bt s
  have hge := runEnd_ge tickB s i
  have hle := runEnd_le tickB s hi
  have hin := fun j (h : i ≤ j) (h1 : j < runEnd tickB s i) => runEnd_in (p := tickB) (s := s) h h1
  have hat := fun (h : runEnd tickB s i < s.size) => runEnd_at (p := tickB) (s := s) (i := i) hi h
  generalize runEnd tickB s i = r at hge hle hin hat
  replace hin := Lib.hid hin
  replace hat := Lib.hid hat
  go_enter Try.func12, Try.ntmps12
  go_wp2
  go_loop [7] (fun n => ∃ k : Nat, i + k ≤ r ∧ n = .int .i64 k) (fun n => s.size - (intOf n).toNat)
  case atStart => exact ⟨0, by omega, rfl⟩
  case round =>
    obtain ⟨k, hk, rfl⟩ := hrel
    by_cases hlt : i + k < r
    · have t : (bt s (i + k) == 96) = true := hin.out (i + k) (by omega) hlt
      go_wp2
      go_round
      case rel => exact ⟨k + 1, by omega, by go_num⟩
      case measure => simp [intOf]; omega
    · have e : i + k = r := by omega
      by_cases hz : i + k < s.size
      · have t : (bt s (i + k) == 96) = false := by have := hat.out (by omega); rw [← e] at this; exact this
        clear hat hin
        subst e
        go_wp2
        go_ret
        exact ⟨retInt (by omega), rfl⟩
      · have hz2 : i + k = s.size := by omega
        clear hat hin
        go_wp2
        go_ret
        exact ⟨retInt (by omega), rfl⟩

/-! ### what a span means -/
def spC (c : Int) : Int := if c = 10 then 32 else c
def subTo (s : ByteArray) : Nat → List UInt8
  | 0 => []
  | k + 1 => subTo s k ++ [byteOf (spC (bt s k))]
def filledTo (s : ByteArray) : Nat → Bool
  | 0 => false
  | k + 1 => filledTo s k || decide (bt s k ≠ 10 ∧ bt s k ≠ 32)
theorem subTo_len (s : ByteArray) : ∀ k, (subTo s k).length = k
  | 0 => rfl
  | k + 1 => by rw [subTo, List.length_append, subTo_len s k]; rfl
def subS (s : ByteArray) : ByteArray := ⟨(subTo s s.size).toArray⟩
theorem size_subS (s : ByteArray) : (subS s).size = s.size := subTo_len s s.size
/-- what the span with the text s means -/
def meantS (s : ByteArray) : ByteArray :=
  if filledTo s s.size = true ∧ 2 ≤ s.size ∧ bt (subS s) 0 = 32 ∧ bt (subS s) (s.size - 1) = 32 then (subS s).extract 1 (s.size - 1) else subS s
theorem str_app (a b : List UInt8) : (⟨a.toArray⟩ ++ ⟨b.toArray⟩ : ByteArray) = ⟨(a ++ b).toArray⟩ := by
  apply ByteArray.ext; simp
theorem one_letter (s : ByteArray) {k : Nat} (h : k < s.size) : s.extract k (k + 1) = ⟨[byteOf (bt s k)].toArray⟩ := by
  refine str_ext (by rw [size_extract]; show _ = 1; omega) fun j hj => ?_
  rw [size_extract] at hj
  obtain rfl : j = 0 := by omega
  rw [bt_extract s (by omega) (by omega), Nat.add_zero]
  have := byteOf_toNat (bt_nonneg s k) (bt_le s k)
  exact this.symm

set_option maxHeartbeats 2000000 in
theorem spanText_c (s : ByteArray) (hs : s.size ≤ 300) (w : World) :
    Calls Try.prog 23 #[.string s] w fun e w1 => e = .returned (.string (meantS s)) ∧ w = w1 := by
  have hb := get_bt s
  go_enter Try.func23, Try.ntmps23
  go_wp2
  go_loop [3, 4, 5] (fun out fl i => ∃ (k : Nat) (o : List UInt8) (b : Bool), k ≤ s.size ∧ out = .string ⟨o.toArray⟩ ∧ fl = .bool b ∧ i = .int .i64 k ∧ Hid (subTo s k = o) ∧ Hid (filledTo s k = b)) (fun _ _ i => s.size - (intOf i).toNat)
  case atStart => exact ⟨0, [], false, Nat.zero_le _, rfl, rfl, rfl, rfl, rfl⟩
  case round =>
    obtain ⟨k, o, b, hk, rfl, rfl, rfl, ho, hf⟩ := hrel
    have hol : o.length ≤ 300 := by rw [← ho.out, subTo_len]; omega
    by_cases hlt : k < s.size
    · by_cases h10 : bt s k = 10
      · have t : (bt s k == 10) = true := by simp [h10]
        have ho2 : Hid (subTo s (k + 1) = o ++ [32]) := by rw [subTo, ho.out, h10]; rfl
        have hf2 : filledTo s (k + 1) = b := by rw [filledTo, hf.out, h10]; simp
        replace hf2 := Lib.hid hf2
        replace h10 := Lib.hid h10
        go_wp2
        go_round
        case rel => exact ⟨k + 1, _, _, by omega, congrArg Value.string (str_app o [32]), rfl, by go_num, ho2, hf2⟩
        case measure => simp [intOf]; omega
      · have t : (bt s k == 10) = false := by simp [h10]
        have ho2 : Hid (subTo s (k + 1) = o ++ [byteOf (bt s k)]) := by rw [subTo, ho.out, spC, if_neg h10]; rfl
        have hl1 := Lib.hid (one_letter s hlt)
        cases b
        · by_cases h32 : bt s k = 32
          · have t2 : (bt s k == 32) = true := by simp [h32]
            have hf2 : filledTo s (k + 1) = (bt s k != 32) := by rw [filledTo, hf.out, h32]; simp
            replace hf2 := Lib.hid hf2
            replace h10 := Lib.hid h10
            replace h32 := Lib.hid h32
            go_wp2
            go_round
            case rel => exact ⟨k + 1, _, _, by omega, congrArg Value.string ((congrArg (_ ++ ·) hl1.out).trans (str_app _ _)), rfl, by go_num, ho2, hf2⟩
            case measure => simp [intOf]; omega
          · have t2 : (bt s k == 32) = false := by simp [h32]
            have hf2 : filledTo s (k + 1) = (bt s k != 32) := by rw [filledTo, hf.out]; simp [h10, h32]
            replace hf2 := Lib.hid hf2
            replace h10 := Lib.hid h10
            replace h32 := Lib.hid h32
            go_wp2
            go_round
            case rel => exact ⟨k + 1, _, _, by omega, congrArg Value.string ((congrArg (_ ++ ·) hl1.out).trans (str_app _ _)), rfl, by go_num, ho2, hf2⟩
            case measure => simp [intOf]; omega
        · have hf2 : filledTo s (k + 1) = true := by rw [filledTo, hf.out]; rfl
          replace hf2 := Lib.hid hf2
          replace h10 := Lib.hid h10
          go_wp2
          go_round
          case rel => exact ⟨k + 1, _, _, by omega, congrArg Value.string ((congrArg (_ ++ ·) hl1.out).trans (str_app _ _)), rfl, by go_num, ho2, hf2⟩
          case measure => simp [intOf]; omega
    · obtain rfl : k = s.size := by omega
      obtain ⟨X, hX⟩ : ∃ X : ByteArray, X = ⟨o.toArray⟩ := ⟨_, rfl⟩
      have hXs : X = subS s := by rw [hX, ← ho.out]; rfl
      have hz : X.size = s.size := by rw [hXs, size_subS]
      have hm : meantS s = if b = true ∧ 2 ≤ s.size ∧ bt X 0 = 32 ∧ bt X (s.size - 1) = 32 then X.extract 1 (s.size - 1) else X := by
        unfold meantS; rw [hf.out, ← hXs]
      rw [← hX]
      clear hX hXs ho hf hol hb
      have hb := get_bt X
      rw [← hz] at hm
      have hs2 : X.size ≤ 300 := by omega
      clear hz hlt hk hs
      by_cases h2 : 2 ≤ X.size
      · obtain ⟨m, hmz⟩ : ∃ m, X.size = m + 1 := ⟨X.size - 1, by omega⟩
        have hmi : ((X.size : Nat) : Int) = (m : Int) + 1 := by omega
        have e1 : X.size - 1 = m := by omega
        have hlm : m < X.size := by omega
        have hl0 : 0 < X.size := by omega
        rw [e1] at hm
        cases b
        · have hm2 := Lib.hid (hm.trans (if_neg (by simp)))
          clear hm hmz e1
          go_wp2
          go_ret
          exact ⟨ret1 (strEq hm2.out.symm), rfl⟩
        · by_cases t0 : bt X 0 = 32
          · by_cases t1 : bt X m = 32
            · have hm2 := Lib.hid (hm.trans (if_pos ⟨rfl, h2, t0, t1⟩))
              have u0 : (bt X 0 == 32) = true := by simp [t0]
              have u1 : (bt X m == 32) = true := by simp [t1]
              clear hm t0 t1 hmz e1
              go_wp2
              go_ret
              exact ⟨ret1 (strEq hm2.out.symm), rfl⟩
            · have hm2 := Lib.hid (hm.trans (if_neg (fun h => t1 h.2.2.2)))
              have u0 : (bt X 0 == 32) = true := by simp [t0]
              have u1 : (bt X m == 32) = false := by simp [t1]
              clear hm t0 t1 hmz e1
              go_wp2
              go_ret
              exact ⟨ret1 (strEq hm2.out.symm), rfl⟩
          · have hm2 := Lib.hid (hm.trans (if_neg (fun h => t0 h.2.2.1)))
            have u0 : (bt X 0 == 32) = false := by simp [t0]
            clear hm t0 hmz e1
            go_wp2
            go_ret
            exact ⟨ret1 (strEq hm2.out.symm), rfl⟩
      · have hm2 := Lib.hid (hm.trans (if_neg (fun h => h2 h.2.1)))
        clear hm
        cases b
        all_goals
          go_wp2
          go_ret
          exact ⟨ret1 (strEq hm2.out.symm), rfl⟩

/-! ### ReadSpan -/
set_option maxHeartbeats 2000000 in
theorem readSpan_c (s : ByteArray) (i : Nat) (hs : s.size ≤ 300) (hi : i < s.size) (h96 : bt s i = 96) (w : World) :
    Calls Try.prog 14 #[.string s, .int .i64 i] w fun e w1 =>
      (e = match spanFrom s (runEnd tickB s i - i) (runEnd tickB s i) with
        | some p => .returned (.tuple #[.string (meantS (s.extract (runEnd tickB s i) p)), .int .i64 (p + (runEnd tickB s i - i) - i : Nat)])
        | none => .returned (.tuple #[.string ⟨#[]⟩, .int .i64 0])) ∧ w = w1 := by
  have hb := get_bt s
  have hgt := tick_gt hi h96
  have hle := runEnd_le tickB s (i := i) (by omega)
  have c0 := fun w => runLength_c s i (by omega) (by omega) w
  obtain ⟨r, hr⟩ : ∃ r, r = runEnd tickB s i := ⟨_, rfl⟩
  rw [← hr] at hgt hle c0 ⊢
  obtain ⟨n, hn⟩ : ∃ n, n = r - i := ⟨_, rfl⟩
  rw [← hn] at c0 ⊢
  have hrn : i + n = r := by omega
  have hn0 : 0 < n := by omega
  subst hrn
  clear hr hn
  have hn0b : ((n : Int) == 0) = false := by simp; omega
  generalize hG : (match spanFrom s n (i + n) with
        | some p => Ending.returned (.tuple #[.string (meantS (s.extract (i + n) p)), .int .i64 (p + n - i : Nat)])
        | none => .returned (.tuple #[.string ⟨#[]⟩, .int .i64 0])) = G
  replace hG := Lib.hid hG
  replace h96 := Lib.hid h96
  go_enter Try.func14, Try.ntmps14
  go_wp2_with (go_at_call 12; refine (c0 _).mono ?_; rintro e w1 ⟨rfl, rfl⟩)
  go_loop [7] (fun p => ∃ q : Nat, i + n ≤ q ∧ q ≤ s.size ∧ p = .int .i64 q ∧ Hid (spanFrom s n q = spanFrom s n (i + n))) (fun p => s.size - (intOf p).toNat)
  case atStart => exact ⟨i + n, by omega, hle, by go_num, rfl⟩
  case round =>
    obtain ⟨q, hq1, hq2, rfl, hsp⟩ := hrel
    by_cases hlt : q < s.size
    · by_cases hx : bt s q = 96
      · have hgt2 := tick_gt hlt hx
        have hle2 := runEnd_le tickB s (i := q) (by omega)
        have cq := fun w => runLength_c s q (by omega) (by omega) w
        have hhit := fun h => spanFrom_hit (s := s) (n := n) hlt hx h
        have hoth := fun h => spanFrom_other (s := s) (n := n) hlt hx h
        generalize runEnd tickB s q = e at hgt2 hle2 cq hhit hoth
        obtain ⟨m, hm⟩ : ∃ m, m = e - q := ⟨_, rfl⟩
        have hqm : q + m = e := by omega
        rw [← hm] at cq hhit hoth
        subst hqm
        clear hm
        have t : (bt s q != 96) = false := by simp [hx]
        replace hx := Lib.hid hx
        by_cases hmn : m = n
        · have hG2 := hG.out
          rw [← hsp.out, hhit hmn] at hG2
          replace hG2 := Lib.hid hG2
          subst hmn
          clear hhit hoth c0
          have hz : (s.extract (i + m) q).size ≤ 300 := by rw [size_extract]; omega
          go_wp2_with (first | (go_at_call 12; refine (cq _).mono ?_; rintro e w1 ⟨rfl, rfl⟩) | (go_at_call 23; refine (spanText_c _ hz _).mono ?_; rintro e w1 ⟨rfl, rfl⟩))
          go_ret2
          exact ⟨by rw [← hG2.out]; exact ret2 rfl (intEq (by omega)), rfl⟩
        · have hsp2 : Hid (spanFrom s n (q + m) = spanFrom s n (i + n)) := by rw [← hsp.out, hoth hmn]; rfl
          clear hhit hoth c0
          go_wp2_with (go_at_call 12; refine (cq _).mono ?_; rintro e w1 ⟨rfl, rfl⟩)
          go_round
          case rel => exact ⟨q + m, by omega, by omega, by go_num, hsp2⟩
          case measure => simp [intOf]; omega
      · have t : (bt s q != 96) = true := by simp [hx]
        have hsp2 : Hid (spanFrom s n (q + 1) = spanFrom s n (i + n)) := by rw [← hsp.out, spanFrom_skip hlt hx]; rfl
        replace hx := Lib.hid hx
        go_wp2
        go_round
        case rel => exact ⟨q + 1, by omega, by omega, by go_num, hsp2⟩
        case measure => simp [intOf]; omega
    · have hG2 := hG.out
      rw [← hsp.out, spanFrom_end (by omega)] at hG2
      replace hG2 := Lib.hid hG2
      go_wp2
      go_ret2
      exact ⟨hG2.out, rfl⟩
end Go.Proofs.Ytiilhmagepncgaa.W
