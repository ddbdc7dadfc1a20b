/- Walks of strings.HasPrefix, and of parseAutoProto at an address with its scheme. Condition: the text has at most 300 bytes. -/
import Derived.Test.YtfnhikhgkkopfaaGreatDoorAuto
import Derived.Test.YtfnhikhgkkopfaaGreatDoorAt
namespace Go.Proofs.YtfnhikhgkkopfaaGreatDoor.W
open Go.RowKit Go.PlainAid
set_option linter.unusedVariables false

theorem pre_yes (s t : ByteArray) (hs : s.size ≤ 2147483647) (ht : t.size ≤ 2147483647) (h : AtS s t 0) (w : World) :
    Calls Tryz.prog 29 #[.string s, .string t] w fun e w1 => e = .returned (.bool true) ∧ w = w1 := by
  have hz0 := h.1
  have e1 : ((s.extract 0 t.size).toList == t.toList) = true := by
    have := h.2
    rw [Nat.zero_add] at this
    rw [this]; simp
  clear h
  go_enter Tryz.func29, Tryz.ntmps29
  go_wp2
  go_ret
  exact ⟨rfl, rfl⟩
theorem pre_no (s t : ByteArray) (hs : s.size ≤ 2147483647) (ht : t.size ≤ 2147483647) (hz : t.size ≤ s.size) (h : ¬ AtS s t 0) (w : World) :
    Calls Tryz.prog 29 #[.string s, .string t] w fun e w1 => e = .returned (.bool false) ∧ w = w1 := by
  have e1 : ((s.extract 0 t.size).toList == t.toList) = false := by
    rw [beq_eq_false_iff_ne]
    intro e
    exact h ⟨by omega, by rw [Nat.zero_add]; exact str_of_list e⟩
  clear h
  go_enter Tryz.func29, Tryz.ntmps29
  go_wp2
  go_ret
  exact ⟨rfl, rfl⟩
def httpS : ByteArray := ⟨#[104, 116, 116, 112, 58, 47, 47]⟩
def httpsS : ByteArray := ⟨#[104, 116, 116, 112, 115, 58, 47, 47]⟩
theorem not_https {s : ByteArray} {p : Nat} (h : AtS s httpS p) : ¬ AtS s httpsS p := fun h2 => by
  have a := atS_bt h (k := 4) (by decide)
  have b := atS_bt h2 (k := 4) (by decide)
  rw [a] at b
  revert b
  decide

set_option maxHeartbeats 1000000 in
set_option maxRecDepth 100000 in
theorem parseAutoProto7 (s : ByteArray) (p d E vb : Nat) (c : Int) (pv : Value) (w : World) (hs : s.size ≤ 300) (hU : Url s p 7 d E) (hA : AtS s httpS p)
    (hc0 : w.cell? ⟨vb, 0, none⟩ = some (.string s)) (hc1 : w.cell? ⟨vb, 1, none⟩ = some (.int .i64 c)) (hc : c ≤ 0) :
    Calls Tryz.prog 26 #[pv, .string s, .int .i64 p, .pointer (some ⟨vb, 0, none⟩)] w (AutoSaid s p E w) := by
  have hb := get_bt s
  have hpz : p + 7 + 2 < s.size := by have := hU.d0; have := hU.d1; have := hU.e0; omega
  have t1 : (bt s p == 104) = true := by
    have := atS_bt hA (k := 0) (by decide)
    rw [Nat.add_zero] at this
    rw [this]; decide
  have hemp : s.toList.isEmpty = false := by
    rw [Bool.eq_false_iff]
    intro e
    rw [ByteArray.toList_eq, List.isEmpty_iff] at e
    have h0 : s.size = 0 := by
      have := congrArg List.length e
      simpa using this
    omega
  have cA := Lib.hid (fun w h0 h1 => parseAutoHTTP7 s p d E vb c pv w hs hU h0 h1 hc)
  have cN := Lib.hid (fun w => pre_no (s.extract p s.size) ⟨#[104, 116, 116, 112, 115, 58, 47, 47]⟩ (by rw [size_extract]; omega) (by decide) (by rw [size_extract]; show 8 ≤ min s.size s.size - p; omega) (fun h => not_https hA ((atS_tail (by omega)).1 h)) w)
  have cP := Lib.hid (fun w => pre_yes (s.extract p s.size) ⟨#[104, 116, 116, 112, 58, 47, 47]⟩ (by rw [size_extract]; omega) (by decide) ((atS_tail (by omega)).2 hA) w)
  clear hU hA
  go_enter Tryz.func26, Tryz.ntmps26
  go_wp2_with (first | (go_at_call 29; (with_reducible refine (cN.out _).mono ?_); rintro e w1 ⟨rfl, rfl⟩) | (go_at_call 29; (with_reducible refine (cP.out _).mono ?_); rintro e w1 ⟨rfl, rfl⟩) | (go_at_call 30; refine (cA.out _ hc0 hc1).mono ?_; rintro e w1 ⟨lb, rfl, hB, hL⟩))
  go_ret3
  exact ⟨lb, rfl, hB, hL⟩

set_option maxHeartbeats 1000000 in
set_option maxRecDepth 100000 in
theorem parseAutoProto8 (s : ByteArray) (p d E vb : Nat) (c : Int) (pv : Value) (w : World) (hs : s.size ≤ 300) (hU : Url s p 8 d E) (hA : AtS s httpsS p)
    (hc0 : w.cell? ⟨vb, 0, none⟩ = some (.string s)) (hc1 : w.cell? ⟨vb, 1, none⟩ = some (.int .i64 c)) (hc : c ≤ 0) :
    Calls Tryz.prog 26 #[pv, .string s, .int .i64 p, .pointer (some ⟨vb, 0, none⟩)] w (AutoSaid s p E w) := by
  have hb := get_bt s
  have hpz : p + 8 + 2 < s.size := by have := hU.d0; have := hU.d1; have := hU.e0; omega
  have t1 : (bt s p == 104) = true := by
    have := atS_bt hA (k := 0) (by decide)
    rw [Nat.add_zero] at this
    rw [this]; decide
  have hemp : s.toList.isEmpty = false := by
    rw [Bool.eq_false_iff]
    intro e
    rw [ByteArray.toList_eq, List.isEmpty_iff] at e
    have h0 : s.size = 0 := by
      have := congrArg List.length e
      simpa using this
    omega
  have cA := Lib.hid (fun w h0 h1 => parseAutoHTTP8 s p d E vb c pv w hs hU h0 h1 hc)
  have cP := Lib.hid (fun w => pre_yes (s.extract p s.size) ⟨#[104, 116, 116, 112, 115, 58, 47, 47]⟩ (by rw [size_extract]; omega) (by decide) ((atS_tail (by omega)).2 hA) w)
  clear hU hA
  go_enter Tryz.func26, Tryz.ntmps26
  go_wp2_with (first | (go_at_call 29; refine (cP.out _).mono ?_; rintro e w1 ⟨rfl, rfl⟩) | (go_at_call 30; refine (cA.out _ hc0 hc1).mono ?_; rintro e w1 ⟨lb, rfl, hB, hL⟩))
  go_ret3
  exact ⟨lb, rfl, hB, hL⟩
end Go.Proofs.YtfnhikhgkkopfaaGreatDoor.W
