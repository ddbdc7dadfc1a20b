/- Walks of the reference's named, OtherName and numeric. Condition: the text has at most 2147483647 bytes. -/
import Derived.Test.YthgdgpoblbblpaaGreatDoorEntName
import Derived.Test.YthgdgpoblbblpaaGreatDoorEntPlain
import Derived.Test.YthgdgpoblbblpaaGreatDoorRet
import Derived.Test.YthgdgpoblbblpaaGreatDoorRows
namespace Go.Proofs.YthgdgpoblbblpaaGreatDoor.W
open Go.RowKit Go.PlainAid
set_option linter.unusedVariables false

theorem listEq {t : ByteArray} {l : List UInt8} (h : (t.toList == l) = true) : t = ⟨l.toArray⟩ := by
  have := beq_iff_eq.1 h
  rw [ByteArray.toList_eq] at this
  subst this
  rfl
theorem listNe {t : ByteArray} {l : List UInt8} (h : (t.toList == l) = false) : t ≠ ⟨l.toArray⟩ := fun e => by
  subst e
  rw [ByteArray.toList_eq] at h
  simp at h
theorem named1 {t : ByteArray} (h : (t.toList == [97, 109, 112]) = true) : ⟨#[38]⟩ = namedS t := by rw [listEq h]; rfl
theorem named2 {t : ByteArray} (h : (t.toList == [108, 116]) = true) : ⟨#[60]⟩ = namedS t := by rw [listEq h]; rfl
theorem named3 {t : ByteArray} (h : (t.toList == [103, 116]) = true) : ⟨#[62]⟩ = namedS t := by rw [listEq h]; rfl
theorem named4 {t : ByteArray} (h : (t.toList == [113, 117, 111, 116]) = true) : ⟨#[34]⟩ = namedS t := by rw [listEq h]; rfl
theorem named5 {t : ByteArray} (h1 : (t.toList == [97, 109, 112]) = false) (h2 : (t.toList == [108, 116]) = false) (h3 : (t.toList == [103, 116]) = false) (h4 : (t.toList == [113, 117, 111, 116]) = false) : ⟨#[]⟩ = namedS t := by
  unfold namedS
  rw [if_neg (listNe h1), if_neg (listNe h2), if_neg (listNe h3), if_neg (listNe h4)]
set_option maxHeartbeats 400000 in
theorem named_c (t : ByteArray) (w : World) :
    Calls Tryz.prog 11 #[.string t] w fun e w1 => e = .returned (.string (namedS t)) ∧ w = w1 := by
  go_enter Tryz.func11, Tryz.ntmps11
  go_wp2
  · go_ret; exact ⟨ret1 (strEq (named1 ‹_›)), rfl⟩
  · go_ret; exact ⟨ret1 (strEq (named2 ‹_›)), rfl⟩
  · go_ret; exact ⟨ret1 (strEq (named3 ‹_›)), rfl⟩
  · go_ret; exact ⟨ret1 (strEq (named4 ‹_›)), rfl⟩
  · go_ret; exact ⟨ret1 (strEq (named5 ‹(t.toList == [97, 109, 112]) = false› ‹(t.toList == [108, 116]) = false› ‹(t.toList == [103, 116]) = false› ‹(t.toList == [113, 117, 111, 116]) = false›)), rfl⟩

theorem ldB_split {c : Int} (h : ldB c = true) (h1 : letB c = false) : digB c = true := by
  have a := (ldB_iff c).1 h
  have b : ¬ letB c = true := by rw [h1]; decide
  rw [letB_iff] at b
  rw [digB_iff]
  omega
theorem ldB_none {c : Int} (h : ldB c = false) : letB c = false ∧ digB c = false := by
  have a : ¬ ldB c = true := by rw [h]; decide
  rw [ldB_iff] at a
  constructor
  · rw [Bool.eq_false_iff, Ne, letB_iff]; omega
  · rw [Bool.eq_false_iff, Ne, digB_iff]; omega

def NoTo (s : ByteArray) (n : Nat) : Prop := ∀ i, i < n → bt s i = 38 → i + 1 < runEnd ldB s (i + 1) → runEnd ldB s (i + 1) < s.size → bt s (runEnd ldB s (i + 1)) = 59 → namedS (s.extract (i + 1) (runEnd ldB s (i + 1))) ≠ ⟨#[]⟩
theorem NoTo.succ {s : ByteArray} {n : Nat} (h : NoTo s n) (h1 : bt s n = 38 → n + 1 < runEnd ldB s (n + 1) → runEnd ldB s (n + 1) < s.size → bt s (runEnd ldB s (n + 1)) = 59 → namedS (s.extract (n + 1) (runEnd ldB s (n + 1))) ≠ ⟨#[]⟩) : NoTo s (n + 1) := fun i hi => by
  by_cases e : i = n
  · subst e; exact h1
  · exact h i (by omega)
theorem emptyNo {t : ByteArray} (h : t.toList.isEmpty = false) : t ≠ ⟨#[]⟩ := fun e => by subst e; simp [ByteArray.toList_eq] at h

def OtherSaid (s : ByteArray) (w : World) (e : Ending) (w1 : World) : Prop := ∃ b, e = .returned (.bool b) ∧ Hid (b = false → NoOther s) ∧ w = w1
set_option maxHeartbeats 1000000 in
set_option maxRecDepth 100000 in
theorem other_c (s : ByteArray) (hs : s.size ≤ 2147483647) (w : World) :
    Calls Tryz.prog 5 #[.string s] w (OtherSaid s w) := by
  have hb := get_bt s
  go_enter Tryz.func5, Tryz.ntmps5
  go_wp2_with fail
  go_loop [3] (fun v => ∃ k : Nat, k ≤ s.size ∧ v = .int .i64 k ∧ Hid (NoTo s k)) (fun v => s.size - (intOf v).toNat)
  case atStart => exact ⟨0, Nat.zero_le _, rfl, fun i hi => by omega⟩
  case round =>
    obtain ⟨k, hk, rfl, hN⟩ := hrel
    by_cases hlt : k < s.size
    · by_cases h38 : bt s k = 38
      · have t38 : (bt s k != 38) = false := by simp [h38]
        obtain ⟨E, hE⟩ : ∃ E, Hid (runEnd ldB s (k + 1) = E) := ⟨_, rfl⟩
        have hE1 : k + 1 ≤ E := by rw [← hE.out]; exact runEnd_ge _ _ _
        have hE2 : E ≤ s.size := by rw [← hE.out]; exact runEnd_le _ _ (by omega)
        clear h38
        go_wp2_with fail
        go_loop [4] (fun v => ∃ j : Nat, k + 1 ≤ j ∧ j ≤ E ∧ v = .int .i64 j) (fun v => s.size - (intOf v).toNat)
        case atStart => exact ⟨k + 1, by omega, hE1, by go_num⟩
        case round =>
          obtain ⟨j, hj1, hj2, rfl⟩ := hrel
          by_cases hjE : j < E
          · have hld : ldB (bt s j) = true := runEnd_in hj1 (by rw [hE.out]; exact hjE)
            cases hl : letB (bt s j)
            · have hd := ldB_split hld hl
              clear hld
              go_wp2_with (first | (go_at_call 9; refine (IsLetter_c _ _).mono ?_; rintro e w1 ⟨rfl, rfl⟩; rw [hl]) | (go_at_call 10; refine (IsDigit_c _ _).mono ?_; rintro e w1 ⟨rfl, rfl⟩; rw [hd]))
              go_round
              case rel => exact ⟨j + 1, by omega, by omega, by go_num⟩
              case measure => simp [intOf]; omega
            · clear hld
              go_wp2_with (first | (go_at_call 9; refine (IsLetter_c _ _).mono ?_; rintro e w1 ⟨rfl, rfl⟩; rw [hl]))
              go_round
              case rel => exact ⟨j + 1, by omega, by omega, by go_num⟩
              case measure => simp [intOf]; omega
          · obtain rfl : j = E := by omega
            by_cases hz : j < s.size
            · have hno : ldB (bt s j) = false := by have := runEnd_at (p := ldB) (s := s) (i := k + 1) (by omega) (by rw [hE.out]; exact hz); rw [hE.out] at this; exact this
              obtain ⟨hl, hd⟩ := ldB_none hno
              clear hno
              go_wp2_with (first | (go_at_call 9; refine (IsLetter_c _ _).mono ?_; rintro e w1 ⟨rfl, rfl⟩; rw [hl]) | (go_at_call 10; refine (IsDigit_c _ _).mono ?_; rintro e w1 ⟨rfl, rfl⟩; rw [hd]) | (go_at_call 11; refine (named_c _ _).mono ?_; rintro e w1 ⟨rfl, rfl⟩))
              all_goals first
                | (go_ret; exact ⟨true, rfl, (fun h => by cases h), rfl⟩)
                | (go_round
                   case rel => exact ⟨k + 1, by omega, by go_num, hN.out.succ fun _ a b c => by rw [hE.out] at a b c ⊢; first | exact emptyNo ‹_› | exact absurd c ‹_› | omega⟩
                   case measure => simp [intOf]; omega)
            · go_wp2_with fail
              all_goals first
                | (go_ret; exact ⟨true, rfl, (fun h => by cases h), rfl⟩)
                | (go_round
                   case rel => exact ⟨k + 1, by omega, by go_num, hN.out.succ fun _ a b c => by rw [hE.out] at a b c ⊢; first | exact emptyNo ‹_› | exact absurd c ‹_› | omega⟩
                   case measure => simp [intOf]; omega)
      · have t38 : (bt s k != 38) = true := by simp [h38]
        replace h38 := Lib.hid h38
        go_wp2_with fail
        go_round
        case rel => exact ⟨k + 1, by omega, by go_num, hN.out.succ fun h => absurd h h38.out⟩
        case measure => simp [intOf]; omega
    · obtain rfl : k = s.size := by omega
      go_wp2_with fail
      go_ret
      exact ⟨_, rfl, fun _ => hN.out, rfl⟩
end Go.Proofs.YthgdgpoblbblpaaGreatDoor.W
