/- The walk of normalizeLabel. Condition: the text has at most 2000 bytes, all of them ASCII, and no bracket. -/
import Derived.Test.YtonadaoehhlafaaDoorTrim
import Derived.Test.YtonadaoehhlafaaDoorFind
import Derived.Test.YtonadaoehhlafaaDoorBuild
import Derived.Test.YtonadaoehhlafaaDoorIdx
import Derived.Laws.IdiomStrings
import Derived.Deep.QuietTactic
import Derived.BigQuiet
namespace Go.Proofs.YtonadaoehhlafaaDoor.W
open Go.RowKit Go.PlainAid
set_option linter.unusedVariables false

/-! ### normalizeLabel -/
theorem cell_of_b {c : Int} (h0 : 0 ≤ c) (h1 : c ≤ 255) : [Value.int .u8 c] = Lib.byteCells [byteOf c] := by
  simp only [Lib.byteCells, List.map_cons, List.map_nil, byteOf_toNat h0 h1]

set_option maxHeartbeats 4000000 in
theorem normalize_c (s : ByteArray) (hs : s.size ≤ 2000) (h7 : ∀ k, k < s.size → bt s k ≤ 127 ∧ bt s k ≠ 91 ∧ bt s k ≠ 93) (w : World) :
    Calls Tryd.prog 20 #[.string s] w fun e w1 => e = .returned (.string ⟨(F (bt s) s.size).1.toArray⟩) ∧ Below w.heap.size w w1 := by
  have c1 := fun w => contains_no s 91 (by omega) (fun k hk => (h7 k hk).2.1) w
  have c2 := fun w => contains_no s 93 (by omega) (fun k hk => (h7 k hk).2.2) w
  have c3 := fun w => trim_c s (by omega) w
  have hF := trimS_fold s
  have h127 := trimS_all s (fun c => c ≤ 127) (fun k hk => (h7 k hk).1)
  have hfst := trimS_first s
  have hsz := trimS_size s
  generalize trimS s = T at c3 hF h127 hfst hsz
  have hb := get_bt T
  replace hF := Lib.hid hF
  replace h127 := Lib.hid h127
  replace hfst := Lib.hid hfst
  clear h7
  go_enter Tryd.func20, Tryd.ntmps20
  go_wp2_with (first | (go_at_call 23; refine (c1 _).mono ?_; rintro e w1 ⟨rfl, rfl⟩) | (go_at_call 23; refine (c2 _).mono ?_; rintro e w1 ⟨rfl, rfl⟩) | (go_at_call 24; refine (c3 _).mono ?_; rintro e w1 ⟨rfl, rfl⟩))
  have hI0 := Lib.fresh_isBuilder 36 5 w
  have hB0 : Below w.heap.size w (w.alloc (.cells #[.pointer none, .slice none 0 0] 36)) := (Below.refl _ _).alloc (Nat.le_refl _) _
  go_loopw [4, 5, 6] (fun sp hi i wr => ∃ (k : Nat) (o : List UInt8) (b : Bool), k ≤ T.size ∧ sp = .bool b ∧ hi = .bool false ∧ i = .int .i64 k ∧ Hid (F (bt T) k = (o, b)) ∧ o.length ≤ 4000 ∧ Lib.IsBuilder 36 5 w.heap.size w.heap.size (Lib.byteCells o) wr ∧ Below w.heap.size w wr) (fun _ _ i _ => T.size - (intOf i).toNat)
  case atStart => exact ⟨0, [], false, Nat.zero_le _, rfl, rfl, rfl, rfl, by simp, hI0, hB0⟩
  case round =>
    obtain ⟨k, o, b, hk, rfl, rfl, rfl, hst, hol, hI, hB⟩ := hrel
    have hz := hB.size
    clear hI0 hB0
    by_cases hlt : k < T.size
    · have b0 := bt_nonneg T k
      have b1 : bt T k ≤ 127 := h127.out k hlt
      have hol2 : (F (bt T) (k + 1)).1.length ≤ 4000 := by have := F_len (bt T) (k + 1); omega
      have hblank : blkB (bt T k) = true → F (bt T) (k + 1) = (o, true) := by
        intro hb
        have hk0 : 0 < k := by
          rcases Nat.eq_zero_or_pos k with e | e
          · subst e; rw [hfst.out (by omega)] at hb; cases hb
          · exact e
        obtain ⟨j, rfl⟩ : ∃ j, k = j + 1 := ⟨k - 1, by omega⟩
        have hne := F_ne (bt T) (hfst.out (by omega)) j
        rw [F, stepF, if_pos hb, hst.out]
        rw [hst.out] at hne
        cases o
        · exact absurd rfl hne
        · rfl
      replace hblank := Lib.hid hblank
      rcases blk_tests (bt T k) with ⟨t1, t4⟩ | ⟨t1, t2, t4⟩ | ⟨t1, t2, t3, t4⟩ | ⟨t1, t2, t3, t4⟩
      · have hst2 := Lib.hid (hblank.out t4)
        clear t4 hblank
        go_wp2
        go_roundw
        case rel => exact ⟨k + 1, o, true, by omega, rfl, rfl, by go_num, hst2, hol, hI, hB⟩
        case measure => simp [intOf]; omega
      · have hst2 := Lib.hid (hblank.out t4)
        clear t4 hblank
        go_wp2
        go_roundw
        case rel => exact ⟨k + 1, o, true, by omega, rfl, rfl, by go_num, hst2, hol, hI, hB⟩
        case measure => simp [intOf]; omega
      · have hst2 := Lib.hid (hblank.out t4)
        clear t4 hblank
        go_wp2
        go_roundw
        case rel => exact ⟨k + 1, o, true, by omega, rfl, rfl, by go_num, hst2, hol, hI, hB⟩
        case measure => simp [intOf]; omega
      · have hstep : F (bt T) (k + 1) = (o ++ (if b = true then [32] else []) ++ [byteOf (lowC (bt T k))], false) := by rw [F, stepF, hst.out, t4, if_neg (by simp)]
        have hcell : Hid ([Value.int .u8 (lowC (bt T k))] = Lib.byteCells [byteOf (lowC (bt T k))]) := cell_of_b (low_bd b0 b1).1 (by have := (low_bd b0 b1).2; omega)
        have hcell2 : Hid ([Value.int .u8 32] = Lib.byteCells [32]) := rfl
        clear t4 hblank
        have hlow : (65 ≤ bt T k ∧ bt T k ≤ 90 ∧ Hid (bt T k + 32 = lowC (bt T k))) ∨ (bt T k < 65 ∧ Hid (bt T k = lowC (bt T k))) ∨ (90 < bt T k ∧ Hid (bt T k = lowC (bt T k))) := by
          unfold lowC Hid
          split <;> omega
        cases b
        · have hstep2 : Hid (F (bt T) (k + 1) = (o ++ [byteOf (lowC (bt T k))], false)) := by rw [hstep]; exact congrArg (fun l => (l ++ [byteOf (lowC (bt T k))], false)) (List.append_nil o)
          have hol3 : Hid ((o ++ [byteOf (lowC (bt T k))]).length ≤ 4000) := by rw [hstep2.out] at hol2; exact hol2
          clear hstep hol2
          rcases hlow with ⟨l1, l2, hlow⟩ | ⟨l1, hlow⟩ | ⟨l1, hlow⟩
          all_goals
            go_wp2_with (go_at_call 25; refine (writeByte_c w.heap.size w.heap.size _ _ _ hI (by rw [Lib.byteCells_length]; omega) (by omega)).mono ?_; rintro e w1 ⟨rfl, hI1, hB1⟩)
            go_roundw
            case rel =>
              refine ⟨k + 1, _, false, by omega, rfl, rfl, by go_num, hstep2, hol3.out, ?_, hB.trans hB1⟩
              rw [hlow.out, hcell.out, ← Lib.byteCells_append] at hI1
              exact hI1
            case measure => simp [intOf]; omega
        · have hstep2 : Hid (F (bt T) (k + 1) = (o ++ [32] ++ [byteOf (lowC (bt T k))], false)) := hstep
          have hol3 : Hid ((o ++ [32] ++ [byteOf (lowC (bt T k))]).length ≤ 4000) := by rw [hstep2.out] at hol2; exact hol2
          clear hstep hol2
          rcases hlow with ⟨l1, l2, hlow⟩ | ⟨l1, hlow⟩ | ⟨l1, hlow⟩
          all_goals
            go_wp2_with (first | (go_at_call 25; refine (writeByte_c w.heap.size w.heap.size _ _ _ hI (by rw [Lib.byteCells_length]; omega) (by omega)).mono ?_; rintro e w1 ⟨rfl, hI1, hB1⟩) | (go_at_call 25; refine (writeByte_c w.heap.size w.heap.size _ _ _ hI1 (by rw [List.length_append, Lib.byteCells_length, List.length_singleton]; omega) (by have := hB1.size; omega)).mono ?_; rintro e w2 ⟨rfl, hI2, hB2⟩))
            go_roundw
            case rel =>
              refine ⟨k + 1, _, false, by omega, rfl, rfl, by go_num, hstep2, hol3.out, ?_, hB.trans (hB1.trans hB2)⟩
              rw [hcell2.out, hlow.out, hcell.out, ← Lib.byteCells_append, ← Lib.byteCells_append] at hI2
              exact hI2
            case measure => simp [intOf]; omega
    · obtain rfl : k = T.size := by omega
      go_wp2_with (go_at_call 26; refine (Tryd.Builder_String_any w.heap.size w.heap.size o _ hI (by omega)).mono ?_; rintro e w1 ⟨rfl, hB1⟩)
      go_ret
      exact ⟨ret1 (strEq (by rw [← hF.out, hst.out])), hB.trans hB1⟩
theorem normalize_z (s : ByteArray) (hs : s.size ≤ 2000) (h7 : ∀ k, k < s.size → bt s k ≤ 127 ∧ bt s k ≠ 91 ∧ bt s k ≠ 93) (w : World) :
    Calls Tryd.prog 15 #[.string s] w fun e w1 => e = .returned (.string ⟨(F (bt s) s.size).1.toArray⟩) ∧ Below w.heap.size w w1 := by
  replace h7 := Lib.hid h7
  go_enter Tryd.func15, Tryd.ntmps15
  go_wp2_with (go_at_call 20; refine (normalize_c s hs h7.out _).mono ?_; rintro e w2 ⟨rfl, hB⟩)
  go_ret
  exact ⟨rfl, hB⟩
theorem normalize_i (s : ByteArray) (hs : s.size ≤ 2000) (h7 : ∀ k, k < s.size → bt s k ≤ 127 ∧ bt s k ≠ 91 ∧ bt s k ≠ 93) (w : World) :
    Calls Tryd.prog 8 #[.string s] w fun e w1 => e = .returned (.string ⟨(F (bt s) s.size).1.toArray⟩) ∧ Below w.heap.size w w1 := by
  replace h7 := Lib.hid h7
  go_enter Tryd.func8, Tryd.ntmps8
  go_wp2_with (go_at_call 15; refine (normalize_z s hs h7.out _).mono ?_; rintro e w2 ⟨rfl, hB⟩)
  go_ret
  exact ⟨rfl, hB⟩
end Go.Proofs.YtonadaoehhlafaaDoor.W
