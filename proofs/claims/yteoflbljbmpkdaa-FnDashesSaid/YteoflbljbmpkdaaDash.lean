/- Walks of parseDash at two and at three hyphens, and of the doors to it. Condition: the text has at most 300 bytes. -/
import Derived.Test.YteoflbljbmpkdaaPNode
namespace Go.Proofs.Yteoflbljbmpkdaa.W
open Go.RowKit Go.PlainAid
set_option linter.unusedVariables false

set_option maxRecDepth 100000 in
theorem repeat_0 (t : ByteArray) (w : World) : Calls Try.prog 28 #[.string t, .int .i64 0] w fun e w1 => e = .returned (.string ⟨#[]⟩) ∧ w = w1 := by
  go_enter Try.func28, Try.ntmps28
  go_wp2
  go_ret
  exact ⟨rfl, rfl⟩
set_option maxRecDepth 100000 in
theorem repeat_1 (t : ByteArray) (w : World) : Calls Try.prog 28 #[.string t, .int .i64 1] w fun e w1 => e = .returned (.string t) ∧ w = w1 := by
  go_enter Try.func28, Try.ntmps28
  go_wp2
  go_ret
  exact ⟨rfl, rfl⟩

set_option maxHeartbeats 1000000 in
set_option maxRecDepth 100000 in
theorem dash2_c (s : ByteArray) (i : Nat) (hs : s.size ≤ 300) (hz : i + 2 ≤ s.size) (hd : ∀ j, j < 2 → bt s (i + j) = 45) (hn : i + 2 < s.size → bt s (i + 2) ≠ 45) (pv : Value) (w : World) :
    Calls Try.prog 21 #[pv, .string s, .int .i64 i] w fun e w1 => ∃ b, Below w.heap.size w w1 ∧ b < w1.heap.size ∧ e = .returned (.tuple #[.iface 59 (.pointer (some ⟨b, 0, none⟩)), .int .i64 i, .int .i64 (i + 2 : Nat), .bool true]) ∧ w1.cell? ⟨b, 0, none⟩ = some (.string ⟨#[226, 128, 147]⟩) := by
  have hb := get_bt s
  have t1 : (bt s (i + 1) == 45) = true := by rw [hd 1 (by omega)]; rfl
  have t1n : (bt s (i + 1) != 45) = false := by rw [bne, t1]; rfl
  have hz1 : i + 1 < s.size := by omega
  have u4 : decide ((s.size : Int) ≤ (i : Int) + 1) = false := by simp only [decide_eq_false_iff_not]; omega
  have hex : (i + 2 < s.size ∧ (bt s (i + 2) == 45) = false) ∨ s.size ≤ i + 2 := by
    by_cases h : i + 2 < s.size
    · exact .inl ⟨h, beq_eq_false_iff_ne.2 (hn h)⟩
    · exact .inr (by omega)
  clear hd hn
  obtain ⟨E, hE⟩ : ∃ E : ByteArray, Hid (E = ⟨#[]⟩) := ⟨_, rfl⟩
  obtain ⟨D, hD⟩ : ∃ D : ByteArray, Hid (D = ⟨#[226, 128, 147]⟩) := ⟨_, rfl⟩
  have hEz : E.size ≤ 3 := by rw [hE.out]; decide
  have hDz : D.size ≤ 3 := by rw [hD.out]; decide
  have c0 : Hid (∀ t w, Calls Try.prog 28 #[.string t, .int .i64 0] w fun e w1 => e = .returned (.string E) ∧ w = w1) := fun t w => by rw [hE.out]; exact repeat_0 t w
  have c1 : Hid (∀ w, Calls Try.prog 28 #[.string ⟨#[226, 128, 147]⟩, .int .i64 1] w fun e w1 => e = .returned (.string D) ∧ w = w1) := fun w => by rw [hD.out]; exact repeat_1 _ w
  have hED : Hid ((E ++ D) = ⟨#[226, 128, 147]⟩) := by show E ++ D = ⟨#[226, 128, 147]⟩; rw [hE.out, hD.out]; rfl
  clear hE hD
  rcases hex with ⟨hx, t3⟩ | hx
  all_goals
    go_enter Try.func21, Try.ntmps21
    go_wp2_with fail
    go_loop [10] (fun v => v = .int .i64 2) (fun v => 10 - (intOf v).toNat)
    case atStart => rfl
    case round =>
      subst hrel
      go_wp2_with (first | (go_at_call 28; (with_reducible refine (c0.out _ _).mono ?_); rintro e w1 ⟨rfl, rfl⟩) | (go_at_call 28; (with_reducible refine (c1.out _).mono ?_); rintro e w1 ⟨rfl, rfl⟩))
      refine bodyPost_ret (results_tmp4 rfl _ _ _) rfl ?_
      refine ⟨w.heap.size, (Below.refl _ _).alloc (Nat.le_refl _) _, by simp, ret4 rfl rfl (intEq (by omega)) rfl, ?_⟩
      rw [World.cell?_alloc_at _ _ _ _ rfl, ← hED.out]
      rfl

theorem zzDash2_c (s : ByteArray) (i : Nat) (hs : s.size ≤ 300) (hz : i + 2 ≤ s.size) (hd : ∀ j, j < 2 → bt s (i + j) = 45) (hn : i + 2 < s.size → bt s (i + 2) ≠ 45) (w : World) :
    Calls Try.prog 16 #[.string s, .int .i64 i] w fun e w1 => ∃ b, Below w.heap.size w w1 ∧ b < w1.heap.size ∧ e = .returned (.tuple #[.iface 59 (.pointer (some ⟨b, 0, none⟩)), .int .i64 i, .int .i64 (i + 2 : Nat), .bool true]) ∧ w1.cell? ⟨b, 0, none⟩ = some (.string ⟨#[226, 128, 147]⟩) := by
  replace hd := Lib.hid hd
  replace hn := Lib.hid hn
  go_enter Try.func16, Try.ntmps16
  go_wp2_with (first | (go_at_call 18; refine (state_c _).mono ?_; rintro e w1 ⟨b, rfl, hB⟩) | (go_at_call 21; refine (dash2_c s i hs hz hd.out hn.out _ _).mono ?_; rintro e w2 ⟨b2, hB2, hb2, rfl, hcell⟩))
  refine bodyPost_ret (results_tmp4 rfl _ _ _) rfl ?_
  exact ⟨b2, hB.trans (hB2.mono hB.size), hb2, ret4 rfl rfl (intEq (by omega)) rfl, hcell⟩

set_option maxHeartbeats 1000000 in
set_option maxRecDepth 100000 in
theorem implDash2 (s : ByteArray) (i : Nat) (hs : s.size ≤ 300) (hz : i + 2 ≤ s.size) (hd : ∀ j, j < 2 → bt s (i + j) = 45) (hn : i + 2 < s.size → bt s (i + 2) ≠ 45) (w : World) :
    Calls Try.prog 10 #[.string s, .int .i64 i] w fun e w1 => e = .returned (.tuple #[.agg #[.int .i64 20, .string ⟨#[226, 128, 147]⟩, .string ⟨#[]⟩, .int .i64 0, .string ⟨#[]⟩, .bool false, .slice none 0 0, .slice none 0 0, .int .i64 0, .int .i64 0, .string ⟨#[]⟩, .int .i64 0, .bool false, .bool false, .bool false, .slice none 0 0], .int .i64 i, .int .i64 (i + 2 : Nat), .bool true]) ∧ Below w.heap.size w w1 := by
  replace hd := Lib.hid hd
  replace hn := Lib.hid hn
  obtain ⟨y, hy⟩ : ∃ y : ByteArray, Hid (y = ⟨#[226, 128, 147]⟩) := ⟨_, rfl⟩
  have cz : Hid (∀ w, Calls Try.prog 16 #[.string s, .int .i64 i] w fun e w1 => ∃ b, Below w.heap.size w w1 ∧ b < w1.heap.size ∧ e = .returned (.tuple #[.iface 59 (.pointer (some ⟨b, 0, none⟩)), .int .i64 i, .int .i64 (i + 2 : Nat), .bool true]) ∧ w1.cell? ⟨b, 0, none⟩ = some (.string y)) := fun w => by
    rw [hy.out]; exact zzDash2_c s i hs hz hd.out hn.out w
  rw [← hy.out]
  clear hd hn
  go_enter Try.func10, Try.ntmps10
  go_wp2_with (first | (go_at_call 16; refine (cz.out _).mono ?_; rintro e w2 ⟨b2, hB2, hb2, rfl, hcell⟩) | (go_at_call 12; refine (two_plain b2 _ _ _ _ hb2 hcell).mono ?_; rintro e w3 ⟨rfl, hB3⟩; have c0 : w3.cell? ⟨w.heap.size, 0, none⟩ = some (.int .i64 0) := heldCell hB2 hB3 0; have f0 := heldFrozen hB2 hB3 0; have c1 : w3.cell? ⟨w.heap.size, 1, none⟩ = some (.string ⟨#[]⟩) := heldCell hB2 hB3 1; have f1 := heldFrozen hB2 hB3 1; have c2 : w3.cell? ⟨w.heap.size, 2, none⟩ = some (.string ⟨#[]⟩) := heldCell hB2 hB3 2; have f2 := heldFrozen hB2 hB3 2; have c3 : w3.cell? ⟨w.heap.size, 3, none⟩ = some (.int .i64 0) := heldCell hB2 hB3 3; have f3 := heldFrozen hB2 hB3 3; have c4 : w3.cell? ⟨w.heap.size, 4, none⟩ = some (.string ⟨#[]⟩) := heldCell hB2 hB3 4; have f4 := heldFrozen hB2 hB3 4; have c5 : w3.cell? ⟨w.heap.size, 5, none⟩ = some (.bool false) := heldCell hB2 hB3 5; have f5 := heldFrozen hB2 hB3 5; have c6 : w3.cell? ⟨w.heap.size, 6, none⟩ = some (.slice none 0 0) := heldCell hB2 hB3 6; have f6 := heldFrozen hB2 hB3 6; have c7 : w3.cell? ⟨w.heap.size, 7, none⟩ = some (.slice none 0 0) := heldCell hB2 hB3 7; have f7 := heldFrozen hB2 hB3 7; have c8 : w3.cell? ⟨w.heap.size, 8, none⟩ = some (.int .i64 0) := heldCell hB2 hB3 8; have f8 := heldFrozen hB2 hB3 8; have c9 : w3.cell? ⟨w.heap.size, 9, none⟩ = some (.int .i64 0) := heldCell hB2 hB3 9; have f9 := heldFrozen hB2 hB3 9; have c10 : w3.cell? ⟨w.heap.size, 10, none⟩ = some (.string ⟨#[]⟩) := heldCell hB2 hB3 10; have f10 := heldFrozen hB2 hB3 10; have c11 : w3.cell? ⟨w.heap.size, 11, none⟩ = some (.int .i64 0) := heldCell hB2 hB3 11; have f11 := heldFrozen hB2 hB3 11; have c12 : w3.cell? ⟨w.heap.size, 12, none⟩ = some (.bool false) := heldCell hB2 hB3 12; have f12 := heldFrozen hB2 hB3 12; have c13 : w3.cell? ⟨w.heap.size, 13, none⟩ = some (.bool false) := heldCell hB2 hB3 13; have f13 := heldFrozen hB2 hB3 13; have c14 : w3.cell? ⟨w.heap.size, 14, none⟩ = some (.bool false) := heldCell hB2 hB3 14; have f14 := heldFrozen hB2 hB3 14; have c15 : w3.cell? ⟨w.heap.size, 15, none⟩ = some (.slice none 0 0) := heldCell hB2 hB3 15; have f15 := heldFrozen hB2 hB3 15))
  have hBB := heldBelow hB2 hB3
  have hsome : ∀ j, j < 16 → (w3.cell? ⟨w.heap.size, 0 + j, none⟩).isSome = true := fun j hj => by
    rw [Nat.zero_add, heldCell hB2 hB3 j]; simp; omega
  have hch : w3.setCells w.heap.size 0 [.int .i64 20, .string y, .string ⟨#[]⟩, .int .i64 0, .string ⟨#[]⟩, .bool false, .slice none 0 0, .slice none 0 0, .int .i64 0, .int .i64 0, .string ⟨#[]⟩, .int .i64 0, .bool false, .bool false, .bool false, .slice none 0 0] = ((((((((((((((((w3.setCell ⟨w.heap.size, 0, none⟩ (.int .i64 20)).setCell ⟨w.heap.size, 1, none⟩ (.string y)).setCell ⟨w.heap.size, 2, none⟩ (.string ⟨#[]⟩)).setCell ⟨w.heap.size, 3, none⟩ (.int .i64 0)).setCell ⟨w.heap.size, 4, none⟩ (.string ⟨#[]⟩)).setCell ⟨w.heap.size, 5, none⟩ (.bool false)).setCell ⟨w.heap.size, 6, none⟩ (.slice none 0 0)).setCell ⟨w.heap.size, 7, none⟩ (.slice none 0 0)).setCell ⟨w.heap.size, 8, none⟩ (.int .i64 0)).setCell ⟨w.heap.size, 9, none⟩ (.int .i64 0)).setCell ⟨w.heap.size, 10, none⟩ (.string ⟨#[]⟩)).setCell ⟨w.heap.size, 11, none⟩ (.int .i64 0)).setCell ⟨w.heap.size, 12, none⟩ (.bool false)).setCell ⟨w.heap.size, 13, none⟩ (.bool false)).setCell ⟨w.heap.size, 14, none⟩ (.bool false)).setCell ⟨w.heap.size, 15, none⟩ (.slice none 0 0)) := by
    simp only [World.setCells, Nat.reduceAdd]
  refine worldEq hch.symm ?_
  have hBW := belowSets hBB [.int .i64 20, .string y, .string ⟨#[]⟩, .int .i64 0, .string ⟨#[]⟩, .bool false, .slice none 0 0, .slice none 0 0, .int .i64 0, .int .i64 0, .string ⟨#[]⟩, .int .i64 0, .bool false, .bool false, .bool false, .slice none 0 0] 0
  have hin := World.cell?_setCells_in w.heap.size [.int .i64 20, .string y, .string ⟨#[]⟩, .int .i64 0, .string ⟨#[]⟩, .bool false, .slice none 0 0, .slice none 0 0, .int .i64 0, .int .i64 0, .string ⟨#[]⟩, .int .i64 0, .bool false, .bool false, .bool false, .slice none 0 0] 0 w3 hsome
  clear hch
  generalize w3.setCells w.heap.size 0 [.int .i64 20, .string y, .string ⟨#[]⟩, .int .i64 0, .string ⟨#[]⟩, .bool false, .slice none 0 0, .slice none 0 0, .int .i64 0, .int .i64 0, .string ⟨#[]⟩, .int .i64 0, .bool false, .bool false, .bool false, .slice none 0 0] = W at hBW hin
  have d0 : W.cell? ⟨w.heap.size, 0, none⟩ = some (.int .i64 20) := hin 0 (by simp); have d1 : W.cell? ⟨w.heap.size, 1, none⟩ = some (.string y) := hin 1 (by simp); have d2 : W.cell? ⟨w.heap.size, 2, none⟩ = some (.string ⟨#[]⟩) := hin 2 (by simp); have d3 : W.cell? ⟨w.heap.size, 3, none⟩ = some (.int .i64 0) := hin 3 (by simp); have d4 : W.cell? ⟨w.heap.size, 4, none⟩ = some (.string ⟨#[]⟩) := hin 4 (by simp); have d5 : W.cell? ⟨w.heap.size, 5, none⟩ = some (.bool false) := hin 5 (by simp); have d6 : W.cell? ⟨w.heap.size, 6, none⟩ = some (.slice none 0 0) := hin 6 (by simp); have d7 : W.cell? ⟨w.heap.size, 7, none⟩ = some (.slice none 0 0) := hin 7 (by simp); have d8 : W.cell? ⟨w.heap.size, 8, none⟩ = some (.int .i64 0) := hin 8 (by simp); have d9 : W.cell? ⟨w.heap.size, 9, none⟩ = some (.int .i64 0) := hin 9 (by simp); have d10 : W.cell? ⟨w.heap.size, 10, none⟩ = some (.string ⟨#[]⟩) := hin 10 (by simp); have d11 : W.cell? ⟨w.heap.size, 11, none⟩ = some (.int .i64 0) := hin 11 (by simp); have d12 : W.cell? ⟨w.heap.size, 12, none⟩ = some (.bool false) := hin 12 (by simp); have d13 : W.cell? ⟨w.heap.size, 13, none⟩ = some (.bool false) := hin 13 (by simp); have d14 : W.cell? ⟨w.heap.size, 14, none⟩ = some (.bool false) := hin 14 (by simp); have d15 : W.cell? ⟨w.heap.size, 15, none⟩ = some (.slice none 0 0) := hin 15 (by simp)
  clear hin
  refine bodyPost_ret (v := .tuple #[.agg #[.int .i64 20, .string y, .string ⟨#[]⟩, .int .i64 0, .string ⟨#[]⟩, .bool false, .slice none 0 0, .slice none 0 0, .int .i64 0, .int .i64 0, .string ⟨#[]⟩, .int .i64 0, .bool false, .bool false, .bool false, .slice none 0 0], .int .i64 i, .int .i64 (i + 2 : Nat), .bool true]) (by simp [results, Try.results10, go_sem, d0, d1, d2, d3, d4, d5, d6, d7, d8, d9, d10, d11, d12, d13, d14, d15]) rfl ⟨rfl, ?_⟩
  exact hBW

set_option maxHeartbeats 1000000 in
set_option maxRecDepth 100000 in
theorem dash3_c (s : ByteArray) (i : Nat) (hs : s.size ≤ 300) (hz : i + 3 ≤ s.size) (hd : ∀ j, j < 3 → bt s (i + j) = 45) (hn : i + 3 < s.size → bt s (i + 3) ≠ 45) (pv : Value) (w : World) :
    Calls Try.prog 21 #[pv, .string s, .int .i64 i] w fun e w1 => ∃ b, Below w.heap.size w w1 ∧ b < w1.heap.size ∧ e = .returned (.tuple #[.iface 59 (.pointer (some ⟨b, 0, none⟩)), .int .i64 i, .int .i64 (i + 3 : Nat), .bool true]) ∧ w1.cell? ⟨b, 0, none⟩ = some (.string ⟨#[226, 128, 148]⟩) := by
  have hb := get_bt s
  have t1 : (bt s (i + 1) == 45) = true := by rw [hd 1 (by omega)]; rfl
  have t1n : (bt s (i + 1) != 45) = false := by rw [bne, t1]; rfl
  have hz1 : i + 1 < s.size := by omega
  have u4 : decide ((s.size : Int) ≤ (i : Int) + 1) = false := by simp only [decide_eq_false_iff_not]; omega
  have t2 : (bt s (i + 2) == 45) = true := by rw [hd 2 (by omega)]; rfl
  have hex : (i + 3 < s.size ∧ (bt s (i + 3) == 45) = false) ∨ s.size ≤ i + 3 := by
    by_cases h : i + 3 < s.size
    · exact .inl ⟨h, beq_eq_false_iff_ne.2 (hn h)⟩
    · exact .inr (by omega)
  clear hd hn
  obtain ⟨E, hE⟩ : ∃ E : ByteArray, Hid (E = ⟨#[]⟩) := ⟨_, rfl⟩
  obtain ⟨D, hD⟩ : ∃ D : ByteArray, Hid (D = ⟨#[226, 128, 148]⟩) := ⟨_, rfl⟩
  have hEz : E.size ≤ 3 := by rw [hE.out]; decide
  have hDz : D.size ≤ 3 := by rw [hD.out]; decide
  have c0 : Hid (∀ t w, Calls Try.prog 28 #[.string t, .int .i64 0] w fun e w1 => e = .returned (.string E) ∧ w = w1) := fun t w => by rw [hE.out]; exact repeat_0 t w
  have c1 : Hid (∀ w, Calls Try.prog 28 #[.string ⟨#[226, 128, 148]⟩, .int .i64 1] w fun e w1 => e = .returned (.string D) ∧ w = w1) := fun w => by rw [hD.out]; exact repeat_1 _ w
  have hED : Hid ((D ++ E) = ⟨#[226, 128, 148]⟩) := by show D ++ E = ⟨#[226, 128, 148]⟩; rw [hE.out, hD.out]; rfl
  clear hE hD
  rcases hex with ⟨hx, t3⟩ | hx
  all_goals
    go_enter Try.func21, Try.ntmps21
    go_wp2_with fail
    go_loop [10] (fun v => v = .int .i64 2 ∨ v = .int .i64 3) (fun v => 10 - (intOf v).toNat)
    case atStart => exact .inl rfl
    case round =>
      rcases hrel with rfl | rfl
      · go_wp2_with fail
        go_round
        case rel => exact .inr rfl
        case measure => simp [intOf]
      · go_wp2_with (first | (go_at_call 28; (with_reducible refine (c0.out _ _).mono ?_); rintro e w1 ⟨rfl, rfl⟩) | (go_at_call 28; (with_reducible refine (c1.out _).mono ?_); rintro e w1 ⟨rfl, rfl⟩))
        refine bodyPost_ret (results_tmp4 rfl _ _ _) rfl ?_
        refine ⟨w.heap.size, (Below.refl _ _).alloc (Nat.le_refl _) _, by simp, ret4 rfl rfl (intEq (by omega)) rfl, ?_⟩
        rw [World.cell?_alloc_at _ _ _ _ rfl, ← hED.out]
        rfl

theorem zzDash3_c (s : ByteArray) (i : Nat) (hs : s.size ≤ 300) (hz : i + 3 ≤ s.size) (hd : ∀ j, j < 3 → bt s (i + j) = 45) (hn : i + 3 < s.size → bt s (i + 3) ≠ 45) (w : World) :
    Calls Try.prog 16 #[.string s, .int .i64 i] w fun e w1 => ∃ b, Below w.heap.size w w1 ∧ b < w1.heap.size ∧ e = .returned (.tuple #[.iface 59 (.pointer (some ⟨b, 0, none⟩)), .int .i64 i, .int .i64 (i + 3 : Nat), .bool true]) ∧ w1.cell? ⟨b, 0, none⟩ = some (.string ⟨#[226, 128, 148]⟩) := by
  replace hd := Lib.hid hd
  replace hn := Lib.hid hn
  go_enter Try.func16, Try.ntmps16
  go_wp2_with (first | (go_at_call 18; refine (state_c _).mono ?_; rintro e w1 ⟨b, rfl, hB⟩) | (go_at_call 21; refine (dash3_c s i hs hz hd.out hn.out _ _).mono ?_; rintro e w2 ⟨b2, hB2, hb2, rfl, hcell⟩))
  refine bodyPost_ret (results_tmp4 rfl _ _ _) rfl ?_
  exact ⟨b2, hB.trans (hB2.mono hB.size), hb2, ret4 rfl rfl (intEq (by omega)) rfl, hcell⟩

set_option maxHeartbeats 1000000 in
set_option maxRecDepth 100000 in
theorem implDash3 (s : ByteArray) (i : Nat) (hs : s.size ≤ 300) (hz : i + 3 ≤ s.size) (hd : ∀ j, j < 3 → bt s (i + j) = 45) (hn : i + 3 < s.size → bt s (i + 3) ≠ 45) (w : World) :
    Calls Try.prog 10 #[.string s, .int .i64 i] w fun e w1 => e = .returned (.tuple #[.agg #[.int .i64 20, .string ⟨#[226, 128, 148]⟩, .string ⟨#[]⟩, .int .i64 0, .string ⟨#[]⟩, .bool false, .slice none 0 0, .slice none 0 0, .int .i64 0, .int .i64 0, .string ⟨#[]⟩, .int .i64 0, .bool false, .bool false, .bool false, .slice none 0 0], .int .i64 i, .int .i64 (i + 3 : Nat), .bool true]) ∧ Below w.heap.size w w1 := by
  replace hd := Lib.hid hd
  replace hn := Lib.hid hn
  obtain ⟨y, hy⟩ : ∃ y : ByteArray, Hid (y = ⟨#[226, 128, 148]⟩) := ⟨_, rfl⟩
  have cz : Hid (∀ w, Calls Try.prog 16 #[.string s, .int .i64 i] w fun e w1 => ∃ b, Below w.heap.size w w1 ∧ b < w1.heap.size ∧ e = .returned (.tuple #[.iface 59 (.pointer (some ⟨b, 0, none⟩)), .int .i64 i, .int .i64 (i + 3 : Nat), .bool true]) ∧ w1.cell? ⟨b, 0, none⟩ = some (.string y)) := fun w => by
    rw [hy.out]; exact zzDash3_c s i hs hz hd.out hn.out w
  rw [← hy.out]
  clear hd hn
  go_enter Try.func10, Try.ntmps10
  go_wp2_with (first | (go_at_call 16; refine (cz.out _).mono ?_; rintro e w2 ⟨b2, hB2, hb2, rfl, hcell⟩) | (go_at_call 12; refine (two_plain b2 _ _ _ _ hb2 hcell).mono ?_; rintro e w3 ⟨rfl, hB3⟩; have c0 : w3.cell? ⟨w.heap.size, 0, none⟩ = some (.int .i64 0) := heldCell hB2 hB3 0; have f0 := heldFrozen hB2 hB3 0; have c1 : w3.cell? ⟨w.heap.size, 1, none⟩ = some (.string ⟨#[]⟩) := heldCell hB2 hB3 1; have f1 := heldFrozen hB2 hB3 1; have c2 : w3.cell? ⟨w.heap.size, 2, none⟩ = some (.string ⟨#[]⟩) := heldCell hB2 hB3 2; have f2 := heldFrozen hB2 hB3 2; have c3 : w3.cell? ⟨w.heap.size, 3, none⟩ = some (.int .i64 0) := heldCell hB2 hB3 3; have f3 := heldFrozen hB2 hB3 3; have c4 : w3.cell? ⟨w.heap.size, 4, none⟩ = some (.string ⟨#[]⟩) := heldCell hB2 hB3 4; have f4 := heldFrozen hB2 hB3 4; have c5 : w3.cell? ⟨w.heap.size, 5, none⟩ = some (.bool false) := heldCell hB2 hB3 5; have f5 := heldFrozen hB2 hB3 5; have c6 : w3.cell? ⟨w.heap.size, 6, none⟩ = some (.slice none 0 0) := heldCell hB2 hB3 6; have f6 := heldFrozen hB2 hB3 6; have c7 : w3.cell? ⟨w.heap.size, 7, none⟩ = some (.slice none 0 0) := heldCell hB2 hB3 7; have f7 := heldFrozen hB2 hB3 7; have c8 : w3.cell? ⟨w.heap.size, 8, none⟩ = some (.int .i64 0) := heldCell hB2 hB3 8; have f8 := heldFrozen hB2 hB3 8; have c9 : w3.cell? ⟨w.heap.size, 9, none⟩ = some (.int .i64 0) := heldCell hB2 hB3 9; have f9 := heldFrozen hB2 hB3 9; have c10 : w3.cell? ⟨w.heap.size, 10, none⟩ = some (.string ⟨#[]⟩) := heldCell hB2 hB3 10; have f10 := heldFrozen hB2 hB3 10; have c11 : w3.cell? ⟨w.heap.size, 11, none⟩ = some (.int .i64 0) := heldCell hB2 hB3 11; have f11 := heldFrozen hB2 hB3 11; have c12 : w3.cell? ⟨w.heap.size, 12, none⟩ = some (.bool false) := heldCell hB2 hB3 12; have f12 := heldFrozen hB2 hB3 12; have c13 : w3.cell? ⟨w.heap.size, 13, none⟩ = some (.bool false) := heldCell hB2 hB3 13; have f13 := heldFrozen hB2 hB3 13; have c14 : w3.cell? ⟨w.heap.size, 14, none⟩ = some (.bool false) := heldCell hB2 hB3 14; have f14 := heldFrozen hB2 hB3 14; have c15 : w3.cell? ⟨w.heap.size, 15, none⟩ = some (.slice none 0 0) := heldCell hB2 hB3 15; have f15 := heldFrozen hB2 hB3 15))
  have hBB := heldBelow hB2 hB3
  have hsome : ∀ j, j < 16 → (w3.cell? ⟨w.heap.size, 0 + j, none⟩).isSome = true := fun j hj => by
    rw [Nat.zero_add, heldCell hB2 hB3 j]; simp; omega
  have hch : w3.setCells w.heap.size 0 [.int .i64 20, .string y, .string ⟨#[]⟩, .int .i64 0, .string ⟨#[]⟩, .bool false, .slice none 0 0, .slice none 0 0, .int .i64 0, .int .i64 0, .string ⟨#[]⟩, .int .i64 0, .bool false, .bool false, .bool false, .slice none 0 0] = ((((((((((((((((w3.setCell ⟨w.heap.size, 0, none⟩ (.int .i64 20)).setCell ⟨w.heap.size, 1, none⟩ (.string y)).setCell ⟨w.heap.size, 2, none⟩ (.string ⟨#[]⟩)).setCell ⟨w.heap.size, 3, none⟩ (.int .i64 0)).setCell ⟨w.heap.size, 4, none⟩ (.string ⟨#[]⟩)).setCell ⟨w.heap.size, 5, none⟩ (.bool false)).setCell ⟨w.heap.size, 6, none⟩ (.slice none 0 0)).setCell ⟨w.heap.size, 7, none⟩ (.slice none 0 0)).setCell ⟨w.heap.size, 8, none⟩ (.int .i64 0)).setCell ⟨w.heap.size, 9, none⟩ (.int .i64 0)).setCell ⟨w.heap.size, 10, none⟩ (.string ⟨#[]⟩)).setCell ⟨w.heap.size, 11, none⟩ (.int .i64 0)).setCell ⟨w.heap.size, 12, none⟩ (.bool false)).setCell ⟨w.heap.size, 13, none⟩ (.bool false)).setCell ⟨w.heap.size, 14, none⟩ (.bool false)).setCell ⟨w.heap.size, 15, none⟩ (.slice none 0 0)) := by
    simp only [World.setCells, Nat.reduceAdd]
  refine worldEq hch.symm ?_
  have hBW := belowSets hBB [.int .i64 20, .string y, .string ⟨#[]⟩, .int .i64 0, .string ⟨#[]⟩, .bool false, .slice none 0 0, .slice none 0 0, .int .i64 0, .int .i64 0, .string ⟨#[]⟩, .int .i64 0, .bool false, .bool false, .bool false, .slice none 0 0] 0
  have hin := World.cell?_setCells_in w.heap.size [.int .i64 20, .string y, .string ⟨#[]⟩, .int .i64 0, .string ⟨#[]⟩, .bool false, .slice none 0 0, .slice none 0 0, .int .i64 0, .int .i64 0, .string ⟨#[]⟩, .int .i64 0, .bool false, .bool false, .bool false, .slice none 0 0] 0 w3 hsome
  clear hch
  generalize w3.setCells w.heap.size 0 [.int .i64 20, .string y, .string ⟨#[]⟩, .int .i64 0, .string ⟨#[]⟩, .bool false, .slice none 0 0, .slice none 0 0, .int .i64 0, .int .i64 0, .string ⟨#[]⟩, .int .i64 0, .bool false, .bool false, .bool false, .slice none 0 0] = W at hBW hin
  have d0 : W.cell? ⟨w.heap.size, 0, none⟩ = some (.int .i64 20) := hin 0 (by simp); have d1 : W.cell? ⟨w.heap.size, 1, none⟩ = some (.string y) := hin 1 (by simp); have d2 : W.cell? ⟨w.heap.size, 2, none⟩ = some (.string ⟨#[]⟩) := hin 2 (by simp); have d3 : W.cell? ⟨w.heap.size, 3, none⟩ = some (.int .i64 0) := hin 3 (by simp); have d4 : W.cell? ⟨w.heap.size, 4, none⟩ = some (.string ⟨#[]⟩) := hin 4 (by simp); have d5 : W.cell? ⟨w.heap.size, 5, none⟩ = some (.bool false) := hin 5 (by simp); have d6 : W.cell? ⟨w.heap.size, 6, none⟩ = some (.slice none 0 0) := hin 6 (by simp); have d7 : W.cell? ⟨w.heap.size, 7, none⟩ = some (.slice none 0 0) := hin 7 (by simp); have d8 : W.cell? ⟨w.heap.size, 8, none⟩ = some (.int .i64 0) := hin 8 (by simp); have d9 : W.cell? ⟨w.heap.size, 9, none⟩ = some (.int .i64 0) := hin 9 (by simp); have d10 : W.cell? ⟨w.heap.size, 10, none⟩ = some (.string ⟨#[]⟩) := hin 10 (by simp); have d11 : W.cell? ⟨w.heap.size, 11, none⟩ = some (.int .i64 0) := hin 11 (by simp); have d12 : W.cell? ⟨w.heap.size, 12, none⟩ = some (.bool false) := hin 12 (by simp); have d13 : W.cell? ⟨w.heap.size, 13, none⟩ = some (.bool false) := hin 13 (by simp); have d14 : W.cell? ⟨w.heap.size, 14, none⟩ = some (.bool false) := hin 14 (by simp); have d15 : W.cell? ⟨w.heap.size, 15, none⟩ = some (.slice none 0 0) := hin 15 (by simp)
  clear hin
  refine bodyPost_ret (v := .tuple #[.agg #[.int .i64 20, .string y, .string ⟨#[]⟩, .int .i64 0, .string ⟨#[]⟩, .bool false, .slice none 0 0, .slice none 0 0, .int .i64 0, .int .i64 0, .string ⟨#[]⟩, .int .i64 0, .bool false, .bool false, .bool false, .slice none 0 0], .int .i64 i, .int .i64 (i + 3 : Nat), .bool true]) (by simp [results, Try.results10, go_sem, d0, d1, d2, d3, d4, d5, d6, d7, d8, d9, d10, d11, d12, d13, d14, d15]) rfl ⟨rfl, ?_⟩
  exact hBW
end Go.Proofs.Yteoflbljbmpkdaa.W
