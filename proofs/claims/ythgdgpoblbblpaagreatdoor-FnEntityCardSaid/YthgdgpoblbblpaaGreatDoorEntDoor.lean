/- Walks of the doors to parseHTMLEntity: ZZHTMLEntity and impl.HTMLEntity, over what parseHTMLEntity is known to do. Condition: the table holds its twelve names. -/
import Derived.Test.YthgdgpoblbblpaaGreatDoorPNode
import Derived.Test.YthgdgpoblbblpaaGreatDoorEntP
namespace Go.Proofs.YthgdgpoblbblpaaGreatDoor.W
open Go.RowKit Go.PlainAid
set_option linter.unusedVariables false

theorem EntAt.pos {w : World} (h : EntAt w) : 0 < w.heap.size := by
  have hc := (h 0 (by omega)).1
  by_cases hz : 0 < w.heap.size
  · exact hz
  · simp [World.cell?, Array.getElem?_eq_none (Nat.le_of_not_lt hz)] at hc
def ParseDoes (s : ByteArray) (i : Nat) (Q : World → Ending → World → Prop) : Prop := ∀ (pv : Value) (w : World), EntAt w → Calls Tryz.prog 17 #[pv, .string s, .int .i64 i] w (Q w)
theorem zz_yes (s text : ByteArray) (i j : Nat) (h : ParseDoes s i fun w => PYes text i j w.heap.size w) (w : World) (hT : EntAt w) :
    Calls Tryz.prog 13 #[.string s, .int .i64 i] w (PYes text i j w.heap.size w) := by
  have hp := hT.pos
  replace hT := Lib.hid hT
  replace h := Lib.hid h
  go_enter Tryz.func13, Tryz.ntmps13
  go_wp2_with (first | (go_at_call 18; refine (state_c _).mono ?_; rintro e w1 ⟨b, rfl, hB⟩) | (go_at_call 17; refine (h.out _ _ (hT.out.below hB hp)).mono ?_; rintro e w2 ⟨b2, hB2, hb2, rfl, hcell⟩))
  refine bodyPost_ret (results_tmp4 rfl _ _ _) rfl ?_
  exact ⟨b2, hB.trans (hB2.mono hB.size), hb2, ret4 rfl rfl rfl rfl, hcell⟩
theorem zz_no (s : ByteArray) (i : Nat) (h : ParseDoes s i PNo) (w : World) (hT : EntAt w) :
    Calls Tryz.prog 13 #[.string s, .int .i64 i] w fun e w1 => e = .returned (.tuple #[.nilIface, .int .i64 0, .int .i64 0, .bool false]) ∧ Below w.heap.size w w1 := by
  have hp := hT.pos
  replace hT := Lib.hid hT
  replace h := Lib.hid h
  go_enter Tryz.func13, Tryz.ntmps13
  go_wp2_with (first | (go_at_call 18; refine (state_c _).mono ?_; rintro e w1 ⟨b, rfl, hB⟩) | (go_at_call 17; refine (h.out _ _ (hT.out.below hB hp)).mono ?_; rintro e w2 ⟨rfl, rfl⟩))
  refine bodyPost_ret (results_tmp4 rfl _ _ _) rfl ?_
  exact ⟨rfl, hB⟩

set_option maxHeartbeats 2000000 in
set_option maxRecDepth 100000 in
theorem ent_impl_yes (s text : ByteArray) (i j : Nat) (h : ParseDoes s i fun w => PYes text i j w.heap.size w) (w : World) (hT : EntAt w) :
    Calls Tryz.prog 6 #[.string s, .int .i64 i] w fun e w1 => e = .returned (.tuple #[.agg #[.int .i64 20, .string text, .string ⟨#[]⟩, .int .i64 0, .string ⟨#[]⟩, .bool false, .slice none 0 0, .slice none 0 0, .int .i64 0, .int .i64 0, .string ⟨#[]⟩, .int .i64 0, .bool false, .bool false, .bool false, .slice none 0 0], .int .i64 i, .int .i64 j, .bool true]) ∧ Below w.heap.size w w1 := by
  have hp := hT.pos
  have cz := Lib.hid (zz_yes s text i j h)
  replace hT := Lib.hid hT
  clear h
  have hT2 : ∀ o, Hid (EntAt (w.alloc o)) := fun o => hT.out.below ((Below.refl w.heap.size w).alloc (Nat.le_refl _) o) hp
  replace hT2 := Lib.hid hT2
  go_enter Tryz.func6, Tryz.ntmps6
  go_wp2_with (first | (go_at_call 13; refine (cz.out _ (hT2.out _).out).mono ?_; rintro e w2 ⟨b2, hB2, hb2, rfl, hcell⟩) | (go_at_call 12; refine (two_plain b2 _ _ _ _ hb2 hcell).mono ?_; rintro e w3 ⟨rfl, hB3⟩; have c0 : w3.cell? ⟨w.heap.size, 0, none⟩ = some (.int .i64 0) := heldCell hB2 hB3 0; have f0 := heldFrozen hB2 hB3 0; have c1 : w3.cell? ⟨w.heap.size, 1, none⟩ = some (.string ⟨#[]⟩) := heldCell hB2 hB3 1; have f1 := heldFrozen hB2 hB3 1; have c2 : w3.cell? ⟨w.heap.size, 2, none⟩ = some (.string ⟨#[]⟩) := heldCell hB2 hB3 2; have f2 := heldFrozen hB2 hB3 2; have c3 : w3.cell? ⟨w.heap.size, 3, none⟩ = some (.int .i64 0) := heldCell hB2 hB3 3; have f3 := heldFrozen hB2 hB3 3; have c4 : w3.cell? ⟨w.heap.size, 4, none⟩ = some (.string ⟨#[]⟩) := heldCell hB2 hB3 4; have f4 := heldFrozen hB2 hB3 4; have c5 : w3.cell? ⟨w.heap.size, 5, none⟩ = some (.bool false) := heldCell hB2 hB3 5; have f5 := heldFrozen hB2 hB3 5; have c6 : w3.cell? ⟨w.heap.size, 6, none⟩ = some (.slice none 0 0) := heldCell hB2 hB3 6; have f6 := heldFrozen hB2 hB3 6; have c7 : w3.cell? ⟨w.heap.size, 7, none⟩ = some (.slice none 0 0) := heldCell hB2 hB3 7; have f7 := heldFrozen hB2 hB3 7; have c8 : w3.cell? ⟨w.heap.size, 8, none⟩ = some (.int .i64 0) := heldCell hB2 hB3 8; have f8 := heldFrozen hB2 hB3 8; have c9 : w3.cell? ⟨w.heap.size, 9, none⟩ = some (.int .i64 0) := heldCell hB2 hB3 9; have f9 := heldFrozen hB2 hB3 9; have c10 : w3.cell? ⟨w.heap.size, 10, none⟩ = some (.string ⟨#[]⟩) := heldCell hB2 hB3 10; have f10 := heldFrozen hB2 hB3 10; have c11 : w3.cell? ⟨w.heap.size, 11, none⟩ = some (.int .i64 0) := heldCell hB2 hB3 11; have f11 := heldFrozen hB2 hB3 11; have c12 : w3.cell? ⟨w.heap.size, 12, none⟩ = some (.bool false) := heldCell hB2 hB3 12; have f12 := heldFrozen hB2 hB3 12; have c13 : w3.cell? ⟨w.heap.size, 13, none⟩ = some (.bool false) := heldCell hB2 hB3 13; have f13 := heldFrozen hB2 hB3 13; have c14 : w3.cell? ⟨w.heap.size, 14, none⟩ = some (.bool false) := heldCell hB2 hB3 14; have f14 := heldFrozen hB2 hB3 14; have c15 : w3.cell? ⟨w.heap.size, 15, none⟩ = some (.slice none 0 0) := heldCell hB2 hB3 15; have f15 := heldFrozen hB2 hB3 15))
  have hBB := heldBelow hB2 hB3
  have hsome : ∀ j, j < 16 → (w3.cell? ⟨w.heap.size, 0 + j, none⟩).isSome = true := fun j hj => by
    rw [Nat.zero_add, heldCell hB2 hB3 j]; simp; omega
  have hch : w3.setCells w.heap.size 0 [.int .i64 20, .string text, .string ⟨#[]⟩, .int .i64 0, .string ⟨#[]⟩, .bool false, .slice none 0 0, .slice none 0 0, .int .i64 0, .int .i64 0, .string ⟨#[]⟩, .int .i64 0, .bool false, .bool false, .bool false, .slice none 0 0] = ((((((((((((((((w3.setCell ⟨w.heap.size, 0, none⟩ (.int .i64 20)).setCell ⟨w.heap.size, 1, none⟩ (.string text)).setCell ⟨w.heap.size, 2, none⟩ (.string ⟨#[]⟩)).setCell ⟨w.heap.size, 3, none⟩ (.int .i64 0)).setCell ⟨w.heap.size, 4, none⟩ (.string ⟨#[]⟩)).setCell ⟨w.heap.size, 5, none⟩ (.bool false)).setCell ⟨w.heap.size, 6, none⟩ (.slice none 0 0)).setCell ⟨w.heap.size, 7, none⟩ (.slice none 0 0)).setCell ⟨w.heap.size, 8, none⟩ (.int .i64 0)).setCell ⟨w.heap.size, 9, none⟩ (.int .i64 0)).setCell ⟨w.heap.size, 10, none⟩ (.string ⟨#[]⟩)).setCell ⟨w.heap.size, 11, none⟩ (.int .i64 0)).setCell ⟨w.heap.size, 12, none⟩ (.bool false)).setCell ⟨w.heap.size, 13, none⟩ (.bool false)).setCell ⟨w.heap.size, 14, none⟩ (.bool false)).setCell ⟨w.heap.size, 15, none⟩ (.slice none 0 0)) := by
    simp only [World.setCells, Nat.reduceAdd]
  refine worldEq hch.symm ?_
  have hBW := belowSets hBB [.int .i64 20, .string text, .string ⟨#[]⟩, .int .i64 0, .string ⟨#[]⟩, .bool false, .slice none 0 0, .slice none 0 0, .int .i64 0, .int .i64 0, .string ⟨#[]⟩, .int .i64 0, .bool false, .bool false, .bool false, .slice none 0 0] 0
  have hin := World.cell?_setCells_in w.heap.size [.int .i64 20, .string text, .string ⟨#[]⟩, .int .i64 0, .string ⟨#[]⟩, .bool false, .slice none 0 0, .slice none 0 0, .int .i64 0, .int .i64 0, .string ⟨#[]⟩, .int .i64 0, .bool false, .bool false, .bool false, .slice none 0 0] 0 w3 hsome
  clear hch
  generalize w3.setCells w.heap.size 0 [.int .i64 20, .string text, .string ⟨#[]⟩, .int .i64 0, .string ⟨#[]⟩, .bool false, .slice none 0 0, .slice none 0 0, .int .i64 0, .int .i64 0, .string ⟨#[]⟩, .int .i64 0, .bool false, .bool false, .bool false, .slice none 0 0] = W at hBW hin
  have d0 : W.cell? ⟨w.heap.size, 0, none⟩ = some (.int .i64 20) := hin 0 (by simp); have d1 : W.cell? ⟨w.heap.size, 1, none⟩ = some (.string text) := hin 1 (by simp); have d2 : W.cell? ⟨w.heap.size, 2, none⟩ = some (.string ⟨#[]⟩) := hin 2 (by simp); have d3 : W.cell? ⟨w.heap.size, 3, none⟩ = some (.int .i64 0) := hin 3 (by simp); have d4 : W.cell? ⟨w.heap.size, 4, none⟩ = some (.string ⟨#[]⟩) := hin 4 (by simp); have d5 : W.cell? ⟨w.heap.size, 5, none⟩ = some (.bool false) := hin 5 (by simp); have d6 : W.cell? ⟨w.heap.size, 6, none⟩ = some (.slice none 0 0) := hin 6 (by simp); have d7 : W.cell? ⟨w.heap.size, 7, none⟩ = some (.slice none 0 0) := hin 7 (by simp); have d8 : W.cell? ⟨w.heap.size, 8, none⟩ = some (.int .i64 0) := hin 8 (by simp); have d9 : W.cell? ⟨w.heap.size, 9, none⟩ = some (.int .i64 0) := hin 9 (by simp); have d10 : W.cell? ⟨w.heap.size, 10, none⟩ = some (.string ⟨#[]⟩) := hin 10 (by simp); have d11 : W.cell? ⟨w.heap.size, 11, none⟩ = some (.int .i64 0) := hin 11 (by simp); have d12 : W.cell? ⟨w.heap.size, 12, none⟩ = some (.bool false) := hin 12 (by simp); have d13 : W.cell? ⟨w.heap.size, 13, none⟩ = some (.bool false) := hin 13 (by simp); have d14 : W.cell? ⟨w.heap.size, 14, none⟩ = some (.bool false) := hin 14 (by simp); have d15 : W.cell? ⟨w.heap.size, 15, none⟩ = some (.slice none 0 0) := hin 15 (by simp)
  clear hin
  refine bodyPost_ret (v := .tuple #[.agg #[.int .i64 20, .string text, .string ⟨#[]⟩, .int .i64 0, .string ⟨#[]⟩, .bool false, .slice none 0 0, .slice none 0 0, .int .i64 0, .int .i64 0, .string ⟨#[]⟩, .int .i64 0, .bool false, .bool false, .bool false, .slice none 0 0], .int .i64 i, .int .i64 j, .bool true]) (by simp [results, Tryz.results6, go_sem, d0, d1, d2, d3, d4, d5, d6, d7, d8, d9, d10, d11, d12, d13, d14, d15]) rfl ⟨rfl, ?_⟩
  exact hBW

set_option maxHeartbeats 2000000 in
set_option maxRecDepth 100000 in
theorem ent_impl_no (s : ByteArray) (i : Nat) (h : ParseDoes s i PNo) (w : World) (hT : EntAt w) :
    Calls Tryz.prog 6 #[.string s, .int .i64 i] w fun e w1 => e = .returned (.tuple #[.agg #[.int .i64 0, .string ⟨#[]⟩, .string ⟨#[]⟩, .int .i64 0, .string ⟨#[]⟩, .bool false, .slice none 0 0, .slice none 0 0, .int .i64 0, .int .i64 0, .string ⟨#[]⟩, .int .i64 0, .bool false, .bool false, .bool false, .slice none 0 0], .int .i64 0, .int .i64 0, .bool false]) ∧ Below w.heap.size w w1 := by
  have hp := hT.pos
  have cz := Lib.hid (zz_no s i h)
  replace hT := Lib.hid hT
  clear h
  have hT2 : ∀ o, Hid (EntAt (w.alloc o)) := fun o => hT.out.below ((Below.refl w.heap.size w).alloc (Nat.le_refl _) o) hp
  replace hT2 := Lib.hid hT2
  go_enter Tryz.func6, Tryz.ntmps6
  go_wp2_with (first | (go_at_call 13; refine (cz.out _ (hT2.out _).out).mono ?_; rintro e w2 ⟨rfl, hB2⟩) | (go_at_call 12; refine (two_no _ _ _ _).mono ?_; rintro e w3 ⟨rfl, hB3⟩; have c0 : w3.cell? ⟨w.heap.size, 0, none⟩ = some (.int .i64 0) := heldCell hB2 hB3 0; have f0 := heldFrozen hB2 hB3 0; have c1 : w3.cell? ⟨w.heap.size, 1, none⟩ = some (.string ⟨#[]⟩) := heldCell hB2 hB3 1; have f1 := heldFrozen hB2 hB3 1; have c2 : w3.cell? ⟨w.heap.size, 2, none⟩ = some (.string ⟨#[]⟩) := heldCell hB2 hB3 2; have f2 := heldFrozen hB2 hB3 2; have c3 : w3.cell? ⟨w.heap.size, 3, none⟩ = some (.int .i64 0) := heldCell hB2 hB3 3; have f3 := heldFrozen hB2 hB3 3; have c4 : w3.cell? ⟨w.heap.size, 4, none⟩ = some (.string ⟨#[]⟩) := heldCell hB2 hB3 4; have f4 := heldFrozen hB2 hB3 4; have c5 : w3.cell? ⟨w.heap.size, 5, none⟩ = some (.bool false) := heldCell hB2 hB3 5; have f5 := heldFrozen hB2 hB3 5; have c6 : w3.cell? ⟨w.heap.size, 6, none⟩ = some (.slice none 0 0) := heldCell hB2 hB3 6; have f6 := heldFrozen hB2 hB3 6; have c7 : w3.cell? ⟨w.heap.size, 7, none⟩ = some (.slice none 0 0) := heldCell hB2 hB3 7; have f7 := heldFrozen hB2 hB3 7; have c8 : w3.cell? ⟨w.heap.size, 8, none⟩ = some (.int .i64 0) := heldCell hB2 hB3 8; have f8 := heldFrozen hB2 hB3 8; have c9 : w3.cell? ⟨w.heap.size, 9, none⟩ = some (.int .i64 0) := heldCell hB2 hB3 9; have f9 := heldFrozen hB2 hB3 9; have c10 : w3.cell? ⟨w.heap.size, 10, none⟩ = some (.string ⟨#[]⟩) := heldCell hB2 hB3 10; have f10 := heldFrozen hB2 hB3 10; have c11 : w3.cell? ⟨w.heap.size, 11, none⟩ = some (.int .i64 0) := heldCell hB2 hB3 11; have f11 := heldFrozen hB2 hB3 11; have c12 : w3.cell? ⟨w.heap.size, 12, none⟩ = some (.bool false) := heldCell hB2 hB3 12; have f12 := heldFrozen hB2 hB3 12; have c13 : w3.cell? ⟨w.heap.size, 13, none⟩ = some (.bool false) := heldCell hB2 hB3 13; have f13 := heldFrozen hB2 hB3 13; have c14 : w3.cell? ⟨w.heap.size, 14, none⟩ = some (.bool false) := heldCell hB2 hB3 14; have f14 := heldFrozen hB2 hB3 14; have c15 : w3.cell? ⟨w.heap.size, 15, none⟩ = some (.slice none 0 0) := heldCell hB2 hB3 15; have f15 := heldFrozen hB2 hB3 15))
  have hBB := heldBelow hB2 hB3
  have hsome : ∀ j, j < 16 → (w3.cell? ⟨w.heap.size, 0 + j, none⟩).isSome = true := fun j hj => by
    rw [Nat.zero_add, heldCell hB2 hB3 j]; simp; omega
  have hch : w3.setCells w.heap.size 0 [.int .i64 0, .string ⟨#[]⟩, .string ⟨#[]⟩, .int .i64 0, .string ⟨#[]⟩, .bool false, .slice none 0 0, .slice none 0 0, .int .i64 0, .int .i64 0, .string ⟨#[]⟩, .int .i64 0, .bool false, .bool false, .bool false, .slice none 0 0] = ((((((((((((((((w3.setCell ⟨w.heap.size, 0, none⟩ (.int .i64 0)).setCell ⟨w.heap.size, 1, none⟩ (.string ⟨#[]⟩)).setCell ⟨w.heap.size, 2, none⟩ (.string ⟨#[]⟩)).setCell ⟨w.heap.size, 3, none⟩ (.int .i64 0)).setCell ⟨w.heap.size, 4, none⟩ (.string ⟨#[]⟩)).setCell ⟨w.heap.size, 5, none⟩ (.bool false)).setCell ⟨w.heap.size, 6, none⟩ (.slice none 0 0)).setCell ⟨w.heap.size, 7, none⟩ (.slice none 0 0)).setCell ⟨w.heap.size, 8, none⟩ (.int .i64 0)).setCell ⟨w.heap.size, 9, none⟩ (.int .i64 0)).setCell ⟨w.heap.size, 10, none⟩ (.string ⟨#[]⟩)).setCell ⟨w.heap.size, 11, none⟩ (.int .i64 0)).setCell ⟨w.heap.size, 12, none⟩ (.bool false)).setCell ⟨w.heap.size, 13, none⟩ (.bool false)).setCell ⟨w.heap.size, 14, none⟩ (.bool false)).setCell ⟨w.heap.size, 15, none⟩ (.slice none 0 0)) := by
    simp only [World.setCells, Nat.reduceAdd]
  refine worldEq hch.symm ?_
  have hBW := belowSets hBB [.int .i64 0, .string ⟨#[]⟩, .string ⟨#[]⟩, .int .i64 0, .string ⟨#[]⟩, .bool false, .slice none 0 0, .slice none 0 0, .int .i64 0, .int .i64 0, .string ⟨#[]⟩, .int .i64 0, .bool false, .bool false, .bool false, .slice none 0 0] 0
  have hin := World.cell?_setCells_in w.heap.size [.int .i64 0, .string ⟨#[]⟩, .string ⟨#[]⟩, .int .i64 0, .string ⟨#[]⟩, .bool false, .slice none 0 0, .slice none 0 0, .int .i64 0, .int .i64 0, .string ⟨#[]⟩, .int .i64 0, .bool false, .bool false, .bool false, .slice none 0 0] 0 w3 hsome
  clear hch
  generalize w3.setCells w.heap.size 0 [.int .i64 0, .string ⟨#[]⟩, .string ⟨#[]⟩, .int .i64 0, .string ⟨#[]⟩, .bool false, .slice none 0 0, .slice none 0 0, .int .i64 0, .int .i64 0, .string ⟨#[]⟩, .int .i64 0, .bool false, .bool false, .bool false, .slice none 0 0] = W at hBW hin
  have d0 : W.cell? ⟨w.heap.size, 0, none⟩ = some (.int .i64 0) := hin 0 (by simp); have d1 : W.cell? ⟨w.heap.size, 1, none⟩ = some (.string ⟨#[]⟩) := hin 1 (by simp); have d2 : W.cell? ⟨w.heap.size, 2, none⟩ = some (.string ⟨#[]⟩) := hin 2 (by simp); have d3 : W.cell? ⟨w.heap.size, 3, none⟩ = some (.int .i64 0) := hin 3 (by simp); have d4 : W.cell? ⟨w.heap.size, 4, none⟩ = some (.string ⟨#[]⟩) := hin 4 (by simp); have d5 : W.cell? ⟨w.heap.size, 5, none⟩ = some (.bool false) := hin 5 (by simp); have d6 : W.cell? ⟨w.heap.size, 6, none⟩ = some (.slice none 0 0) := hin 6 (by simp); have d7 : W.cell? ⟨w.heap.size, 7, none⟩ = some (.slice none 0 0) := hin 7 (by simp); have d8 : W.cell? ⟨w.heap.size, 8, none⟩ = some (.int .i64 0) := hin 8 (by simp); have d9 : W.cell? ⟨w.heap.size, 9, none⟩ = some (.int .i64 0) := hin 9 (by simp); have d10 : W.cell? ⟨w.heap.size, 10, none⟩ = some (.string ⟨#[]⟩) := hin 10 (by simp); have d11 : W.cell? ⟨w.heap.size, 11, none⟩ = some (.int .i64 0) := hin 11 (by simp); have d12 : W.cell? ⟨w.heap.size, 12, none⟩ = some (.bool false) := hin 12 (by simp); have d13 : W.cell? ⟨w.heap.size, 13, none⟩ = some (.bool false) := hin 13 (by simp); have d14 : W.cell? ⟨w.heap.size, 14, none⟩ = some (.bool false) := hin 14 (by simp); have d15 : W.cell? ⟨w.heap.size, 15, none⟩ = some (.slice none 0 0) := hin 15 (by simp)
  clear hin
  refine bodyPost_ret (v := .tuple #[.agg #[.int .i64 0, .string ⟨#[]⟩, .string ⟨#[]⟩, .int .i64 0, .string ⟨#[]⟩, .bool false, .slice none 0 0, .slice none 0 0, .int .i64 0, .int .i64 0, .string ⟨#[]⟩, .int .i64 0, .bool false, .bool false, .bool false, .slice none 0 0], .int .i64 0, .int .i64 0, .bool false]) (by simp [results, Tryz.results6, go_sem, d0, d1, d2, d3, d4, d5, d6, d7, d8, d9, d10, d11, d12, d13, d14, d15]) rfl ⟨rfl, ?_⟩
  exact hBW

end Go.Proofs.YthgdgpoblbblpaaGreatDoor.W
