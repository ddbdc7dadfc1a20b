/- Walks of ZZCodeSpan and of impl.CodeSpan. Condition: as parseSpan_c states. -/
import Derived.Test.YtiilhmagepncgaaState
import Derived.Test.YtiilhmagepncgaaCodeNode
namespace Go.Proofs.Ytiilhmagepncgaa.W
open Go.RowKit Go.PlainAid
set_option linter.unusedVariables false

theorem spanSome {s : ByteArray} {i n g p : Nat} {w w1 : World} {e : Ending} (h : spanFrom s n (i + n) = some p) (hS : SpanSaid s i n g w e w1) :
    ∃ b, Below g w w1 ∧ b < w1.heap.size ∧ e = .returned (.tuple #[.iface 77 (.pointer (some ⟨b, 0, none⟩)), .int .i64 i, .int .i64 (p + n : Nat), .bool true]) ∧ w1.cell? ⟨b, 0, none⟩ = some (.string (meantS (s.extract (i + n) p))) := by
  obtain ⟨b, h1, h2, h3⟩ := hS
  rw [h] at h3
  exact ⟨b, h1, h2, h3.1, h3.2⟩
theorem spanNone {s : ByteArray} {i n g : Nat} {w w1 : World} {e : Ending} (h : spanFrom s n (i + n) = none) (hS : SpanSaid s i n g w e w1) :
    ∃ b t, Below g w w1 ∧ b < w1.heap.size ∧ e = .returned (.tuple #[.iface 68 (.pointer (some ⟨b, 0, none⟩)), .int .i64 i, .int .i64 (i + n : Nat), .bool true]) ∧ w1.cell? ⟨b, 0, none⟩ = some (.string t) := by
  obtain ⟨b, h1, h2, h3⟩ := hS
  rw [h] at h3
  obtain ⟨t, h4, h5⟩ := h3
  exact ⟨b, t, h1, h2, h4, h5⟩
theorem SpanSaid.back {s : ByteArray} {i n g B : Nat} {w w1 w2 : World} {e : Ending} (hS : SpanSaid s i n g w1 e w2) (hB : Below B w w1) (hg : B ≤ g) : SpanSaid s i n B w e w2 := by
  obtain ⟨b, h1, h2, h3⟩ := hS
  exact ⟨b, hB.trans (h1.mono hg), h2, h3⟩

theorem belowSets {B : Nat} {w : World} : ∀ {W : World} (h : Below B w W) (vs : List Value) (o : Nat), Below B w (W.setCells B o vs)
  | W, h, [], o => h
  | W, h, v :: r, o => by
    rw [World.setCells]
    exact belowSets (h.setCell (p := ⟨B, o, none⟩) (Nat.le_refl _) v) r (o + 1)
theorem worldEq {P : Program} {fn : Func} {R : Ending → World → Prop} {x : Exit} {a : Act} {w w' : World} (h : w = w') (hb : bodyPost P fn R x a w') : bodyPost P fn R x a w := by
  rw [h]; exact hb
theorem heldCell {w w2 w3 : World} {Z : Array Value} {t : TypeId} (h2 : Below (w.alloc (.cells Z t)).heap.size (w.alloc (.cells Z t)) w2) (h3 : Below w2.heap.size w2 w3) (k : Nat) : w3.cell? ⟨w.heap.size, k, none⟩ = Z[k]? := by
  have hz : w.heap.size < (w.alloc (.cells Z t)).heap.size := by simp
  have hz2 := h2.size
  rw [h3.cell (p := ⟨w.heap.size, k, none⟩) (by show w.heap.size < _; omega), h2.cell (p := ⟨w.heap.size, k, none⟩) hz, World.cell?_alloc_at _ _ _ _ rfl]
theorem heldFrozen {w w2 w3 : World} {Z : Array Value} {t : TypeId} (h2 : Below (w.alloc (.cells Z t)).heap.size (w.alloc (.cells Z t)) w2) (h3 : Below w2.heap.size w2 w3) (k : Nat) : w3.frozen? ⟨w.heap.size, k, none⟩ = false := by
  have hz : w.heap.size < (w.alloc (.cells Z t)).heap.size := by simp
  have hz2 := h2.size
  rw [h3.frozen (p := ⟨w.heap.size, k, none⟩) (by show w.heap.size < _; omega), h2.frozen (p := ⟨w.heap.size, k, none⟩) hz, World.frozen?_alloc_at _ _ _ _ rfl]
theorem heldBelow {w w2 w3 : World} {Z : Array Value} {t : TypeId} (h2 : Below (w.alloc (.cells Z t)).heap.size (w.alloc (.cells Z t)) w2) (h3 : Below w2.heap.size w2 w3) : Below w.heap.size w w3 := by
  have hz : w.heap.size < (w.alloc (.cells Z t)).heap.size := by simp
  have hz2 := h2.size
  exact (((Below.refl _ _).alloc (Nat.le_refl _) _).trans (h2.mono (by omega))).trans (h3.mono (by omega))
theorem zzSpan_c (s : ByteArray) (i n : Nat) (hs : s.size ≤ 300) (hi : i < s.size) (h96 : bt s i = 96) (hn : runEnd tickB s i = i + n) (hn80 : n ≤ 80) (h9 : ∀ k, k < s.size → bt s k ≠ 9) (w : World) :
    Calls Try.prog 22 #[.string s, .int .i64 i] w fun e w1 => SpanSaid s i n w.heap.size w e w1 := by
  replace h96 := Lib.hid h96
  replace hn := Lib.hid hn
  replace h9 := Lib.hid h9
  cases hsp : spanFrom s n (i + n)
  · replace hsp := Lib.hid hsp
    go_enter Try.func22, Try.ntmps22
    go_wp2_with (first | (go_at_call 28; refine (zzState_c _).mono ?_; rintro e w1 ⟨b, rfl, hB, hb, hT⟩) | (go_at_call 29; refine (parseSpan_c s i n b 12 _ hs hi h96.out hn.out hn80 h9.out _ hT).mono ?_; rintro e w2 hS; obtain ⟨b2, t, hB2, hb2, rfl, hcell⟩ := spanNone hsp.out hS))
    refine bodyPost_ret (results_tmp4 rfl _ _ _) rfl ?_
    exact SpanSaid.back hS hB hb
  · replace hsp := Lib.hid hsp
    go_enter Try.func22, Try.ntmps22
    go_wp2_with (first | (go_at_call 28; refine (zzState_c _).mono ?_; rintro e w1 ⟨b, rfl, hB, hb, hT⟩) | (go_at_call 29; refine (parseSpan_c s i n b 12 _ hs hi h96.out hn.out hn80 h9.out _ hT).mono ?_; rintro e w2 hS; obtain ⟨b2, hB2, hb2, rfl, hcell⟩ := spanSome hsp.out hS))
    refine bodyPost_ret (results_tmp4 rfl _ _ _) rfl ?_
    exact SpanSaid.back hS hB hb

set_option maxHeartbeats 2000000 in
set_option maxRecDepth 100000 in
theorem codeSpan_code (s : ByteArray) (i n : Nat) (hs : s.size ≤ 300) (hi : i < s.size) (h96 : bt s i = 96) (hn : runEnd tickB s i = i + n) (hn80 : n ≤ 80) (h9 : ∀ k, k < s.size → bt s k ≠ 9) (p : Nat) (hsp : spanFrom s n (i + n) = some p) (w : World) :
    Calls Try.prog 13 #[.string s, .int .i64 i] w fun e w1 => e = .returned (.tuple #[.agg #[.int .i64 23, .string (meantS (s.extract (i + n) p)), .string ⟨#[]⟩, .int .i64 0, .string ⟨#[]⟩, .bool false, .slice none 0 0, .slice none 0 0, .int .i64 0, .int .i64 0, .string ⟨#[]⟩, .int .i64 0, .bool false, .bool false, .bool false, .slice none 0 0], .int .i64 i, .int .i64 (p + n : Nat), .bool true]) ∧ Below w.heap.size w w1 := by
  replace h96 := Lib.hid h96
  replace hn := Lib.hid hn
  replace h9 := Lib.hid h9
  replace hsp := Lib.hid hsp
  go_enter Try.func13, Try.ntmps13
  go_wp2_with (first | (go_at_call 22; refine (zzSpan_c s i n hs hi h96.out hn.out hn80 h9.out _).mono ?_; rintro e w2 hS; obtain ⟨b2, hB2, hb2, rfl, hcell⟩ := spanSome hsp.out hS) | (go_at_call 21; refine (two_code b2 _ _ _ _ hb2 hcell).mono ?_; rintro e w3 ⟨rfl, hB3⟩; have c0 : w3.cell? ⟨w.heap.size, 0, none⟩ = some (.int .i64 0) := heldCell hB2 hB3 0; have f0 := heldFrozen hB2 hB3 0; have c1 : w3.cell? ⟨w.heap.size, 1, none⟩ = some (.string ⟨#[]⟩) := heldCell hB2 hB3 1; have f1 := heldFrozen hB2 hB3 1; have c2 : w3.cell? ⟨w.heap.size, 2, none⟩ = some (.string ⟨#[]⟩) := heldCell hB2 hB3 2; have f2 := heldFrozen hB2 hB3 2; have c3 : w3.cell? ⟨w.heap.size, 3, none⟩ = some (.int .i64 0) := heldCell hB2 hB3 3; have f3 := heldFrozen hB2 hB3 3; have c4 : w3.cell? ⟨w.heap.size, 4, none⟩ = some (.string ⟨#[]⟩) := heldCell hB2 hB3 4; have f4 := heldFrozen hB2 hB3 4; have c5 : w3.cell? ⟨w.heap.size, 5, none⟩ = some (.bool false) := heldCell hB2 hB3 5; have f5 := heldFrozen hB2 hB3 5; have c6 : w3.cell? ⟨w.heap.size, 6, none⟩ = some (.slice none 0 0) := heldCell hB2 hB3 6; have f6 := heldFrozen hB2 hB3 6; have c7 : w3.cell? ⟨w.heap.size, 7, none⟩ = some (.slice none 0 0) := heldCell hB2 hB3 7; have f7 := heldFrozen hB2 hB3 7; have c8 : w3.cell? ⟨w.heap.size, 8, none⟩ = some (.int .i64 0) := heldCell hB2 hB3 8; have f8 := heldFrozen hB2 hB3 8; have c9 : w3.cell? ⟨w.heap.size, 9, none⟩ = some (.int .i64 0) := heldCell hB2 hB3 9; have f9 := heldFrozen hB2 hB3 9; have c10 : w3.cell? ⟨w.heap.size, 10, none⟩ = some (.string ⟨#[]⟩) := heldCell hB2 hB3 10; have f10 := heldFrozen hB2 hB3 10; have c11 : w3.cell? ⟨w.heap.size, 11, none⟩ = some (.int .i64 0) := heldCell hB2 hB3 11; have f11 := heldFrozen hB2 hB3 11; have c12 : w3.cell? ⟨w.heap.size, 12, none⟩ = some (.bool false) := heldCell hB2 hB3 12; have f12 := heldFrozen hB2 hB3 12; have c13 : w3.cell? ⟨w.heap.size, 13, none⟩ = some (.bool false) := heldCell hB2 hB3 13; have f13 := heldFrozen hB2 hB3 13; have c14 : w3.cell? ⟨w.heap.size, 14, none⟩ = some (.bool false) := heldCell hB2 hB3 14; have f14 := heldFrozen hB2 hB3 14; have c15 : w3.cell? ⟨w.heap.size, 15, none⟩ = some (.slice none 0 0) := heldCell hB2 hB3 15; have f15 := heldFrozen hB2 hB3 15))
  have hBB := heldBelow hB2 hB3
  have hsome : ∀ j, j < 16 → (w3.cell? ⟨w.heap.size, 0 + j, none⟩).isSome = true := fun j hj => by
    rw [Nat.zero_add, heldCell hB2 hB3 j]; simp; omega
  have hch : w3.setCells w.heap.size 0 [.int .i64 23, .string (meantS (s.extract (i + n) p)), .string ⟨#[]⟩, .int .i64 0, .string ⟨#[]⟩, .bool false, .slice none 0 0, .slice none 0 0, .int .i64 0, .int .i64 0, .string ⟨#[]⟩, .int .i64 0, .bool false, .bool false, .bool false, .slice none 0 0] = ((((((((((((((((w3.setCell ⟨w.heap.size, 0, none⟩ (.int .i64 23)).setCell ⟨w.heap.size, 1, none⟩ (.string (meantS (s.extract (i + n) p)))).setCell ⟨w.heap.size, 2, none⟩ (.string ⟨#[]⟩)).setCell ⟨w.heap.size, 3, none⟩ (.int .i64 0)).setCell ⟨w.heap.size, 4, none⟩ (.string ⟨#[]⟩)).setCell ⟨w.heap.size, 5, none⟩ (.bool false)).setCell ⟨w.heap.size, 6, none⟩ (.slice none 0 0)).setCell ⟨w.heap.size, 7, none⟩ (.slice none 0 0)).setCell ⟨w.heap.size, 8, none⟩ (.int .i64 0)).setCell ⟨w.heap.size, 9, none⟩ (.int .i64 0)).setCell ⟨w.heap.size, 10, none⟩ (.string ⟨#[]⟩)).setCell ⟨w.heap.size, 11, none⟩ (.int .i64 0)).setCell ⟨w.heap.size, 12, none⟩ (.bool false)).setCell ⟨w.heap.size, 13, none⟩ (.bool false)).setCell ⟨w.heap.size, 14, none⟩ (.bool false)).setCell ⟨w.heap.size, 15, none⟩ (.slice none 0 0)) := by
    simp only [World.setCells, Nat.reduceAdd]
  refine worldEq hch.symm ?_
  have hBW := belowSets hBB [.int .i64 23, .string (meantS (s.extract (i + n) p)), .string ⟨#[]⟩, .int .i64 0, .string ⟨#[]⟩, .bool false, .slice none 0 0, .slice none 0 0, .int .i64 0, .int .i64 0, .string ⟨#[]⟩, .int .i64 0, .bool false, .bool false, .bool false, .slice none 0 0] 0
  have hin := World.cell?_setCells_in w.heap.size [.int .i64 23, .string (meantS (s.extract (i + n) p)), .string ⟨#[]⟩, .int .i64 0, .string ⟨#[]⟩, .bool false, .slice none 0 0, .slice none 0 0, .int .i64 0, .int .i64 0, .string ⟨#[]⟩, .int .i64 0, .bool false, .bool false, .bool false, .slice none 0 0] 0 w3 hsome
  clear hch
  generalize w3.setCells w.heap.size 0 [.int .i64 23, .string (meantS (s.extract (i + n) p)), .string ⟨#[]⟩, .int .i64 0, .string ⟨#[]⟩, .bool false, .slice none 0 0, .slice none 0 0, .int .i64 0, .int .i64 0, .string ⟨#[]⟩, .int .i64 0, .bool false, .bool false, .bool false, .slice none 0 0] = W at hBW hin
  have d0 : W.cell? ⟨w.heap.size, 0, none⟩ = some (.int .i64 23) := hin 0 (by simp); have d1 : W.cell? ⟨w.heap.size, 1, none⟩ = some (.string (meantS (s.extract (i + n) p))) := hin 1 (by simp); have d2 : W.cell? ⟨w.heap.size, 2, none⟩ = some (.string ⟨#[]⟩) := hin 2 (by simp); have d3 : W.cell? ⟨w.heap.size, 3, none⟩ = some (.int .i64 0) := hin 3 (by simp); have d4 : W.cell? ⟨w.heap.size, 4, none⟩ = some (.string ⟨#[]⟩) := hin 4 (by simp); have d5 : W.cell? ⟨w.heap.size, 5, none⟩ = some (.bool false) := hin 5 (by simp); have d6 : W.cell? ⟨w.heap.size, 6, none⟩ = some (.slice none 0 0) := hin 6 (by simp); have d7 : W.cell? ⟨w.heap.size, 7, none⟩ = some (.slice none 0 0) := hin 7 (by simp); have d8 : W.cell? ⟨w.heap.size, 8, none⟩ = some (.int .i64 0) := hin 8 (by simp); have d9 : W.cell? ⟨w.heap.size, 9, none⟩ = some (.int .i64 0) := hin 9 (by simp); have d10 : W.cell? ⟨w.heap.size, 10, none⟩ = some (.string ⟨#[]⟩) := hin 10 (by simp); have d11 : W.cell? ⟨w.heap.size, 11, none⟩ = some (.int .i64 0) := hin 11 (by simp); have d12 : W.cell? ⟨w.heap.size, 12, none⟩ = some (.bool false) := hin 12 (by simp); have d13 : W.cell? ⟨w.heap.size, 13, none⟩ = some (.bool false) := hin 13 (by simp); have d14 : W.cell? ⟨w.heap.size, 14, none⟩ = some (.bool false) := hin 14 (by simp); have d15 : W.cell? ⟨w.heap.size, 15, none⟩ = some (.slice none 0 0) := hin 15 (by simp)
  clear hin

  refine bodyPost_ret (v := .tuple #[.agg #[.int .i64 23, .string (meantS (s.extract (i + n) p)), .string ⟨#[]⟩, .int .i64 0, .string ⟨#[]⟩, .bool false, .slice none 0 0, .slice none 0 0, .int .i64 0, .int .i64 0, .string ⟨#[]⟩, .int .i64 0, .bool false, .bool false, .bool false, .slice none 0 0], .int .i64 i, .int .i64 (p + n : Nat), .bool true]) (by simp [results, Try.results13, go_sem, d0, d1, d2, d3, d4, d5, d6, d7, d8, d9, d10, d11, d12, d13, d14, d15]) rfl ⟨rfl, ?_⟩
  exact hBW

set_option maxHeartbeats 2000000 in
set_option maxRecDepth 100000 in
theorem codeSpan_plain (s : ByteArray) (i n : Nat) (hs : s.size ≤ 300) (hi : i < s.size) (h96 : bt s i = 96) (hn : runEnd tickB s i = i + n) (hn80 : n ≤ 80) (h9 : ∀ k, k < s.size → bt s k ≠ 9) (hsp : spanFrom s n (i + n) = none) (w : World) :
    Calls Try.prog 13 #[.string s, .int .i64 i] w fun e w1 => ∃ t, e = .returned (.tuple #[.agg #[.int .i64 20, .string t, .string ⟨#[]⟩, .int .i64 0, .string ⟨#[]⟩, .bool false, .slice none 0 0, .slice none 0 0, .int .i64 0, .int .i64 0, .string ⟨#[]⟩, .int .i64 0, .bool false, .bool false, .bool false, .slice none 0 0], .int .i64 i, .int .i64 (i + n : Nat), .bool true]) ∧ Below w.heap.size w w1 := by
  replace h96 := Lib.hid h96
  replace hn := Lib.hid hn
  replace h9 := Lib.hid h9
  replace hsp := Lib.hid hsp
  go_enter Try.func13, Try.ntmps13
  go_wp2_with (first | (go_at_call 22; refine (zzSpan_c s i n hs hi h96.out hn.out hn80 h9.out _).mono ?_; rintro e w2 hS; obtain ⟨b2, t, hB2, hb2, rfl, hcell⟩ := spanNone hsp.out hS) | (go_at_call 21; refine (two_plain b2 _ _ _ _ hb2 hcell).mono ?_; rintro e w3 ⟨rfl, hB3⟩; have c0 : w3.cell? ⟨w.heap.size, 0, none⟩ = some (.int .i64 0) := heldCell hB2 hB3 0; have f0 := heldFrozen hB2 hB3 0; have c1 : w3.cell? ⟨w.heap.size, 1, none⟩ = some (.string ⟨#[]⟩) := heldCell hB2 hB3 1; have f1 := heldFrozen hB2 hB3 1; have c2 : w3.cell? ⟨w.heap.size, 2, none⟩ = some (.string ⟨#[]⟩) := heldCell hB2 hB3 2; have f2 := heldFrozen hB2 hB3 2; have c3 : w3.cell? ⟨w.heap.size, 3, none⟩ = some (.int .i64 0) := heldCell hB2 hB3 3; have f3 := heldFrozen hB2 hB3 3; have c4 : w3.cell? ⟨w.heap.size, 4, none⟩ = some (.string ⟨#[]⟩) := heldCell hB2 hB3 4; have f4 := heldFrozen hB2 hB3 4; have c5 : w3.cell? ⟨w.heap.size, 5, none⟩ = some (.bool false) := heldCell hB2 hB3 5; have f5 := heldFrozen hB2 hB3 5; have c6 : w3.cell? ⟨w.heap.size, 6, none⟩ = some (.slice none 0 0) := heldCell hB2 hB3 6; have f6 := heldFrozen hB2 hB3 6; have c7 : w3.cell? ⟨w.heap.size, 7, none⟩ = some (.slice none 0 0) := heldCell hB2 hB3 7; have f7 := heldFrozen hB2 hB3 7; have c8 : w3.cell? ⟨w.heap.size, 8, none⟩ = some (.int .i64 0) := heldCell hB2 hB3 8; have f8 := heldFrozen hB2 hB3 8; have c9 : w3.cell? ⟨w.heap.size, 9, none⟩ = some (.int .i64 0) := heldCell hB2 hB3 9; have f9 := heldFrozen hB2 hB3 9; have c10 : w3.cell? ⟨w.heap.size, 10, none⟩ = some (.string ⟨#[]⟩) := heldCell hB2 hB3 10; have f10 := heldFrozen hB2 hB3 10; have c11 : w3.cell? ⟨w.heap.size, 11, none⟩ = some (.int .i64 0) := heldCell hB2 hB3 11; have f11 := heldFrozen hB2 hB3 11; have c12 : w3.cell? ⟨w.heap.size, 12, none⟩ = some (.bool false) := heldCell hB2 hB3 12; have f12 := heldFrozen hB2 hB3 12; have c13 : w3.cell? ⟨w.heap.size, 13, none⟩ = some (.bool false) := heldCell hB2 hB3 13; have f13 := heldFrozen hB2 hB3 13; have c14 : w3.cell? ⟨w.heap.size, 14, none⟩ = some (.bool false) := heldCell hB2 hB3 14; have f14 := heldFrozen hB2 hB3 14; have c15 : w3.cell? ⟨w.heap.size, 15, none⟩ = some (.slice none 0 0) := heldCell hB2 hB3 15; have f15 := heldFrozen hB2 hB3 15))
  have hBB := heldBelow hB2 hB3
  have hsome : ∀ j, j < 16 → (w3.cell? ⟨w.heap.size, 0 + j, none⟩).isSome = true := fun j hj => by
    rw [Nat.zero_add, heldCell hB2 hB3 j]; simp; omega
  have hch : w3.setCells w.heap.size 0 [.int .i64 20, .string t, .string ⟨#[]⟩, .int .i64 0, .string ⟨#[]⟩, .bool false, .slice none 0 0, .slice none 0 0, .int .i64 0, .int .i64 0, .string ⟨#[]⟩, .int .i64 0, .bool false, .bool false, .bool false, .slice none 0 0] = ((((((((((((((((w3.setCell ⟨w.heap.size, 0, none⟩ (.int .i64 20)).setCell ⟨w.heap.size, 1, none⟩ (.string t)).setCell ⟨w.heap.size, 2, none⟩ (.string ⟨#[]⟩)).setCell ⟨w.heap.size, 3, none⟩ (.int .i64 0)).setCell ⟨w.heap.size, 4, none⟩ (.string ⟨#[]⟩)).setCell ⟨w.heap.size, 5, none⟩ (.bool false)).setCell ⟨w.heap.size, 6, none⟩ (.slice none 0 0)).setCell ⟨w.heap.size, 7, none⟩ (.slice none 0 0)).setCell ⟨w.heap.size, 8, none⟩ (.int .i64 0)).setCell ⟨w.heap.size, 9, none⟩ (.int .i64 0)).setCell ⟨w.heap.size, 10, none⟩ (.string ⟨#[]⟩)).setCell ⟨w.heap.size, 11, none⟩ (.int .i64 0)).setCell ⟨w.heap.size, 12, none⟩ (.bool false)).setCell ⟨w.heap.size, 13, none⟩ (.bool false)).setCell ⟨w.heap.size, 14, none⟩ (.bool false)).setCell ⟨w.heap.size, 15, none⟩ (.slice none 0 0)) := by
    simp only [World.setCells, Nat.reduceAdd]
  refine worldEq hch.symm ?_
  have hBW := belowSets hBB [.int .i64 20, .string t, .string ⟨#[]⟩, .int .i64 0, .string ⟨#[]⟩, .bool false, .slice none 0 0, .slice none 0 0, .int .i64 0, .int .i64 0, .string ⟨#[]⟩, .int .i64 0, .bool false, .bool false, .bool false, .slice none 0 0] 0
  have hin := World.cell?_setCells_in w.heap.size [.int .i64 20, .string t, .string ⟨#[]⟩, .int .i64 0, .string ⟨#[]⟩, .bool false, .slice none 0 0, .slice none 0 0, .int .i64 0, .int .i64 0, .string ⟨#[]⟩, .int .i64 0, .bool false, .bool false, .bool false, .slice none 0 0] 0 w3 hsome
  clear hch
  generalize w3.setCells w.heap.size 0 [.int .i64 20, .string t, .string ⟨#[]⟩, .int .i64 0, .string ⟨#[]⟩, .bool false, .slice none 0 0, .slice none 0 0, .int .i64 0, .int .i64 0, .string ⟨#[]⟩, .int .i64 0, .bool false, .bool false, .bool false, .slice none 0 0] = W at hBW hin
  have d0 : W.cell? ⟨w.heap.size, 0, none⟩ = some (.int .i64 20) := hin 0 (by simp); have d1 : W.cell? ⟨w.heap.size, 1, none⟩ = some (.string t) := hin 1 (by simp); have d2 : W.cell? ⟨w.heap.size, 2, none⟩ = some (.string ⟨#[]⟩) := hin 2 (by simp); have d3 : W.cell? ⟨w.heap.size, 3, none⟩ = some (.int .i64 0) := hin 3 (by simp); have d4 : W.cell? ⟨w.heap.size, 4, none⟩ = some (.string ⟨#[]⟩) := hin 4 (by simp); have d5 : W.cell? ⟨w.heap.size, 5, none⟩ = some (.bool false) := hin 5 (by simp); have d6 : W.cell? ⟨w.heap.size, 6, none⟩ = some (.slice none 0 0) := hin 6 (by simp); have d7 : W.cell? ⟨w.heap.size, 7, none⟩ = some (.slice none 0 0) := hin 7 (by simp); have d8 : W.cell? ⟨w.heap.size, 8, none⟩ = some (.int .i64 0) := hin 8 (by simp); have d9 : W.cell? ⟨w.heap.size, 9, none⟩ = some (.int .i64 0) := hin 9 (by simp); have d10 : W.cell? ⟨w.heap.size, 10, none⟩ = some (.string ⟨#[]⟩) := hin 10 (by simp); have d11 : W.cell? ⟨w.heap.size, 11, none⟩ = some (.int .i64 0) := hin 11 (by simp); have d12 : W.cell? ⟨w.heap.size, 12, none⟩ = some (.bool false) := hin 12 (by simp); have d13 : W.cell? ⟨w.heap.size, 13, none⟩ = some (.bool false) := hin 13 (by simp); have d14 : W.cell? ⟨w.heap.size, 14, none⟩ = some (.bool false) := hin 14 (by simp); have d15 : W.cell? ⟨w.heap.size, 15, none⟩ = some (.slice none 0 0) := hin 15 (by simp)
  clear hin

  refine bodyPost_ret (v := .tuple #[.agg #[.int .i64 20, .string t, .string ⟨#[]⟩, .int .i64 0, .string ⟨#[]⟩, .bool false, .slice none 0 0, .slice none 0 0, .int .i64 0, .int .i64 0, .string ⟨#[]⟩, .int .i64 0, .bool false, .bool false, .bool false, .slice none 0 0], .int .i64 i, .int .i64 (i + n : Nat), .bool true]) (by simp [results, Try.results13, go_sem, d0, d1, d2, d3, d4, d5, d6, d7, d8, d9, d10, d11, d12, d13, d14, d15]) rfl ⟨t, rfl, ?_⟩
  exact hBW
end Go.Proofs.Ytiilhmagepncgaa.W
