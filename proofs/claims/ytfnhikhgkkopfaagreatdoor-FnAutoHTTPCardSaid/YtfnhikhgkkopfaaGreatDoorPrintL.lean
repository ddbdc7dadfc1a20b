/- A walk of a link's PrintHTML over an address in which no letter is replaced. Condition: the address has at most 300 bytes. -/
import Derived.Test.YtfnhikhgkkopfaaGreatDoorPrint
import Derived.Deep.RegionHeld3
namespace Go.Proofs.YtfnhikhgkkopfaaGreatDoor.W
open Go.RowKit Go.PlainAid
set_option linter.unusedVariables false

set_option maxHeartbeats 1000000 in
set_option maxRecDepth 100000 in
theorem link_print (u : ByteArray) (hs : u.size ≤ 300) (hq : ∀ k, k < u.size → okB (bt u k) = true) (lb ib pb cap B b : Nat) (l : List UInt8) (hl : l.length ≤ 2000) (w : World) (a0 : lb < B) (a1 : ib < B) (a2 : pb < B)
    (d0 : w.cell? ⟨lb, 0, none⟩ = some (.slice (some ⟨ib, 0, none⟩) 1 cap)) (d1 : w.cell? ⟨lb, 1, none⟩ = some (.string u)) (d2 : w.cell? ⟨lb, 2, none⟩ = some (.string ⟨#[]⟩))
    (d4 : w.cell? ⟨ib, 0, none⟩ = some (.iface 88 (.pointer (some ⟨pb, 0, none⟩)))) (d5 : w.cell? ⟨pb, 0, none⟩ = some (.string u))
    (hI : Lib.IsBuffer 38 5 B b (Lib.byteCells l) w) (hBw : B ≤ w.heap.size) :
    Calls Tryz.prog 97 #[.pointer (some ⟨lb, 0, none⟩), .pointer (some ⟨b, 0, none⟩)] w (Printed B b (l ++ [60, 97, 32, 104, 114, 101, 102, 61, 34] ++ u.data.toList ++ [34, 62] ++ u.data.toList ++ [60, 47, 97, 62]) w) := by
  have hlt := hI.lt
  have cR := Lib.hid (fun pb w h1 h2 => replace_q u (by omega) hq pb w h1 h2)
  replace hq := Lib.hid hq
  have z1 : ¬ (9223372036854775807 < 9 + u.size) := by omega
  have z2 : ¬ (9223372036854775807 < 9 + u.size + 1) := by omega
  go_enter Tryz.func97, Tryz.ntmps97
  go_wp2_with fail
  go_region_held3 (fun w' => w'.cell? ⟨lb, 1, none⟩ = some (.string u)) (go_keep)
    (first | (go_at_call 95; refine (htmlLinkEscaper_c _).mono ?_; rintro e w1 ⟨rfl, hK, hB1, hz1⟩; have hB0 : Below w.heap.size w w1 := ⟨hB1.os, hB1.tape, hB1.output, hB1.size, hB1.block⟩; have k0 := (hB0.cell (p := ⟨lb, 1, none⟩) (by show lb < w.heap.size; omega)).trans d1; replace hK := Lib.hid hK) | (go_at_call 76; refine (cR.out w.heap.size _ ?_ ?_).mono ?_; (exact hK.out); (exact hz1); rintro e w2 ⟨rfl, hB2⟩; have hB02 : Below w.heap.size w w2 := hB0.trans (hB2.mono hB0.size); have k2 := (hB02.cell (p := ⟨lb, 1, none⟩) (by show lb < w.heap.size; omega)).trans d1; have hI2 := Lib.hid (bufBelow hI hB02)) | (go_at_call 61; refine (Tryz.Buffer_WriteString_k B b _ _ _ hI2.out (Nat.le_trans hBw hB02.size) (Lib.byteCells_one _) ?_).mono ?_; (rw [Lib.byteCells_length, ByteArray.size_append, ByteArray.size_append]; show l.length + (9 + u.size + 1) ≤ 140737488355328; omega); rintro e w3 ⟨rfl, hI3, hB3, _⟩; have k3 := (hB3.cell (p := ⟨lb, 1, none⟩) a0).trans k2))
  have hd : ((⟨#[60, 97, 32, 104, 114, 101, 102, 61, 34]⟩ : ByteArray) ++ u ++ ⟨#[34]⟩).data.toList = [60, 97, 32, 104, 114, 101, 102, 61, 34] ++ u.data.toList ++ [34] := by simp [ByteArray.data_append]
  rw [hd] at hI3
  obtain ⟨l3, hl3⟩ : ∃ l3, l3 = l ++ ([60, 97, 32, 104, 114, 101, 102, 61, 34] ++ u.data.toList ++ [34]) := ⟨_, rfl⟩
  have hI3 : Lib.IsBuffer 38 5 B b (Lib.byteCells l3) w3 := by rw [hl3, Lib.byteCells, List.map_append]; exact hI3
  have hz3 : l3.length ≤ 2400 := by rw [hl3]; have := hs; simp [List.length_append]; omega
  have hB03 : Below B w w3 := (hB02.mono hBw).trans hB3
  have t3 := (hB03.cell (p := ⟨lb, 2, none⟩) a0).trans d2
  have s3 := (hB03.cell (p := ⟨lb, 0, none⟩) a0).trans d0
  have e3 := (hB03.cell (p := ⟨ib, 0, none⟩) a1).trans d4
  have p3 := (hB03.cell (p := ⟨pb, 0, none⟩) a2).trans d5
  have hlt3 := hI3.lt
  have hBw3 : B ≤ w3.heap.size := Nat.le_trans hBw hB03.size
  clear hK hI2 cR
  go_wp2_with (go_at_call 61; refine (Tryz.Buffer_WriteString_k B b _ _ _ hI3 hBw3 (Lib.byteCells_one _) ?_).mono ?_; (rw [Lib.byteCells_length]; show l3.length + 1 ≤ 140737488355328; omega); rintro e w4 ⟨rfl, hI4, hB4, _⟩; have s4 := (hB4.cell (p := ⟨lb, 0, none⟩) a0).trans s3; have e4 := (hB4.cell (p := ⟨ib, 0, none⟩) a1).trans e3; have p4 := (hB4.cell (p := ⟨pb, 0, none⟩) a2).trans p3)
  refine Go.wp_loop_rounds 2 ?_
  have hBw4 : B ≤ w4.heap.size := Nat.le_trans hBw3 hB4.size
  obtain ⟨l4, hl4⟩ : ∃ l4, l4 = l3 ++ [62] := ⟨_, rfl⟩
  have hI4 : Lib.IsBuffer 38 5 B b (Lib.byteCells l4) w4 := by rw [hl4, Lib.byteCells, List.map_append]; exact hI4
  have hz4 : l4.length ≤ 2401 := by rw [hl4, List.length_append]; show _ + 1 ≤ _; omega
  have cP := Lib.hid (plain_print u (by omega) (fun k hk => Or.inl (hq.out k hk)) pb B b l4 (by omega) w4 a2 p4 hI4 hBw4)
  rw [rounds_succ]
  go_wp2_with (first | (go_at_call 119; refine cP.out.mono ?_; rintro e w5 ⟨rfl, hI5, hB5⟩))
  rw [rounds_succ]
  have hBw5 : B ≤ w5.heap.size := Nat.le_trans hBw4 hB5.size
  have hlt5 := hI5.lt
  go_wp2_with (go_at_call 61; refine (Tryz.Buffer_WriteString_k B b _ _ _ hI5 hBw5 (Lib.byteCells_one _) ?_).mono ?_; (rw [Lib.byteCells_length, List.length_append]; show l4.length + u.size + 4 ≤ 140737488355328; omega); rintro e w6 ⟨rfl, hI6, hB6, _⟩)
  go_end0
  refine ⟨rfl, ?_, ((hB03.trans hB4).trans hB5).trans hB6⟩
  have hL : l ++ [60, 97, 32, 104, 114, 101, 102, 61, 34] ++ u.data.toList ++ [34, 62] ++ u.data.toList ++ [60, 47, 97, 62] = l4 ++ u.data.toList ++ [60, 47, 97, 62] := by rw [hl4, hl3]; simp
  rw [hL, Lib.byteCells, List.map_append]
  exact hI6
end Go.Proofs.YtfnhikhgkkopfaaGreatDoor.W
