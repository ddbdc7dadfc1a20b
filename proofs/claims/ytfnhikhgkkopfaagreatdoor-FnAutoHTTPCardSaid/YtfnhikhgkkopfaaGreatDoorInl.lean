/- Walks of impl.inline at a plain text and at a link to itself. Condition: the inline's cells hold what is told. -/
import Derived.Test.YtfnhikhgkkopfaaGreatDoorInls
import Derived.Carry
import Derived.Deep.RegionHeld3
namespace Go.Proofs.YtfnhikhgkkopfaaGreatDoor.W
open Go.RowKit Go.PlainAid
set_option linter.unusedVariables false

@[go_sem] theorem ta_Plain_Plain (v : Value) (w : World) : (Instr.typeAssert (.iface 88 v) 40 88 true).run Tryz.prog w = .ok (.tuple #[v, .bool true]) w := by kernel_rfl
@[go_sem] theorem ta_Plain_emphPlain (v : Value) (w : World) : (Instr.typeAssert (.iface 88 v) 40 116 true).run Tryz.prog w = .ok (.tuple #[.pointer none, .bool false]) w := by kernel_rfl
@[go_sem] theorem ta_Plain_openPlain (v : Value) (w : World) : (Instr.typeAssert (.iface 88 v) 40 119 true).run Tryz.prog w = .ok (.tuple #[.pointer none, .bool false]) w := by kernel_rfl
@[go_sem] theorem ta_Plain_Escaped (v : Value) (w : World) : (Instr.typeAssert (.iface 88 v) 40 84 true).run Tryz.prog w = .ok (.tuple #[.pointer none, .bool false]) w := by kernel_rfl
@[go_sem] theorem ta_Plain_SoftBreak (v : Value) (w : World) : (Instr.typeAssert (.iface 88 v) 40 52 true).run Tryz.prog w = .ok (.tuple #[.pointer none, .bool false]) w := by kernel_rfl
@[go_sem] theorem ta_Plain_HardBreak (v : Value) (w : World) : (Instr.typeAssert (.iface 88 v) 40 55 true).run Tryz.prog w = .ok (.tuple #[.pointer none, .bool false]) w := by kernel_rfl
@[go_sem] theorem ta_Plain_Code (v : Value) (w : World) : (Instr.typeAssert (.iface 88 v) 40 57 true).run Tryz.prog w = .ok (.tuple #[.pointer none, .bool false]) w := by kernel_rfl
@[go_sem] theorem ta_Plain_Emph (v : Value) (w : World) : (Instr.typeAssert (.iface 88 v) 40 60 true).run Tryz.prog w = .ok (.tuple #[.pointer none, .bool false]) w := by kernel_rfl
@[go_sem] theorem ta_Plain_Strong (v : Value) (w : World) : (Instr.typeAssert (.iface 88 v) 40 63 true).run Tryz.prog w = .ok (.tuple #[.pointer none, .bool false]) w := by kernel_rfl
@[go_sem] theorem ta_Plain_Del (v : Value) (w : World) : (Instr.typeAssert (.iface 88 v) 40 65 true).run Tryz.prog w = .ok (.tuple #[.pointer none, .bool false]) w := by kernel_rfl
@[go_sem] theorem ta_Plain_Link (v : Value) (w : World) : (Instr.typeAssert (.iface 88 v) 40 70 true).run Tryz.prog w = .ok (.tuple #[.pointer none, .bool false]) w := by kernel_rfl
@[go_sem] theorem ta_Link_Plain (v : Value) (w : World) : (Instr.typeAssert (.iface 70 v) 40 88 true).run Tryz.prog w = .ok (.tuple #[.pointer none, .bool false]) w := by kernel_rfl
@[go_sem] theorem ta_Link_emphPlain (v : Value) (w : World) : (Instr.typeAssert (.iface 70 v) 40 116 true).run Tryz.prog w = .ok (.tuple #[.pointer none, .bool false]) w := by kernel_rfl
@[go_sem] theorem ta_Link_openPlain (v : Value) (w : World) : (Instr.typeAssert (.iface 70 v) 40 119 true).run Tryz.prog w = .ok (.tuple #[.pointer none, .bool false]) w := by kernel_rfl
@[go_sem] theorem ta_Link_Escaped (v : Value) (w : World) : (Instr.typeAssert (.iface 70 v) 40 84 true).run Tryz.prog w = .ok (.tuple #[.pointer none, .bool false]) w := by kernel_rfl
@[go_sem] theorem ta_Link_SoftBreak (v : Value) (w : World) : (Instr.typeAssert (.iface 70 v) 40 52 true).run Tryz.prog w = .ok (.tuple #[.pointer none, .bool false]) w := by kernel_rfl
@[go_sem] theorem ta_Link_HardBreak (v : Value) (w : World) : (Instr.typeAssert (.iface 70 v) 40 55 true).run Tryz.prog w = .ok (.tuple #[.pointer none, .bool false]) w := by kernel_rfl
@[go_sem] theorem ta_Link_Code (v : Value) (w : World) : (Instr.typeAssert (.iface 70 v) 40 57 true).run Tryz.prog w = .ok (.tuple #[.pointer none, .bool false]) w := by kernel_rfl
@[go_sem] theorem ta_Link_Emph (v : Value) (w : World) : (Instr.typeAssert (.iface 70 v) 40 60 true).run Tryz.prog w = .ok (.tuple #[.pointer none, .bool false]) w := by kernel_rfl
@[go_sem] theorem ta_Link_Strong (v : Value) (w : World) : (Instr.typeAssert (.iface 70 v) 40 63 true).run Tryz.prog w = .ok (.tuple #[.pointer none, .bool false]) w := by kernel_rfl
@[go_sem] theorem ta_Link_Del (v : Value) (w : World) : (Instr.typeAssert (.iface 70 v) 40 65 true).run Tryz.prog w = .ok (.tuple #[.pointer none, .bool false]) w := by kernel_rfl
@[go_sem] theorem ta_Link_Link (v : Value) (w : World) : (Instr.typeAssert (.iface 70 v) 40 70 true).run Tryz.prog w = .ok (.tuple #[v, .bool true]) w := by kernel_rfl

theorem toPlain_plain (a : Addr) (w : World) :
    Calls Tryz.prog 21 #[.iface 88 (.pointer (some a))] w fun e w1 => e = .returned (.pointer (some a)) ∧ w = w1 := by
  go_enter Tryz.func21, Tryz.ntmps21
  go_wp2
  go_ret
  exact ⟨rfl, rfl⟩
theorem toPlain_link (a : Addr) (w : World) :
    Calls Tryz.prog 21 #[.iface 70 (.pointer (some a))] w fun e w1 => e = .returned (.pointer none) ∧ w = w1 := by
  go_enter Tryz.func21, Tryz.ntmps21
  go_wp2
  go_ret
  exact ⟨rfl, rfl⟩
theorem mark0 (w : World) : Calls Tryz.prog 22 #[.int .u8 0] w fun e w1 => e = .returned (.string ⟨#[]⟩) ∧ w = w1 := by
  go_enter Tryz.func22, Tryz.ntmps22
  go_wp2
  go_ret
  exact ⟨rfl, rfl⟩
set_option maxRecDepth 100000 in
theorem inline_plain (b : Nat) (t : ByteArray) (w : World) (hb : b < w.heap.size) (hc : w.cell? ⟨b, 0, none⟩ = some (.string t)) :
    Calls Tryz.prog 16 #[.iface 88 (.pointer (some ⟨b, 0, none⟩))] w (InlineSaid (.plain t) w) := by
  have hc1 : ∀ o, (w.alloc o).cell? ⟨b, 0, none⟩ = some (.string t) := fun o => by rw [World.cell?_alloc_past _ _ _ hb]; exact hc
  go_enter Tryz.func16, Tryz.ntmps16
  go_wp2_with (go_at_call 21; refine (toPlain_plain _ _).mono ?_; rintro e w1 ⟨rfl, rfl⟩)
  refine bodyPost_ret (v := .agg #[.int .i64 20, .string t, .string ⟨#[]⟩, .int .i64 0, .string ⟨#[]⟩, .bool false, .slice none 0 0, .slice none 0 0, .int .i64 0, .int .i64 0, .string ⟨#[]⟩, .int .i64 0, .bool false, .bool false, .bool false, .slice none 0 0]) (by simp [results, Tryz.results16, go_sem]) rfl ⟨_, rfl, ?_, rfl⟩
  go_grown
theorem inline_of (t : ByteArray) (b : Nat) (w : World) (hb : b < w.heap.size) (hc : w.cell? ⟨b, 0, none⟩ = some (.string t)) : ∀ w', Below w.heap.size w w' →
    Calls Tryz.prog 16 #[.iface 88 (.pointer (some ⟨b, 0, none⟩))] w' (InlineSaid (.plain t) w') := fun w' hB =>
  inline_plain b t w' (Nat.lt_of_lt_of_le hb hB.size) ((hB.cell (p := ⟨b, 0, none⟩) hb).trans hc)
theorem oneKept {w w3 : World} {O : Obj} {b k : Nat} (h3 : Below (w.alloc O).drew.heap.size (w.alloc O).drew w3) (hb : b < w.heap.size) : w3.cell? ⟨b, k, none⟩ = w.cell? ⟨b, k, none⟩ := by
  rw [h3.cell (p := ⟨b, k, none⟩) (by show b < (w.alloc O).heap.size; simp; omega)]
  show (w.alloc O).cell? _ = _
  rw [World.cell?_alloc_past _ _ _ hb]
theorem oneCell {w w3 : World} {Z : Array Value} {t : TypeId} (h3 : Below (w.alloc (.cells Z t)).drew.heap.size (w.alloc (.cells Z t)).drew w3) (k : Nat) : w3.cell? ⟨w.heap.size, k, none⟩ = Z[k]? := by
  rw [h3.cell (p := ⟨w.heap.size, k, none⟩) (by show w.heap.size < (w.alloc _).heap.size; simp)]
  show (w.alloc _).cell? _ = _
  rw [World.cell?_alloc_at _ _ _ _ rfl]
theorem oneFrozen {w w3 : World} {Z : Array Value} {t : TypeId} (h3 : Below (w.alloc (.cells Z t)).drew.heap.size (w.alloc (.cells Z t)).drew w3) (k : Nat) : w3.frozen? ⟨w.heap.size, k, none⟩ = false := by
  rw [h3.frozen (p := ⟨w.heap.size, k, none⟩) (by show w.heap.size < (w.alloc _).heap.size; simp)]
  show (w.alloc _).frozen? _ = _
  rw [World.frozen?_alloc_at _ _ _ _ rfl]
theorem oneBelow {w w3 : World} {O : Obj} (h3 : Below (w.alloc O).drew.heap.size (w.alloc O).drew w3) : Below w.heap.size w w3 := by
  have h := ((Below.refl w.heap.size w).alloc (Nat.le_refl _) O)
  exact (Below.trans (b := (w.alloc O).drew) ⟨h.os, h.tape, h.output, h.size, h.block⟩ (h3.mono (by show w.heap.size ≤ (w.alloc O).heap.size; simp)))
theorem belowSets {B : Nat} {w : World} : ∀ {W : World} (h : Below B w W) (vs : List Value) (o : Nat), Below B w (W.setCells B o vs)
  | W, h, [], o => h
  | W, h, v :: r, o => by
    rw [World.setCells]
    exact belowSets (h.setCell (p := ⟨B, o, none⟩) (Nat.le_refl _) v) r (o + 1)
theorem keptSets (w : World) (B g : Nat) : ∀ (vs : List Value) (t : Nat), g ≠ B → (w.setCells B 0 vs).cell? ⟨g, t, none⟩ = w.cell? ⟨g, t, none⟩ := fun vs t h =>
  World.cell?_setCells_out B vs 0 w ⟨g, t, none⟩ fun h1 _ => absurd h1 h
theorem sizeSets : ∀ (w : World) (B o : Nat) (vs : List Value), (w.setCells B o vs).heap.size = w.heap.size
  | w, B, o, [] => rfl
  | w, B, o, v :: r => by
    rw [World.setCells, sizeSets]
    simp
theorem worldEq {P : Program} {fn : Func} {R : Ending → World → Prop} {x : Exit} {a : Act} {w w' : World} (h : w = w') (hb : bodyPost P fn R x a w') : bodyPost P fn R x a w := by
  rw [h]; exact hb
def OneSaid (u : ByteArray) (w : World) (e : Ending) (w1 : World) : Prop := ∃ g cap, e = .returned (.slice (some ⟨g, 0, none⟩) 1 cap) ∧ Below w.heap.size w w1 ∧ w.heap.size ≤ g ∧ g < w1.heap.size ∧ ∀ t, t < 16 → w1.cell? ⟨g, t, none⟩ = (nodeP u)[t]?
theorem inlines_one (u : ByteArray) (ib pb cap : Nat) (w : World) (hib : ib < w.heap.size) (hpb : pb < w.heap.size) (hc : w.cell? ⟨ib, 0, none⟩ = some (.iface 88 (.pointer (some ⟨pb, 0, none⟩)))) (hd : w.cell? ⟨pb, 0, none⟩ = some (.string u)) :
    Calls Tryz.prog 11 #[.slice (some ⟨ib, 0, none⟩) 1 cap] w (OneSaid u w) :=
  (inlines_c 1 (by omega) (by omega) ib cap (fun _ => .iface 88 (.pointer (some ⟨pb, 0, none⟩))) (fun _ => .plain u) w (fun j hj => by rw [show j = 0 from by omega]; exact hc) hib (fun _ _ => inline_of u pb w hpb hd)).mono
    fun e w1 ⟨g, cap, he, hB, h1, h2, h3⟩ => ⟨g, cap, he, hB, h1, h2, fun t ht => by
      obtain ⟨cs, hN, hcs⟩ := h3 0 (by omega)
      have e : cs = nodeP u := hN
      have := hcs t ht
      rw [e] at this
      simpa using this⟩
end Go.Proofs.YtfnhikhgkkopfaaGreatDoor.W
