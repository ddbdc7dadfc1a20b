/- Walks of impl.inline and impl.two at a plain text, of impl.two where nothing was read, and of the state that a parser begins with; words on a Node's block behind two calls. Condition: the inline's cell holds its text. -/
import Derived.Test.YthgdgpoblbblpaaGreatDoorStr
import Derived.Test.YthgdgpoblbblpaaGreatDoorRet
import Derived.Test.YthgdgpoblbblpaaGreatDoorRows
import Derived.Carry
namespace Go.Proofs.YthgdgpoblbblpaaGreatDoor.W
open Go.RowKit Go.PlainAid
set_option linter.unusedVariables false

@[go_sem] theorem ta_Plain_Plain (v : Value) (w : World) : (Instr.typeAssert (.iface 46 v) 38 46 true).run Tryz.prog w = .ok (.tuple #[v, .bool true]) w := by kernel_rfl
@[go_sem] theorem ta_Plain_emphPlain (v : Value) (w : World) : (Instr.typeAssert (.iface 46 v) 38 108 true).run Tryz.prog w = .ok (.tuple #[.pointer none, .bool false]) w := by kernel_rfl
@[go_sem] theorem ta_Plain_openPlain (v : Value) (w : World) : (Instr.typeAssert (.iface 46 v) 38 111 true).run Tryz.prog w = .ok (.tuple #[.pointer none, .bool false]) w := by kernel_rfl
@[go_sem] theorem ta_Plain_Escaped (v : Value) (w : World) : (Instr.typeAssert (.iface 46 v) 38 50 true).run Tryz.prog w = .ok (.tuple #[.pointer none, .bool false]) w := by kernel_rfl
@[go_sem] theorem ta_Plain_SoftBreak (v : Value) (w : World) : (Instr.typeAssert (.iface 46 v) 38 53 true).run Tryz.prog w = .ok (.tuple #[.pointer none, .bool false]) w := by kernel_rfl
@[go_sem] theorem ta_Plain_HardBreak (v : Value) (w : World) : (Instr.typeAssert (.iface 46 v) 38 54 true).run Tryz.prog w = .ok (.tuple #[.pointer none, .bool false]) w := by kernel_rfl
@[go_sem] theorem ta_Plain_Code (v : Value) (w : World) : (Instr.typeAssert (.iface 46 v) 38 55 true).run Tryz.prog w = .ok (.tuple #[.pointer none, .bool false]) w := by kernel_rfl
@[go_sem] theorem ta_Plain_Emph (v : Value) (w : World) : (Instr.typeAssert (.iface 46 v) 38 57 true).run Tryz.prog w = .ok (.tuple #[.pointer none, .bool false]) w := by kernel_rfl
@[go_sem] theorem ta_Plain_Strong (v : Value) (w : World) : (Instr.typeAssert (.iface 46 v) 38 62 true).run Tryz.prog w = .ok (.tuple #[.pointer none, .bool false]) w := by kernel_rfl
@[go_sem] theorem ta_Plain_Del (v : Value) (w : World) : (Instr.typeAssert (.iface 46 v) 38 64 true).run Tryz.prog w = .ok (.tuple #[.pointer none, .bool false]) w := by kernel_rfl
@[go_sem] theorem ta_Plain_Link (v : Value) (w : World) : (Instr.typeAssert (.iface 46 v) 38 66 true).run Tryz.prog w = .ok (.tuple #[.pointer none, .bool false]) w := by kernel_rfl
@[go_sem] theorem ta_Plain_Image (v : Value) (w : World) : (Instr.typeAssert (.iface 46 v) 38 70 true).run Tryz.prog w = .ok (.tuple #[.pointer none, .bool false]) w := by kernel_rfl
@[go_sem] theorem ta_Plain_AutoLink (v : Value) (w : World) : (Instr.typeAssert (.iface 46 v) 38 72 true).run Tryz.prog w = .ok (.tuple #[.pointer none, .bool false]) w := by kernel_rfl
@[go_sem] theorem ta_Plain_HTMLTag (v : Value) (w : World) : (Instr.typeAssert (.iface 46 v) 38 75 true).run Tryz.prog w = .ok (.tuple #[.pointer none, .bool false]) w := by kernel_rfl
@[go_sem] theorem ta_Plain_Task (v : Value) (w : World) : (Instr.typeAssert (.iface 46 v) 38 77 true).run Tryz.prog w = .ok (.tuple #[.pointer none, .bool false]) w := by kernel_rfl
@[go_sem] theorem ta_Plain_Emoji (v : Value) (w : World) : (Instr.typeAssert (.iface 46 v) 38 80 true).run Tryz.prog w = .ok (.tuple #[.pointer none, .bool false]) w := by kernel_rfl

theorem toPlain_plain (a : Addr) (w : World) :
    Calls Tryz.prog 19 #[.iface 46 (.pointer (some a))] w fun e w1 => e = .returned (.pointer (some a)) ∧ w = w1 := by
  go_enter Tryz.func19, Tryz.ntmps19
  go_wp2
  go_ret
  exact ⟨rfl, rfl⟩

set_option maxRecDepth 100000 in
theorem inline_plain (b : Nat) (text : ByteArray) (w : World) (hb : b < w.heap.size) (hc : w.cell? ⟨b, 0, none⟩ = some (.string text)) :
    Calls Tryz.prog 16 #[.iface 46 (.pointer (some ⟨b, 0, none⟩))] w fun e w1 => e = .returned (.agg #[.int .i64 20, .string text, .string ⟨#[]⟩, .int .i64 0, .string ⟨#[]⟩, .bool false, .slice none 0 0, .slice none 0 0, .int .i64 0, .int .i64 0, .string ⟨#[]⟩, .int .i64 0, .bool false, .bool false, .bool false, .slice none 0 0]) ∧ w1 = w.alloc (.cells #[.int .i64 20, .string text, .string ⟨#[]⟩, .int .i64 0, .string ⟨#[]⟩, .bool false, .slice none 0 0, .slice none 0 0, .int .i64 0, .int .i64 0, .string ⟨#[]⟩, .int .i64 0, .bool false, .bool false, .bool false, .slice none 0 0] 28) := by
  have hc1 : ∀ o, (w.alloc o).cell? ⟨b, 0, none⟩ = some (.string text) := fun o => by rw [World.cell?_alloc_past _ _ _ hb]; exact hc
  go_enter Tryz.func16, Tryz.ntmps16
  go_wp2_with (go_at_call 19; refine (toPlain_plain _ _).mono ?_; rintro e w1 ⟨rfl, rfl⟩)
  refine bodyPost_ret (v := .agg #[.int .i64 20, .string text, .string ⟨#[]⟩, .int .i64 0, .string ⟨#[]⟩, .bool false, .slice none 0 0, .slice none 0 0, .int .i64 0, .int .i64 0, .string ⟨#[]⟩, .int .i64 0, .bool false, .bool false, .bool false, .slice none 0 0]) (by simp [results, Tryz.results16, go_sem]) rfl ⟨rfl, ?_⟩
  rfl
set_option maxRecDepth 100000 in
theorem two_plain (b : Nat) (text : ByteArray) (m n : Int) (w : World) (hb : b < w.heap.size) (hc : w.cell? ⟨b, 0, none⟩ = some (.string text)) :
    Calls Tryz.prog 12 #[.iface 46 (.pointer (some ⟨b, 0, none⟩)), .int .i64 m, .int .i64 n, .bool true] w fun e w1 => e = .returned (.tuple #[.agg #[.int .i64 20, .string text, .string ⟨#[]⟩, .int .i64 0, .string ⟨#[]⟩, .bool false, .slice none 0 0, .slice none 0 0, .int .i64 0, .int .i64 0, .string ⟨#[]⟩, .int .i64 0, .bool false, .bool false, .bool false, .slice none 0 0], .int .i64 m, .int .i64 n, .bool true]) ∧ Below w.heap.size w w1 := by
  go_enter Tryz.func12, Tryz.ntmps12
  go_wp2_with (go_at_call 16; refine (inline_plain b text _ (by simp; omega) (by rw [World.cell?_alloc_past _ _ _ hb]; exact hc)).mono ?_; rintro e w1 ⟨rfl, rfl⟩)
  refine bodyPost_ret (v := .tuple #[.agg #[.int .i64 20, .string text, .string ⟨#[]⟩, .int .i64 0, .string ⟨#[]⟩, .bool false, .slice none 0 0, .slice none 0 0, .int .i64 0, .int .i64 0, .string ⟨#[]⟩, .int .i64 0, .bool false, .bool false, .bool false, .slice none 0 0], .int .i64 m, .int .i64 n, .bool true]) (by simp [results, Tryz.results12, go_sem]) rfl ⟨rfl, ?_⟩
  go_grown

set_option maxRecDepth 100000 in
theorem two_no (v : Value) (m n : Int) (w : World) :
    Calls Tryz.prog 12 #[v, .int .i64 m, .int .i64 n, .bool false] w fun e w1 => e = .returned (.tuple #[.agg #[.int .i64 0, .string ⟨#[]⟩, .string ⟨#[]⟩, .int .i64 0, .string ⟨#[]⟩, .bool false, .slice none 0 0, .slice none 0 0, .int .i64 0, .int .i64 0, .string ⟨#[]⟩, .int .i64 0, .bool false, .bool false, .bool false, .slice none 0 0], .int .i64 0, .int .i64 0, .bool false]) ∧ Below w.heap.size w w1 := by
  go_enter Tryz.func12, Tryz.ntmps12
  go_wp2_with fail
  refine bodyPost_ret (v := .tuple #[.agg #[.int .i64 0, .string ⟨#[]⟩, .string ⟨#[]⟩, .int .i64 0, .string ⟨#[]⟩, .bool false, .slice none 0 0, .slice none 0 0, .int .i64 0, .int .i64 0, .string ⟨#[]⟩, .int .i64 0, .bool false, .bool false, .bool false, .slice none 0 0], .int .i64 0, .int .i64 0, .bool false]) (by simp [results, Tryz.results12, go_sem]) rfl ⟨rfl, ?_⟩
  go_grown

theorem state_c (w : World) :
    Calls Tryz.prog 18 #[] w fun e w1 => ∃ b, e = .returned (.pointer (some ⟨b, 0, none⟩)) ∧ Below w.heap.size w w1 := by
  have hmm := @run_makeMap Tryz.prog
  go_enter Tryz.func18, Tryz.ntmps18
  go_wp2
  go_ret
  exact ⟨_, rfl, by go_grown⟩

theorem belowSets {B : Nat} {w : World} : ∀ {W : World} (h : Below B w W) (vs : List Value) (o : Nat), Below B w (W.setCells B o vs)
  | W, h, [], o => h
  | W, h, v :: r, o => by
    rw [World.setCells]
    exact belowSets (h.setCell (p := ⟨B, o, none⟩) (Nat.le_refl _) v) r (o + 1)
theorem worldEq {P : Program} {fn : Func} {R : Ending → World → Prop} {x : Exit} {a : Act} {w w' : World} (h : w = w') (hb : bodyPost P fn R x a w') : bodyPost P fn R x a w := by
  rw [h]; exact hb
theorem heldCell {w w2 w3 : World} {Z : Array Value} {t : TypeId} (h2 : Below (w.alloc (.cells Z t)).heap.size (w.alloc (.cells Z t)) w2) (h3 : Below w2.heap.size w2 w3) (k : Nat) : w3.cell? ⟨w.heap.size, k, none⟩ = Z[k]? := by
  have hz : w.heap.size < (w.alloc (.cells Z t)).heap.size := by simp
  have hz2 := h2.size
  rw [h3.cell (p := ⟨w.heap.size, k, none⟩) (by show w.heap.size < _; omega), h2.cell (p := ⟨w.heap.size, k, none⟩) hz, World.cell?_alloc_at _ _ _ _ rfl]
theorem heldFrozen {w w2 w3 : World} {Z : Array Value} {t : TypeId} (h2 : Below (w.alloc (.cells Z t)).heap.size (w.alloc (.cells Z t)) w2) (h3 : Below w2.heap.size w2 w3) (k : Nat) : w3.frozen? ⟨w.heap.size, k, none⟩ = false := by
  have hz : w.heap.size < (w.alloc (.cells Z t)).heap.size := by simp
  have hz2 := h2.size
  rw [h3.frozen (p := ⟨w.heap.size, k, none⟩) (by show w.heap.size < _; omega), h2.frozen (p := ⟨w.heap.size, k, none⟩) hz, World.frozen?_alloc_at _ _ _ _ rfl]
theorem heldBelow {w w2 w3 : World} {Z : Array Value} {t : TypeId} (h2 : Below (w.alloc (.cells Z t)).heap.size (w.alloc (.cells Z t)) w2) (h3 : Below w2.heap.size w2 w3) : Below w.heap.size w w3 := by
  have hz : w.heap.size < (w.alloc (.cells Z t)).heap.size := by simp
  have hz2 := h2.size
  exact (((Below.refl _ _).alloc (Nat.le_refl _) _).trans (h2.mono (by omega))).trans (h3.mono (by omega))

end Go.Proofs.YthgdgpoblbblpaaGreatDoor.W
