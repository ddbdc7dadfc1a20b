/- Walks of impl.inline at inlines of a text: what Node each becomes. Condition: the inline's cell holds its text. -/
import Derived.Test.YtiilhmagepncgaaStr
import Derived.Test.YtiilhmagepncgaaRet
namespace Go.Proofs.Ytiilhmagepncgaa.W
open Go.RowKit Go.PlainAid

@[go_sem] theorem ta_HTMLTag_Plain (v : Value) (w : World) : (Instr.typeAssert (.iface 96 v) 44 68 true).run Try.prog w = .ok (.tuple #[.pointer none, .bool false]) w := by kernel_rfl
@[go_sem] theorem ta_HTMLTag_emphPlain (v : Value) (w : World) : (Instr.typeAssert (.iface 96 v) 44 124 true).run Try.prog w = .ok (.tuple #[.pointer none, .bool false]) w := by kernel_rfl
@[go_sem] theorem ta_HTMLTag_openPlain (v : Value) (w : World) : (Instr.typeAssert (.iface 96 v) 44 127 true).run Try.prog w = .ok (.tuple #[.pointer none, .bool false]) w := by kernel_rfl
@[go_sem] theorem ta_HTMLTag_Escaped (v : Value) (w : World) : (Instr.typeAssert (.iface 96 v) 44 72 true).run Try.prog w = .ok (.tuple #[.pointer none, .bool false]) w := by kernel_rfl
@[go_sem] theorem ta_HTMLTag_SoftBreak (v : Value) (w : World) : (Instr.typeAssert (.iface 96 v) 44 75 true).run Try.prog w = .ok (.tuple #[.pointer none, .bool false]) w := by kernel_rfl
@[go_sem] theorem ta_HTMLTag_HardBreak (v : Value) (w : World) : (Instr.typeAssert (.iface 96 v) 44 76 true).run Try.prog w = .ok (.tuple #[.pointer none, .bool false]) w := by kernel_rfl
@[go_sem] theorem ta_HTMLTag_Code (v : Value) (w : World) : (Instr.typeAssert (.iface 96 v) 44 77 true).run Try.prog w = .ok (.tuple #[.pointer none, .bool false]) w := by kernel_rfl
@[go_sem] theorem ta_HTMLTag_Emph (v : Value) (w : World) : (Instr.typeAssert (.iface 96 v) 44 79 true).run Try.prog w = .ok (.tuple #[.pointer none, .bool false]) w := by kernel_rfl
@[go_sem] theorem ta_HTMLTag_Strong (v : Value) (w : World) : (Instr.typeAssert (.iface 96 v) 44 83 true).run Try.prog w = .ok (.tuple #[.pointer none, .bool false]) w := by kernel_rfl
@[go_sem] theorem ta_HTMLTag_Del (v : Value) (w : World) : (Instr.typeAssert (.iface 96 v) 44 85 true).run Try.prog w = .ok (.tuple #[.pointer none, .bool false]) w := by kernel_rfl
@[go_sem] theorem ta_HTMLTag_Link (v : Value) (w : World) : (Instr.typeAssert (.iface 96 v) 44 87 true).run Try.prog w = .ok (.tuple #[.pointer none, .bool false]) w := by kernel_rfl
@[go_sem] theorem ta_HTMLTag_Image (v : Value) (w : World) : (Instr.typeAssert (.iface 96 v) 44 91 true).run Try.prog w = .ok (.tuple #[.pointer none, .bool false]) w := by kernel_rfl
@[go_sem] theorem ta_HTMLTag_AutoLink (v : Value) (w : World) : (Instr.typeAssert (.iface 96 v) 44 93 true).run Try.prog w = .ok (.tuple #[.pointer none, .bool false]) w := by kernel_rfl
@[go_sem] theorem ta_HTMLTag_HTMLTag (v : Value) (w : World) : (Instr.typeAssert (.iface 96 v) 44 96 true).run Try.prog w = .ok (.tuple #[v, .bool true]) w := by kernel_rfl
@[go_sem] theorem ta_HTMLTag_Task (v : Value) (w : World) : (Instr.typeAssert (.iface 96 v) 44 98 true).run Try.prog w = .ok (.tuple #[.pointer none, .bool false]) w := by kernel_rfl
@[go_sem] theorem ta_HTMLTag_Emoji (v : Value) (w : World) : (Instr.typeAssert (.iface 96 v) 44 101 true).run Try.prog w = .ok (.tuple #[.pointer none, .bool false]) w := by kernel_rfl
@[go_sem] theorem ta_Plain_Plain (v : Value) (w : World) : (Instr.typeAssert (.iface 68 v) 44 68 true).run Try.prog w = .ok (.tuple #[v, .bool true]) w := by kernel_rfl
@[go_sem] theorem ta_Plain_emphPlain (v : Value) (w : World) : (Instr.typeAssert (.iface 68 v) 44 124 true).run Try.prog w = .ok (.tuple #[.pointer none, .bool false]) w := by kernel_rfl
@[go_sem] theorem ta_Plain_openPlain (v : Value) (w : World) : (Instr.typeAssert (.iface 68 v) 44 127 true).run Try.prog w = .ok (.tuple #[.pointer none, .bool false]) w := by kernel_rfl
@[go_sem] theorem ta_Plain_Escaped (v : Value) (w : World) : (Instr.typeAssert (.iface 68 v) 44 72 true).run Try.prog w = .ok (.tuple #[.pointer none, .bool false]) w := by kernel_rfl
@[go_sem] theorem ta_Plain_SoftBreak (v : Value) (w : World) : (Instr.typeAssert (.iface 68 v) 44 75 true).run Try.prog w = .ok (.tuple #[.pointer none, .bool false]) w := by kernel_rfl
@[go_sem] theorem ta_Plain_HardBreak (v : Value) (w : World) : (Instr.typeAssert (.iface 68 v) 44 76 true).run Try.prog w = .ok (.tuple #[.pointer none, .bool false]) w := by kernel_rfl
@[go_sem] theorem ta_Plain_Code (v : Value) (w : World) : (Instr.typeAssert (.iface 68 v) 44 77 true).run Try.prog w = .ok (.tuple #[.pointer none, .bool false]) w := by kernel_rfl
@[go_sem] theorem ta_Plain_Emph (v : Value) (w : World) : (Instr.typeAssert (.iface 68 v) 44 79 true).run Try.prog w = .ok (.tuple #[.pointer none, .bool false]) w := by kernel_rfl
@[go_sem] theorem ta_Plain_Strong (v : Value) (w : World) : (Instr.typeAssert (.iface 68 v) 44 83 true).run Try.prog w = .ok (.tuple #[.pointer none, .bool false]) w := by kernel_rfl
@[go_sem] theorem ta_Plain_Del (v : Value) (w : World) : (Instr.typeAssert (.iface 68 v) 44 85 true).run Try.prog w = .ok (.tuple #[.pointer none, .bool false]) w := by kernel_rfl
@[go_sem] theorem ta_Plain_Link (v : Value) (w : World) : (Instr.typeAssert (.iface 68 v) 44 87 true).run Try.prog w = .ok (.tuple #[.pointer none, .bool false]) w := by kernel_rfl
@[go_sem] theorem ta_Plain_Image (v : Value) (w : World) : (Instr.typeAssert (.iface 68 v) 44 91 true).run Try.prog w = .ok (.tuple #[.pointer none, .bool false]) w := by kernel_rfl
@[go_sem] theorem ta_Plain_AutoLink (v : Value) (w : World) : (Instr.typeAssert (.iface 68 v) 44 93 true).run Try.prog w = .ok (.tuple #[.pointer none, .bool false]) w := by kernel_rfl
@[go_sem] theorem ta_Plain_HTMLTag (v : Value) (w : World) : (Instr.typeAssert (.iface 68 v) 44 96 true).run Try.prog w = .ok (.tuple #[.pointer none, .bool false]) w := by kernel_rfl
@[go_sem] theorem ta_Plain_Task (v : Value) (w : World) : (Instr.typeAssert (.iface 68 v) 44 98 true).run Try.prog w = .ok (.tuple #[.pointer none, .bool false]) w := by kernel_rfl
@[go_sem] theorem ta_Plain_Emoji (v : Value) (w : World) : (Instr.typeAssert (.iface 68 v) 44 101 true).run Try.prog w = .ok (.tuple #[.pointer none, .bool false]) w := by kernel_rfl
@[go_sem] theorem ta_Code_Plain (v : Value) (w : World) : (Instr.typeAssert (.iface 77 v) 44 68 true).run Try.prog w = .ok (.tuple #[.pointer none, .bool false]) w := by kernel_rfl
@[go_sem] theorem ta_Code_emphPlain (v : Value) (w : World) : (Instr.typeAssert (.iface 77 v) 44 124 true).run Try.prog w = .ok (.tuple #[.pointer none, .bool false]) w := by kernel_rfl
@[go_sem] theorem ta_Code_openPlain (v : Value) (w : World) : (Instr.typeAssert (.iface 77 v) 44 127 true).run Try.prog w = .ok (.tuple #[.pointer none, .bool false]) w := by kernel_rfl
@[go_sem] theorem ta_Code_Escaped (v : Value) (w : World) : (Instr.typeAssert (.iface 77 v) 44 72 true).run Try.prog w = .ok (.tuple #[.pointer none, .bool false]) w := by kernel_rfl
@[go_sem] theorem ta_Code_SoftBreak (v : Value) (w : World) : (Instr.typeAssert (.iface 77 v) 44 75 true).run Try.prog w = .ok (.tuple #[.pointer none, .bool false]) w := by kernel_rfl
@[go_sem] theorem ta_Code_HardBreak (v : Value) (w : World) : (Instr.typeAssert (.iface 77 v) 44 76 true).run Try.prog w = .ok (.tuple #[.pointer none, .bool false]) w := by kernel_rfl
@[go_sem] theorem ta_Code_Code (v : Value) (w : World) : (Instr.typeAssert (.iface 77 v) 44 77 true).run Try.prog w = .ok (.tuple #[v, .bool true]) w := by kernel_rfl
@[go_sem] theorem ta_Code_Emph (v : Value) (w : World) : (Instr.typeAssert (.iface 77 v) 44 79 true).run Try.prog w = .ok (.tuple #[.pointer none, .bool false]) w := by kernel_rfl
@[go_sem] theorem ta_Code_Strong (v : Value) (w : World) : (Instr.typeAssert (.iface 77 v) 44 83 true).run Try.prog w = .ok (.tuple #[.pointer none, .bool false]) w := by kernel_rfl
@[go_sem] theorem ta_Code_Del (v : Value) (w : World) : (Instr.typeAssert (.iface 77 v) 44 85 true).run Try.prog w = .ok (.tuple #[.pointer none, .bool false]) w := by kernel_rfl
@[go_sem] theorem ta_Code_Link (v : Value) (w : World) : (Instr.typeAssert (.iface 77 v) 44 87 true).run Try.prog w = .ok (.tuple #[.pointer none, .bool false]) w := by kernel_rfl
@[go_sem] theorem ta_Code_Image (v : Value) (w : World) : (Instr.typeAssert (.iface 77 v) 44 91 true).run Try.prog w = .ok (.tuple #[.pointer none, .bool false]) w := by kernel_rfl
@[go_sem] theorem ta_Code_AutoLink (v : Value) (w : World) : (Instr.typeAssert (.iface 77 v) 44 93 true).run Try.prog w = .ok (.tuple #[.pointer none, .bool false]) w := by kernel_rfl
@[go_sem] theorem ta_Code_HTMLTag (v : Value) (w : World) : (Instr.typeAssert (.iface 77 v) 44 96 true).run Try.prog w = .ok (.tuple #[.pointer none, .bool false]) w := by kernel_rfl
@[go_sem] theorem ta_Code_Task (v : Value) (w : World) : (Instr.typeAssert (.iface 77 v) 44 98 true).run Try.prog w = .ok (.tuple #[.pointer none, .bool false]) w := by kernel_rfl
@[go_sem] theorem ta_Code_Emoji (v : Value) (w : World) : (Instr.typeAssert (.iface 77 v) 44 101 true).run Try.prog w = .ok (.tuple #[.pointer none, .bool false]) w := by kernel_rfl

theorem toPlain_tag (a : Addr) (w : World) :
    Calls Try.prog 32 #[.iface 96 (.pointer (some a))] w fun e w1 => e = .returned (.pointer none) ∧ w = w1 := by
  go_enter Try.func32, Try.ntmps32
  go_wp2
  go_ret
  exact ⟨rfl, rfl⟩
set_option maxRecDepth 100000 in
theorem inline_tag (b : Nat) (text : ByteArray) (w : World) (hb : b < w.heap.size) (hc : w.cell? ⟨b, 0, none⟩ = some (.string text)) :
    Calls Try.prog 26 #[.iface 96 (.pointer (some ⟨b, 0, none⟩))] w fun e w1 => e = .returned (.agg #[.int .i64 29, .string text, .string ⟨#[]⟩, .int .i64 0, .string ⟨#[]⟩, .bool false, .slice none 0 0, .slice none 0 0, .int .i64 0, .int .i64 0, .string ⟨#[]⟩, .int .i64 0, .bool false, .bool false, .bool false, .slice none 0 0]) ∧ w1 = w.alloc (.cells #[.int .i64 29, .string text, .string ⟨#[]⟩, .int .i64 0, .string ⟨#[]⟩, .bool false, .slice none 0 0, .slice none 0 0, .int .i64 0, .int .i64 0, .string ⟨#[]⟩, .int .i64 0, .bool false, .bool false, .bool false, .slice none 0 0] 29) := by
  have hc1 : ∀ o, (w.alloc o).cell? ⟨b, 0, none⟩ = some (.string text) := fun o => by rw [World.cell?_alloc_past _ _ _ hb]; exact hc
  go_enter Try.func26, Try.ntmps26
  go_wp2_with (go_at_call 32; refine (toPlain_tag _ _).mono ?_; rintro e w1 ⟨rfl, rfl⟩)
  refine bodyPost_ret (v := .agg #[.int .i64 29, .string text, .string ⟨#[]⟩, .int .i64 0, .string ⟨#[]⟩, .bool false, .slice none 0 0, .slice none 0 0, .int .i64 0, .int .i64 0, .string ⟨#[]⟩, .int .i64 0, .bool false, .bool false, .bool false, .slice none 0 0]) (by simp [results, Try.results26, go_sem]) rfl ⟨rfl, ?_⟩
  rfl
end Go.Proofs.Ytiilhmagepncgaa.W
