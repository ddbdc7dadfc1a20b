/- Walks of impl.inline and impl.two at a plain text and at a code span, and of the state that a parser begins with. Condition: the inline's cell holds its text. -/
import Derived.Test.YtiilhmagepncgaaNode
namespace Go.Proofs.Ytiilhmagepncgaa.W
open Go.RowKit Go.PlainAid
set_option linter.unusedVariables false

theorem toPlain_code (a : Addr) (w : World) :
    Calls Try.prog 32 #[.iface 77 (.pointer (some a))] w fun e w1 => e = .returned (.pointer none) ∧ w = w1 := by
  go_enter Try.func32, Try.ntmps32
  go_wp2
  go_ret
  exact ⟨rfl, rfl⟩
theorem toPlain_plain (a : Addr) (w : World) :
    Calls Try.prog 32 #[.iface 68 (.pointer (some a))] w fun e w1 => e = .returned (.pointer (some a)) ∧ w = w1 := by
  go_enter Try.func32, Try.ntmps32
  go_wp2
  go_ret
  exact ⟨rfl, rfl⟩

set_option maxRecDepth 100000 in
theorem inline_code (b : Nat) (text : ByteArray) (w : World) (hb : b < w.heap.size) (hc : w.cell? ⟨b, 0, none⟩ = some (.string text)) :
    Calls Try.prog 26 #[.iface 77 (.pointer (some ⟨b, 0, none⟩))] w fun e w1 => e = .returned (.agg #[.int .i64 23, .string text, .string ⟨#[]⟩, .int .i64 0, .string ⟨#[]⟩, .bool false, .slice none 0 0, .slice none 0 0, .int .i64 0, .int .i64 0, .string ⟨#[]⟩, .int .i64 0, .bool false, .bool false, .bool false, .slice none 0 0]) ∧ w1 = w.alloc (.cells #[.int .i64 23, .string text, .string ⟨#[]⟩, .int .i64 0, .string ⟨#[]⟩, .bool false, .slice none 0 0, .slice none 0 0, .int .i64 0, .int .i64 0, .string ⟨#[]⟩, .int .i64 0, .bool false, .bool false, .bool false, .slice none 0 0] 29) := by
  have hc1 : ∀ o, (w.alloc o).cell? ⟨b, 0, none⟩ = some (.string text) := fun o => by rw [World.cell?_alloc_past _ _ _ hb]; exact hc
  go_enter Try.func26, Try.ntmps26
  go_wp2_with (go_at_call 32; refine (toPlain_code _ _).mono ?_; rintro e w1 ⟨rfl, rfl⟩)
  refine bodyPost_ret (v := .agg #[.int .i64 23, .string text, .string ⟨#[]⟩, .int .i64 0, .string ⟨#[]⟩, .bool false, .slice none 0 0, .slice none 0 0, .int .i64 0, .int .i64 0, .string ⟨#[]⟩, .int .i64 0, .bool false, .bool false, .bool false, .slice none 0 0]) (by simp [results, Try.results26, go_sem]) rfl ⟨rfl, ?_⟩
  rfl
set_option maxRecDepth 100000 in
theorem two_code (b : Nat) (text : ByteArray) (m n : Int) (w : World) (hb : b < w.heap.size) (hc : w.cell? ⟨b, 0, none⟩ = some (.string text)) :
    Calls Try.prog 21 #[.iface 77 (.pointer (some ⟨b, 0, none⟩)), .int .i64 m, .int .i64 n, .bool true] w fun e w1 => e = .returned (.tuple #[.agg #[.int .i64 23, .string text, .string ⟨#[]⟩, .int .i64 0, .string ⟨#[]⟩, .bool false, .slice none 0 0, .slice none 0 0, .int .i64 0, .int .i64 0, .string ⟨#[]⟩, .int .i64 0, .bool false, .bool false, .bool false, .slice none 0 0], .int .i64 m, .int .i64 n, .bool true]) ∧ Below w.heap.size w w1 := by
  go_enter Try.func21, Try.ntmps21
  go_wp2_with (go_at_call 26; refine (inline_code b text _ (by simp; omega) (by rw [World.cell?_alloc_past _ _ _ hb]; exact hc)).mono ?_; rintro e w1 ⟨rfl, rfl⟩)
  refine bodyPost_ret (v := .tuple #[.agg #[.int .i64 23, .string text, .string ⟨#[]⟩, .int .i64 0, .string ⟨#[]⟩, .bool false, .slice none 0 0, .slice none 0 0, .int .i64 0, .int .i64 0, .string ⟨#[]⟩, .int .i64 0, .bool false, .bool false, .bool false, .slice none 0 0], .int .i64 m, .int .i64 n, .bool true]) (by simp [results, Try.results21, go_sem]) rfl ⟨rfl, ?_⟩
  go_grown

set_option maxRecDepth 100000 in
theorem inline_plain (b : Nat) (text : ByteArray) (w : World) (hb : b < w.heap.size) (hc : w.cell? ⟨b, 0, none⟩ = some (.string text)) :
    Calls Try.prog 26 #[.iface 68 (.pointer (some ⟨b, 0, none⟩))] w fun e w1 => e = .returned (.agg #[.int .i64 20, .string text, .string ⟨#[]⟩, .int .i64 0, .string ⟨#[]⟩, .bool false, .slice none 0 0, .slice none 0 0, .int .i64 0, .int .i64 0, .string ⟨#[]⟩, .int .i64 0, .bool false, .bool false, .bool false, .slice none 0 0]) ∧ w1 = w.alloc (.cells #[.int .i64 20, .string text, .string ⟨#[]⟩, .int .i64 0, .string ⟨#[]⟩, .bool false, .slice none 0 0, .slice none 0 0, .int .i64 0, .int .i64 0, .string ⟨#[]⟩, .int .i64 0, .bool false, .bool false, .bool false, .slice none 0 0] 29) := by
  have hc1 : ∀ o, (w.alloc o).cell? ⟨b, 0, none⟩ = some (.string text) := fun o => by rw [World.cell?_alloc_past _ _ _ hb]; exact hc
  go_enter Try.func26, Try.ntmps26
  go_wp2_with (go_at_call 32; refine (toPlain_plain _ _).mono ?_; rintro e w1 ⟨rfl, rfl⟩)
  refine bodyPost_ret (v := .agg #[.int .i64 20, .string text, .string ⟨#[]⟩, .int .i64 0, .string ⟨#[]⟩, .bool false, .slice none 0 0, .slice none 0 0, .int .i64 0, .int .i64 0, .string ⟨#[]⟩, .int .i64 0, .bool false, .bool false, .bool false, .slice none 0 0]) (by simp [results, Try.results26, go_sem]) rfl ⟨rfl, ?_⟩
  rfl
set_option maxRecDepth 100000 in
theorem two_plain (b : Nat) (text : ByteArray) (m n : Int) (w : World) (hb : b < w.heap.size) (hc : w.cell? ⟨b, 0, none⟩ = some (.string text)) :
    Calls Try.prog 21 #[.iface 68 (.pointer (some ⟨b, 0, none⟩)), .int .i64 m, .int .i64 n, .bool true] w fun e w1 => e = .returned (.tuple #[.agg #[.int .i64 20, .string text, .string ⟨#[]⟩, .int .i64 0, .string ⟨#[]⟩, .bool false, .slice none 0 0, .slice none 0 0, .int .i64 0, .int .i64 0, .string ⟨#[]⟩, .int .i64 0, .bool false, .bool false, .bool false, .slice none 0 0], .int .i64 m, .int .i64 n, .bool true]) ∧ Below w.heap.size w w1 := by
  go_enter Try.func21, Try.ntmps21
  go_wp2_with (go_at_call 26; refine (inline_plain b text _ (by simp; omega) (by rw [World.cell?_alloc_past _ _ _ hb]; exact hc)).mono ?_; rintro e w1 ⟨rfl, rfl⟩)
  refine bodyPost_ret (v := .tuple #[.agg #[.int .i64 20, .string text, .string ⟨#[]⟩, .int .i64 0, .string ⟨#[]⟩, .bool false, .slice none 0 0, .slice none 0 0, .int .i64 0, .int .i64 0, .string ⟨#[]⟩, .int .i64 0, .bool false, .bool false, .bool false, .slice none 0 0], .int .i64 m, .int .i64 n, .bool true]) (by simp [results, Try.results21, go_sem]) rfl ⟨rfl, ?_⟩
  go_grown

end Go.Proofs.Ytiilhmagepncgaa.W
