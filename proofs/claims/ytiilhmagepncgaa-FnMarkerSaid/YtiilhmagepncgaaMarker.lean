/- Walks of parseHTMLMarker, of impl.one and impl.HTMLMarker, and of the statement's read. Condition: the texts have at most 2147483647 bytes; what stands where is said. -/
import Derived.Test.YtiilhmagepncgaaMark
import Derived.Test.YtiilhmagepncgaaNode
import Derived.Deep.QuietTactic
import Derived.BigQuiet
namespace Go.Proofs.Ytiilhmagepncgaa.W
open Go.RowKit Go.PlainAid
set_option linter.unusedVariables false

theorem marker_yes (s b t : ByteArray) (n o : Nat) (hs : s.size ≤ 300) (hbz : b.size ≤ 10) (ht : t.size ≤ 10) (hn : AtS s b n) (hbo : n + b.size ≤ o) (ho : AtS s t o) (hl : ∀ j, n + b.size ≤ j → j < o → ¬ AtS s t j) (w : World) :
    Calls Try.prog 27 #[.string s, .int .i64 n, .string b, .string t] w fun e w1 => e = .returned (.tuple #[.iface 96 (.pointer (some ⟨w.heap.size, 0, none⟩)), .int .i64 (o + t.size : Nat), .bool true]) ∧ w1 = w.alloc (.cells #[.string (s.extract n (o + t.size))] 97) := by
  have hb := get_bt s
  have hz := hn.1
  have hz2 := ho.1
  have h1 : AtS (s.extract n s.size) b 0 := (atS_tail (by omega)).2 hn
  have h2 : AtS (s.extract (n + b.size) s.size) t (o - (n + b.size)) := (atS_tail (by omega)).2 (by rw [show n + b.size + (o - (n + b.size)) = o from by omega]; exact ho)
  have h3 : ∀ j, j < o - (n + b.size) → ¬ AtS (s.extract (n + b.size) s.size) t j := fun j hj hat => hl (n + b.size + j) (by omega) (by omega) ((atS_tail (by omega)).1 hat)
  have z1 : (s.extract n s.size).size ≤ 2147483647 := by rw [size_extract]; omega
  have z2 : (s.extract (n + b.size) s.size).size ≤ 2147483647 := by rw [size_extract]; omega
  clear hl
  replace hn := Lib.hid hn
  replace ho := Lib.hid ho
  replace h1 := Lib.hid h1
  replace h2 := Lib.hid h2
  replace h3 := Lib.hid h3
  replace z1 := Lib.hid z1
  replace z2 := Lib.hid z2
  go_enter Try.func27, Try.ntmps27
  go_wp2_with (first | (go_at_call 35; refine (hasPrefix_yes _ _ z1.out (by omega) h1.out _).mono ?_; rintro e w1 ⟨rfl, rfl⟩) | (go_at_call 36; refine (zzIndex_yes _ _ _ z2.out (by omega) h2.out h3.out _).mono ?_; rintro e w1 ⟨rfl, rfl⟩))
  go_ret3
  exact ⟨ret3 rfl (intEq (by omega)) rfl, rfl⟩
theorem marker_no (s b t : ByteArray) (n : Nat) (hs : s.size ≤ 300) (hbz : b.size ≤ 10) (ht : t.size ≤ 10) (hn : AtS s b n) (hl : ∀ j, n + b.size ≤ j → ¬ AtS s t j) (w : World) :
    Calls Try.prog 27 #[.string s, .int .i64 n, .string b, .string t] w fun e w1 => e = .returned (.tuple #[.nilIface, .int .i64 0, .bool false]) ∧ w = w1 := by
  have hb := get_bt s
  have hz := hn.1
  have h1 : AtS (s.extract n s.size) b 0 := (atS_tail (by omega)).2 hn
  have h3 : ∀ j, ¬ AtS (s.extract (n + b.size) s.size) t j := fun j hat => hl (n + b.size + j) (by omega) ((atS_tail (by omega)).1 hat)
  have z1 : (s.extract n s.size).size ≤ 2147483647 := by rw [size_extract]; omega
  have z2 : (s.extract (n + b.size) s.size).size ≤ 2147483647 := by rw [size_extract]; omega
  clear hl
  replace hn := Lib.hid hn
  replace h1 := Lib.hid h1
  replace h3 := Lib.hid h3
  replace z1 := Lib.hid z1
  replace z2 := Lib.hid z2
  go_enter Try.func27, Try.ntmps27
  go_wp2_with (first | (go_at_call 35; refine (hasPrefix_yes _ _ z1.out (by omega) h1.out _).mono ?_; rintro e w1 ⟨rfl, rfl⟩) | (go_at_call 36; refine (zzIndex_no _ _ z2.out (by omega) h3.out _).mono ?_; rintro e w1 ⟨rfl, rfl⟩))
  go_ret3
  exact ⟨rfl, rfl⟩
theorem marker_yes_z (s b t : ByteArray) (n o : Nat) (hs : s.size ≤ 300) (hbz : b.size ≤ 10) (ht : t.size ≤ 10) (hn : AtS s b n) (hbo : n + b.size ≤ o) (ho : AtS s t o) (hl : ∀ j, n + b.size ≤ j → j < o → ¬ AtS s t j) (w : World) :
    Calls Try.prog 19 #[.string s, .int .i64 n, .string b, .string t] w fun e w1 => e = .returned (.tuple #[.iface 96 (.pointer (some ⟨w.heap.size, 0, none⟩)), .int .i64 (o + t.size : Nat), .bool true]) ∧ w1 = w.alloc (.cells #[.string (s.extract n (o + t.size))] 97) := by
  replace hn := Lib.hid hn
  replace ho := Lib.hid ho
  replace hl := Lib.hid hl
  go_enter Try.func19, Try.ntmps19
  go_wp2_with (go_at_call 27; refine (marker_yes _ _ _ n o hs hbz ht hn.out hbo ho.out hl.out _).mono ?_; rintro e w1 ⟨rfl, rfl⟩)
  go_ret3
  exact ⟨rfl, rfl⟩
theorem marker_no_z (s b t : ByteArray) (n : Nat) (hs : s.size ≤ 300) (hbz : b.size ≤ 10) (ht : t.size ≤ 10) (hn : AtS s b n) (hl : ∀ j, n + b.size ≤ j → ¬ AtS s t j) (w : World) :
    Calls Try.prog 19 #[.string s, .int .i64 n, .string b, .string t] w fun e w1 => e = .returned (.tuple #[.nilIface, .int .i64 0, .bool false]) ∧ w = w1 := by
  replace hn := Lib.hid hn
  replace hl := Lib.hid hl
  go_enter Try.func19, Try.ntmps19
  go_wp2_with (go_at_call 27; refine (marker_no _ _ _ n hs hbz ht hn.out hl.out _).mono ?_; rintro e w1 ⟨rfl, rfl⟩)
  go_ret3
  exact ⟨rfl, rfl⟩

set_option maxRecDepth 100000 in
theorem one_yes (b : Nat) (text : ByteArray) (n : Int) (w : World) (hb : b < w.heap.size) (hc : w.cell? ⟨b, 0, none⟩ = some (.string text)) :
    Calls Try.prog 18 #[.iface 96 (.pointer (some ⟨b, 0, none⟩)), .int .i64 n, .bool true] w fun e w1 => e = .returned (.tuple #[.agg #[.int .i64 29, .string text, .string ⟨#[]⟩, .int .i64 0, .string ⟨#[]⟩, .bool false, .slice none 0 0, .slice none 0 0, .int .i64 0, .int .i64 0, .string ⟨#[]⟩, .int .i64 0, .bool false, .bool false, .bool false, .slice none 0 0], .int .i64 n, .bool true]) ∧ w1 = (w.alloc (.cells #[.int .i64 29, .string text, .string ⟨#[]⟩, .int .i64 0, .string ⟨#[]⟩, .bool false, .slice none 0 0, .slice none 0 0, .int .i64 0, .int .i64 0, .string ⟨#[]⟩, .int .i64 0, .bool false, .bool false, .bool false, .slice none 0 0] 29)).alloc (.cells #[.int .i64 29, .string text, .string ⟨#[]⟩, .int .i64 0, .string ⟨#[]⟩, .bool false, .slice none 0 0, .slice none 0 0, .int .i64 0, .int .i64 0, .string ⟨#[]⟩, .int .i64 0, .bool false, .bool false, .bool false, .slice none 0 0] 29) := by
  go_enter Try.func18, Try.ntmps18
  go_wp2_with (go_at_call 26; refine (inline_tag b text _ (by simp; omega) (by rw [World.cell?_alloc_past _ _ _ hb]; exact hc)).mono ?_; rintro e w1 ⟨rfl, rfl⟩)
  refine bodyPost_ret (v := .tuple #[.agg #[.int .i64 29, .string text, .string ⟨#[]⟩, .int .i64 0, .string ⟨#[]⟩, .bool false, .slice none 0 0, .slice none 0 0, .int .i64 0, .int .i64 0, .string ⟨#[]⟩, .int .i64 0, .bool false, .bool false, .bool false, .slice none 0 0], .int .i64 n, .bool true]) (by simp [results, Try.results18, go_sem]) rfl ⟨rfl, ?_⟩
  rfl
set_option maxRecDepth 100000 in
theorem one_no (w : World) :
    Calls Try.prog 18 #[.nilIface, .int .i64 0, .bool false] w fun e w1 => e = .returned (.tuple #[.agg #[.int .i64 0, .string ⟨#[]⟩, .string ⟨#[]⟩, .int .i64 0, .string ⟨#[]⟩, .bool false, .slice none 0 0, .slice none 0 0, .int .i64 0, .int .i64 0, .string ⟨#[]⟩, .int .i64 0, .bool false, .bool false, .bool false, .slice none 0 0], .int .i64 0, .bool false]) ∧ w1 = w.alloc (.cells #[.int .i64 0, .string ⟨#[]⟩, .string ⟨#[]⟩, .int .i64 0, .string ⟨#[]⟩, .bool false, .slice none 0 0, .slice none 0 0, .int .i64 0, .int .i64 0, .string ⟨#[]⟩, .int .i64 0, .bool false, .bool false, .bool false, .slice none 0 0] 29) := by
  go_enter Try.func18, Try.ntmps18
  go_wp2
  refine bodyPost_ret (v := .tuple #[.agg #[.int .i64 0, .string ⟨#[]⟩, .string ⟨#[]⟩, .int .i64 0, .string ⟨#[]⟩, .bool false, .slice none 0 0, .slice none 0 0, .int .i64 0, .int .i64 0, .string ⟨#[]⟩, .int .i64 0, .bool false, .bool false, .bool false, .slice none 0 0], .int .i64 0, .bool false]) (by simp [results, Try.results18, go_sem]) rfl ⟨rfl, ?_⟩
  rfl
end Go.Proofs.Ytiilhmagepncgaa.W
