/- A byte's number is told by its being well formed. No conditions. -/
import Derived.Test.YtdbnfginhipcaaaDoorTStart
import Derived.Test.YtdbnfginhipcaaaDoorTDel
namespace Go.Proofs.YtdbnfginhipcaaaDoor.W
open Go.RowKit Go.PlainAid
theorem byteRange {a : Int} (h : (Lit.int .u8 a).wf = true) : 0 ≤ a ∧ a ≤ 255 := by
  have k : IntKind.u8.min ≤ a ∧ a ≤ IntKind.u8.max := by simpa [Lit.wf] using h
  exact k
theorem door6 (s t : ByteArray) (v : Bool) (h : ∀ w, Calls Tryd.prog 7 #[.string s, .string t] w fun e w1 => e = .returned (.bool v) ∧ w = w1) (w : World) :
    Calls Tryd.prog 6 #[.string s, .string t] w fun e w1 => e = .returned (.bool v) ∧ w = w1 := by
  replace h := Lib.hid h
  go_enter Tryd.func6, Tryd.ntmps6
  go_wp2_with (first | (go_at_call 7; refine (h.out _).mono ?_; rintro e w1 ⟨rfl, rfl⟩))
  go_ret
  exact ⟨rfl, rfl⟩
theorem door5 (s t : ByteArray) (v : Bool) (h : ∀ w, Calls Tryd.prog 6 #[.string s, .string t] w fun e w1 => e = .returned (.bool v) ∧ w = w1) (w : World) :
    Calls Tryd.prog 5 #[.string s, .string t] w fun e w1 => e = .returned (.bool v) ∧ w = w1 := by
  replace h := Lib.hid h
  go_enter Tryd.func5, Tryd.ntmps5
  go_wp2_with (first | (go_at_call 6; refine (h.out _).mono ?_; rintro e w1 ⟨rfl, rfl⟩))
  go_ret
  exact ⟨rfl, rfl⟩
end Go.Proofs.YtdbnfginhipcaaaDoor.W
