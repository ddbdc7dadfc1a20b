/- strings.IndexByte in the words of this seat's texts: where the first byte of a kind stands, or -1. Condition: the byte is one. -/
import Derived.Test.YtfnhikhgkkopfaaGreatDoorStr
import Derived.Test.YtfnhikhgkkopfaaGreatDoorShelf
import Derived.Test.YtfnhikhgkkopfaaGreatDoorRet
namespace Go.Proofs.YtfnhikhgkkopfaaGreatDoor.W
open Go.RowKit Go.PlainAid

theorem idx_yes (s : ByteArray) (c : Int) (o : Nat) (h0 : 0 ≤ c) (h1 : c ≤ 255) (ho : o < s.size) (h : bt s o = c) (hl : ∀ k, k < o → bt s k ≠ c) (w : World) :
    Calls Tryz.prog 8 #[.string s, .int .u8 c] w fun e w1 => e = .returned (.int .i64 o) ∧ w1 = w :=
  (Tryz.strings_IndexByte s c w).mono fun _ _ ⟨he, hw⟩ => ⟨by rw [he, indexByte_yes h0 h1 ho h hl], hw⟩
theorem idx_no (s : ByteArray) (c : Int) (h0 : 0 ≤ c) (h1 : c ≤ 255) (h : ∀ k, k < s.size → bt s k ≠ c) (w : World) :
    Calls Tryz.prog 8 #[.string s, .int .u8 c] w fun e w1 => e = .returned (.int .i64 (-1)) ∧ w1 = w :=
  (Tryz.strings_IndexByte s c w).mono fun _ _ ⟨he, hw⟩ => ⟨by rw [he, indexByte_no h0 h1 h], hw⟩

/-- whether a byte stands in a text, and its first place (-1: nowhere) -/
def inB (s : ByteArray) (c : Int) : Bool := decide (0 ≤ Lib.indexByte s.data.toList c.toNat.toUInt8)
theorem idx_in (s : ByteArray) (c : Int) (w : World) :
    Calls Tryz.prog 8 #[.string s, .int .u8 c] w fun e w1 => ∃ n : Int, e = .returned (.int .i64 n) ∧ Hid (decide (0 ≤ n) = inB s c) ∧ w = w1 :=
  (Tryz.strings_IndexByte s c w).mono fun _ _ ⟨he, hw⟩ => ⟨_, he, rfl, hw.symm⟩

/-- the first place from i on at which a byte is c: s.size, if there is none -/
def findFrom (s : ByteArray) (c : Int) (i : Nat) : Nat := runEnd (fun b => b != c) s i
end Go.Proofs.YtfnhikhgkkopfaaGreatDoor.W
