/- What the package and the reference read at an ampersand: both the same reference, or both none. Condition: the text has at most 200 bytes; it has no name that the reference does not know; the table holds its twelve names. -/
import Derived.Test.YthgdgpoblbblpaaGreatDoorEntDoor
import Derived.Test.YthgdgpoblbblpaaGreatDoorEntHex
import Derived.Test.YthgdgpoblbblpaaGreatDoorEntDec
import Derived.Test.YthgdgpoblbblpaaGreatDoorEntNames
namespace Go.Proofs.YthgdgpoblbblpaaGreatDoor.W
open Go.RowKit Go.PlainAid
set_option linter.unusedVariables false

def BothYes (s : ByteArray) (i : Nat) : Prop := ∃ (text : ByteArray) (n : Nat), 0 < n ∧ i + n ≤ s.size ∧
  (∀ w, EntAt w → Calls Tryz.prog 6 #[.string s, .int .i64 i] w fun e w1 => e = .returned (.tuple #[.agg #[.int .i64 20, .string text, .string ⟨#[]⟩, .int .i64 0, .string ⟨#[]⟩, .bool false, .slice none 0 0, .slice none 0 0, .int .i64 0, .int .i64 0, .string ⟨#[]⟩, .int .i64 0, .bool false, .bool false, .bool false, .slice none 0 0], .int .i64 i, .int .i64 (i + n : Nat), .bool true]) ∧ Below w.heap.size w w1) ∧
  ∀ w, Calls Tryz.prog 7 #[.string s, .int .i64 i] w fun e w1 => e = .returned (.tuple #[.string text, .int .i64 n]) ∧ w = w1
def BothNo (s : ByteArray) (i : Nat) : Prop :=
  (∀ w, EntAt w → Calls Tryz.prog 6 #[.string s, .int .i64 i] w fun e w1 => e = .returned (.tuple #[.agg #[.int .i64 0, .string ⟨#[]⟩, .string ⟨#[]⟩, .int .i64 0, .string ⟨#[]⟩, .bool false, .slice none 0 0, .slice none 0 0, .int .i64 0, .int .i64 0, .string ⟨#[]⟩, .int .i64 0, .bool false, .bool false, .bool false, .slice none 0 0], .int .i64 0, .int .i64 0, .bool false]) ∧ Below w.heap.size w w1) ∧
  ∀ w, Calls Tryz.prog 7 #[.string s, .int .i64 i] w fun e w1 => e = .returned (.tuple #[.string ⟨#[]⟩, .int .i64 0]) ∧ w = w1
theorem bothYes {s : ByteArray} {i j : Nat} (text : ByteArray) (hij : i < j) (hj : j ≤ s.size) (h1 : ParseDoes s i fun w => PYes text i j w.heap.size w)
    (h2 : ∀ w, Calls Tryz.prog 7 #[.string s, .int .i64 i] w fun e w1 => e = .returned (.tuple #[.string text, .int .i64 (j - i : Nat)]) ∧ w = w1) : BothYes s i := by
  refine ⟨text, j - i, by omega, by omega, fun w hT => ?_, h2⟩
  rw [show i + (j - i) = j from by omega]
  exact ent_impl_yes s text i j h1 w hT
theorem bothNo {s : ByteArray} {i : Nat} (h1 : ParseDoes s i PNo)
    (h2 : ∀ w, Calls Tryz.prog 7 #[.string s, .int .i64 i] w fun e w1 => e = .returned (.tuple #[.string ⟨#[]⟩, .int .i64 0]) ∧ w = w1) : BothNo s i :=
  ⟨fun w hT => ent_impl_no s i h1 w hT, h2⟩
theorem both_num {s : ByteArray} {b i fr most E : Nat} (hfr : i < fr) (h1 : ∀ (pv : Value) (w : World), Calls Tryz.prog 17 #[pv, .string s, .int .i64 i] w (PRef s ((numV b s fr (E - fr) : Nat) : Int) i fr most E w))
    (h2 : ∀ w, Calls Tryz.prog 7 #[.string s, .int .i64 i] w (NumSaid b s i fr most E w)) : BothYes s i ∨ BothNo s i := by
  by_cases hok : RefOk s fr most E
  · refine .inl (bothYes (j := E + 1) (numS ((numV b s fr (E - fr) : Nat) : Int)) (by have := hok.1; omega) hok.2.2.1 (fun pv w _ => (h1 pv w).mono fun e w1 h => h.1 hok) fun w => (h2 w).mono fun e w1 h => ⟨h.2.1 hok, h.1⟩)
  · exact .inr (bothNo (fun pv w _ => (h1 pv w).mono fun e w1 h => h.2 hok) fun w => (h2 w).mono fun e w1 h => ⟨h.2.2 hok, h.1⟩)
theorem ent_both (s : ByteArray) (i : Nat) (hs : s.size ≤ 200) (hi : i < s.size) (h38 : bt s i = 38) (hN : NoOther s) : BothYes s i ∨ BothNo s i := by
  by_cases hi1 : i + 1 < s.size
  · by_cases h35 : bt s (i + 1) = 35
    · by_cases hx : i + 2 < s.size ∧ (bt s (i + 2) = 120 ∨ bt s (i + 2) = 88)
      · exact both_num (b := 16) (fr := i + 3) (most := 6) (E := runEnd hexB s (i + 3)) (by omega) (fun pv w => parse_hex s i (by omega) hi1 h35 hx.1 hx.2 _ rfl pv w) (fun w => ent_hex s i (by omega) hi1 h38 h35 hx.1 hx.2 _ rfl w)
      · have hx2 : i + 2 < s.size → bt s (i + 2) ≠ 120 ∧ bt s (i + 2) ≠ 88 := fun h => by
          constructor
          · intro h1; exact hx ⟨h, .inl h1⟩
          · intro h1; exact hx ⟨h, .inr h1⟩
        exact both_num (b := 10) (fr := i + 2) (most := 7) (E := runEnd digB s (i + 2)) (by omega) (fun pv w => parse_dec s i (by omega) hi1 h35 hx2 _ rfl pv w) (fun w => ent_dec s i (by omega) hi1 h38 h35 hx2 _ rfl w)
    · obtain ⟨E, hE⟩ : ∃ E, runEnd ldB s (i + 1) = E := ⟨_, rfl⟩
      obtain ⟨J, hJ⟩ : ∃ J, runEnd nsB s (i + 1) = J := ⟨_, rfl⟩
      have h2 := fun w => ent_name s i (by omega) hi1 h38 h35 E hE w
      by_cases hok : NameOk s i E
      · obtain ⟨a, b, q, hq, c, d⟩ := ent_yes hN hi h38 hE hok.1 hok.2.1 hok.2.2
        have hne : namedS (s.extract (i + 1) E) ≠ ⟨#[]⟩ := by
          have := hN i hi h38 (by rw [hE]; exact hok.1) (by rw [hE]; exact hok.2.1) (by rw [hE]; exact hok.2.2)
          rw [hE] at this
          exact this
        have := hok.1
        refine .inl (bothYes (j := E + 1) (entV q) (by omega) hok.2.1 (fun pv w hT => parse_yes s i (by omega) hi1 h35 E a hok.2.1 b hok.2.2 q hq c pv w hT) fun w => (h2 w).mono fun e w1 h => ⟨?_, h.1⟩)
        rw [← d]
        exact h.2.1 hok hne
      · refine .inr (bothNo (fun pv w hT => parse_no s i (by omega) hi1 h35 J hJ (fun a b => ent_no (by rw [hE]; exact hok) hJ a b) pv w hT) fun w => (h2 w).mono fun e w1 h => ⟨h.2.2 hok, h.1⟩)
  · exact .inr (bothNo (fun pv w _ => parse_short s i (by omega) (by omega) pv w) fun w => ent_short s i (by omega) (by omega) h38 w)
end Go.Proofs.YthgdgpoblbblpaaGreatDoor.W
