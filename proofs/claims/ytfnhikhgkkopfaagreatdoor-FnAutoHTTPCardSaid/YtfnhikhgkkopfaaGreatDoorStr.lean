/- Plain words on strings (bytes as numbers, runs of a class, parts of a string), and walks of the statements' own helpers lined, inside and printable. Condition of the walks: the string is no longer than a Go string can be. -/
import Derived.Test.YtfnhikhgkkopfaaGreatDoorBytes
import Derived.Lib.IndexLaws
import Derived.Lib.IndexBytes
namespace Go.Proofs.YtfnhikhgkkopfaaGreatDoor.W
open Go.RowKit Go.PlainAid

/-! ### runs -/
/-- where a run of bytes of a class that begins at i ends, looking at n bytes at most -/
def runGo (p : Int → Bool) (s : ByteArray) : Nat → Nat → Nat
  | 0, i => i
  | n + 1, i => if p (bt s i) = true then runGo p s n (i + 1) else i
/-- where a run of bytes of a class that begins at i ends -/
def runEnd (p : Int → Bool) (s : ByteArray) (i : Nat) : Nat := runGo p s (s.size - i) i
theorem runEnd_step {p : Int → Bool} {s : ByteArray} {i : Nat} (h : i < s.size) (h1 : p (bt s i) = true) : runEnd p s (i + 1) = runEnd p s i := by
  obtain ⟨m, hm⟩ : ∃ m, s.size - i = m + 1 := ⟨s.size - i - 1, by omega⟩
  unfold runEnd; rw [hm, show s.size - (i + 1) = m from by omega]; simp [runGo, h1]
theorem runEnd_stop {p : Int → Bool} {s : ByteArray} {i : Nat} (h1 : p (bt s i) = false) : runEnd p s i = i := by
  unfold runEnd; cases s.size - i <;> simp [runGo, h1]
theorem runEnd_end {p : Int → Bool} {s : ByteArray} {i : Nat} (h : s.size ≤ i) : runEnd p s i = i := by
  unfold runEnd; rw [show s.size - i = 0 from by omega]; rfl
theorem runGo_ge (p : Int → Bool) (s : ByteArray) : ∀ (n i : Nat), i ≤ runGo p s n i ∧ runGo p s n i ≤ i + n
  | 0, i => by simp [runGo]
  | n + 1, i => by have := runGo_ge p s n (i + 1); unfold runGo; split <;> omega
theorem runEnd_ge (p : Int → Bool) (s : ByteArray) (i : Nat) : i ≤ runEnd p s i := (runGo_ge p s _ i).1
theorem runEnd_le (p : Int → Bool) (s : ByteArray) {i : Nat} (h : i ≤ s.size) : runEnd p s i ≤ s.size := by have := (runGo_ge p s (s.size - i) i).2; unfold runEnd; omega
theorem runGo_in (p : Int → Bool) (s : ByteArray) : ∀ (n i j : Nat), i ≤ j → j < runGo p s n i → p (bt s j) = true
  | 0, i, j, h, h1 => by simp [runGo] at h1; omega
  | n + 1, i, j, h, h1 => by
    unfold runGo at h1; split at h1
    · by_cases e : j = i
      · subst e; assumption
      · exact runGo_in p s n (i + 1) j (by omega) h1
    · omega
theorem runEnd_in {p : Int → Bool} {s : ByteArray} {i j : Nat} (h : i ≤ j) (h1 : j < runEnd p s i) : p (bt s j) = true := runGo_in p s _ i j h h1
theorem runGo_at (p : Int → Bool) (s : ByteArray) : ∀ (n i : Nat), runGo p s n i < i + n → p (bt s (runGo p s n i)) = false
  | 0, i, h => by simp [runGo] at h
  | n + 1, i, h => by
    by_cases hp : p (bt s i) = true
    · have e : runGo p s (n + 1) i = runGo p s n (i + 1) := by simp [runGo, hp]
      rw [e] at h ⊢; exact runGo_at p s n (i + 1) (by omega)
    · have e : runGo p s (n + 1) i = i := by simp [runGo, hp]
      rw [e]; simpa using hp
theorem runEnd_at {p : Int → Bool} {s : ByteArray} {i : Nat} (hi : i ≤ s.size) (h : runEnd p s i < s.size) : p (bt s (runEnd p s i)) = false := runGo_at p s _ i (by unfold runEnd at h; omega)
/-- the run's end is known by its two marks -/
theorem runEnd_eq {p : Int → Bool} {s : ByteArray} {i j : Nat} (hij : i ≤ j) (hj : j ≤ s.size) (h : ∀ t, i ≤ t → t < j → p (bt s t) = true) (h1 : j < s.size → p (bt s j) = false) : runEnd p s i = j := by
  have a := runEnd_ge p s i
  have b := runEnd_le p s (i := i) (by omega)
  by_cases c : runEnd p s i < j
  · have := runEnd_at (p := p) (s := s) (i := i) (by omega) (by omega)
    rw [h _ a c] at this; cases this
  · by_cases d : j < runEnd p s i
    · have := runEnd_in (p := p) (s := s) hij d
      rw [h1 (by omega)] at this; cases this
    · omega

/-! ### parts of a string -/
theorem size_extract (s : ByteArray) (a b : Nat) : (s.extract a b).size = min b s.size - a := by simp
theorem bt_extract (s : ByteArray) {a b k : Nat} (h : a + k < b) (hb : b ≤ s.size) : bt (s.extract a b) k = bt s (a + k) := by
  have h1 : k < (s.extract a b).size := by rw [size_extract]; omega
  unfold bt
  rw [dif_pos h1, dif_pos (by omega)]
  congr 2
  exact ByteArray.getElem_extract ..

/-- a string is known by its size and its bytes -/
theorem str_ext {s t : ByteArray} (h : s.size = t.size) (h1 : ∀ k, k < s.size → bt s k = bt t k) : s = t := by
  apply ByteArray.ext_getElem h
  intro i hi hi'
  have e := h1 i hi
  rw [← get_bt s i hi, ← get_bt t i hi'] at e
  exact UInt8.toNat_inj.1 (by omega)

theorem toList_at (s : ByteArray) (k : Nat) (c : UInt8) : s.data.toList[k]? = some c ↔ k < s.size ∧ bt s k = c.toNat := by
  by_cases h : k < s.size
  · have e : s.data.toList[k]? = some s[k] := by simp [h]; rfl
    rw [e, ← get_bt s k h]
    constructor
    · intro h1; cases h1; exact ⟨h, rfl⟩
    · intro ⟨_, h1⟩; congr 1; exact UInt8.toNat_inj.1 (by omega)
  · have e : s.data.toList[k]? = none := by simp; exact Nat.le_of_not_lt h
    rw [e]; simp [h]

/-- what strings.IndexByte answers, in the words of this text -/
theorem indexByte_yes {s : ByteArray} {c : Int} (h0 : 0 ≤ c) (h1 : c ≤ 255) {o : Nat} (ho : o < s.size) (h : bt s o = c) (hl : ∀ k, k < o → bt s k ≠ c) : Lib.indexByte s.data.toList c.toNat.toUInt8 = o := by
  have hc : ((c.toNat.toUInt8).toNat : Int) = c := by simp [Nat.toUInt8]; omega
  rcases Int.lt_or_le (Lib.indexByte s.data.toList c.toNat.toUInt8) 0 with g | g
  · have := Lib.indexByte_ge s.data.toList c.toNat.toUInt8
    have e : Lib.indexByte s.data.toList c.toNat.toUInt8 = -1 := by omega
    exact absurd ((toList_at s o _).2 ⟨ho, by rw [hc, h]⟩) (Lib.indexByte_none e o)
  · obtain ⟨n, hn⟩ := Int.eq_ofNat_of_zero_le g
    have ⟨a, b⟩ := Lib.indexByte_some hn
    have ⟨a1, a2⟩ := (toList_at s n _).1 a
    rw [hc] at a2
    have : ¬ n < o := fun q => hl n q a2
    have : ¬ o < n := fun q => b o q ((toList_at s o _).2 ⟨ho, by rw [hc, h]⟩)
    rw [hn]; omega
theorem indexByte_no {s : ByteArray} {c : Int} (h0 : 0 ≤ c) (h1 : c ≤ 255) (h : ∀ k, k < s.size → bt s k ≠ c) : Lib.indexByte s.data.toList c.toNat.toUInt8 = -1 := by
  have hc : ((c.toNat.toUInt8).toNat : Int) = c := by simp [Nat.toUInt8]; omega
  have := Lib.indexByte_ge s.data.toList c.toNat.toUInt8
  by_cases g : 0 ≤ Lib.indexByte s.data.toList c.toNat.toUInt8
  · obtain ⟨n, hn⟩ := Int.eq_ofNat_of_zero_le g
    have ⟨a, b⟩ := Lib.indexByte_some hn
    have ⟨a1, a2⟩ := (toList_at s n _).1 a
    rw [hc] at a2
    exact absurd a2 (h n a1)
  · omega

/-! ### printable characters and line feeds -/
def LinedTo (s : ByteArray) (n : Nat) : Prop := ∀ j : Nat, j < n → bt s j = 10 ∨ 32 ≤ bt s j ∧ bt s j ≤ 126
theorem LinedTo.succ {s : ByteArray} {n : Nat} (h : LinedTo s n) (h1 : bt s n = 10 ∨ 32 ≤ bt s n ∧ bt s n ≤ 126) : LinedTo s (n + 1) := fun j hj => by
  by_cases e : j = n
  · subst e; exact h1
  · exact h j (by omega)
open Classical in
noncomputable def linedB (s : ByteArray) (m : Int) : Bool := decide ((s.size : Int) ≤ m ∧ LinedTo s s.size)
theorem linedB_iff (s : ByteArray) (m : Int) : linedB s m = true ↔ (s.size : Int) ≤ m ∧ LinedTo s s.size := by simp [linedB]
theorem linedB_true {s : ByteArray} {m : Int} (h : (s.size : Int) ≤ m) (h1 : LinedTo s s.size) : linedB s m = true := by simp [linedB, h, h1]
theorem linedB_no {s : ByteArray} {m : Int} (k : Nat) (hk : k < s.size) (h : ¬ (bt s k = 10 ∨ 32 ≤ bt s k ∧ bt s k ≤ 126)) : linedB s m = false := by
  simp only [linedB, decide_eq_false_iff_not]; intro ⟨_, h1⟩; exact h (h1 k hk)
theorem linedB_long {s : ByteArray} {m : Int} (h : m < s.size) : linedB s m = false := by
  simp only [linedB, decide_eq_false_iff_not]; omega

def PrintTo (s : ByteArray) (n : Nat) : Prop := ∀ j : Nat, j < n → 32 ≤ bt s j ∧ bt s j ≤ 126
theorem PrintTo.succ {s : ByteArray} {n : Nat} (h : PrintTo s n) (h1 : 32 ≤ bt s n ∧ bt s n ≤ 126) : PrintTo s (n + 1) := fun j hj => by
  by_cases e : j = n
  · subst e; exact h1
  · exact h j (by omega)
open Classical in
noncomputable def printB (s : ByteArray) (m : Int) : Bool := decide ((s.size : Int) ≤ m ∧ PrintTo s s.size)
theorem printB_iff (s : ByteArray) (m : Int) : printB s m = true ↔ (s.size : Int) ≤ m ∧ PrintTo s s.size := by simp [printB]
theorem printB_true {s : ByteArray} {m : Int} (h : (s.size : Int) ≤ m) (h1 : PrintTo s s.size) : printB s m = true := by simp [printB, h, h1]
theorem printB_no {s : ByteArray} {m : Int} (k : Nat) (hk : k < s.size) (h : ¬ (32 ≤ bt s k ∧ bt s k ≤ 126)) : printB s m = false := by
  simp only [printB, decide_eq_false_iff_not]; intro ⟨_, h1⟩; exact h (h1 k hk)
theorem printB_long {s : ByteArray} {m : Int} (h : m < s.size) : printB s m = false := by
  simp only [printB, decide_eq_false_iff_not]; omega




end Go.Proofs.YtfnhikhgkkopfaaGreatDoor.W
