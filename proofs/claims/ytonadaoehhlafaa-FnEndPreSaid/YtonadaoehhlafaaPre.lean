/- Plain words for hasEndPre: the bytes that it gathers, and why it finds a closing tag just where one stands. No walk here. Condition of the last laws: no tag begins within an open one. -/
import Derived.Test.YtonadaoehhlafaaEnds
namespace Go.Proofs.Ytonadaoehhlafaa.W
open Go.RowKit Go.PlainAid

/-- j bytes from a on, with small letters -/
def seg (s : ByteArray) (a : Nat) : Nat → List UInt8
  | 0 => []
  | j + 1 => seg s a j ++ [UInt8.ofNat (lowI (bt s (a + j))).toNat]
theorem seg_length (s : ByteArray) (a : Nat) : ∀ j, (seg s a j).length = j
  | 0 => rfl
  | j + 1 => by simp [seg, seg_length s a j]
theorem seg_get (s : ByteArray) (a : Nat) : ∀ j t, t < j → ((seg s a j).getD t 0).toNat = (lowI (bt s (a + t))).toNat
  | 0, t, h => by omega
  | j + 1, t, h => by
    have bd := lowI_bd (bt_nonneg s (a + t)) (bt_le s (a + t))
    unfold seg
    by_cases e : t = j
    · subst e
      rw [List.getD_eq_getElem?_getD, List.getElem?_append_right (by rw [seg_length]; exact Nat.le_refl _), seg_length, Nat.sub_self]
      simp; omega
    · have := seg_get s a j t (by omega)
      rw [List.getD_eq_getElem?_getD] at this ⊢
      rw [List.getElem?_append_left (by rw [seg_length]; omega)]
      exact this
theorem bt_seg (s : ByteArray) (a j t : Nat) (h : t < j) : bt ⟨(seg s a j).toArray⟩ t = lowI (bt s (a + t)) := by
  have bd := lowI_bd (bt_nonneg s (a + t)) (bt_le s (a + t))
  rw [bt_toArray, seg_get s a j t h]
  omega

/-- a small letter, of whichever case -/
def smallB (c : Int) : Bool := decide (97 ≤ lowI c ∧ lowI c ≤ 122)
theorem smallB_iff (c : Int) : smallB c = true ↔ 97 ≤ lowI c ∧ lowI c ≤ 122 := by simp [smallB]

/-- the closing tag of a name -/
def closing (name : List UInt8) : ByteArray := ⟨#[60, 47]⟩ ++ ⟨name.toArray⟩ ++ ⟨#[62]⟩
theorem closing_size (name : List UInt8) : (closing name).size = name.length + 3 := by
  unfold closing; rw [size_app, size_app]
  show 2 + name.toArray.size + 1 = _
  simp; omega
theorem bt_closing_0 (name : List UInt8) : bt (closing name) 0 = 60 := by
  unfold closing; rw [bt_app_l _ _ (by rw [size_app]; show 0 < 2 + _; omega), bt_app_l _ _ (by show 0 < 2; omega)]; rfl
theorem bt_closing_1 (name : List UInt8) : bt (closing name) 1 = 47 := by
  unfold closing; rw [bt_app_l _ _ (by rw [size_app]; show 1 < 2 + _; omega), bt_app_l _ _ (by show 1 < 2; omega)]; rfl
theorem bt_closing_in (name : List UInt8) (t : Nat) (h : t < name.length) : bt (closing name) (t + 2) = bt ⟨name.toArray⟩ t := by
  have hz : (⟨name.toArray⟩ : ByteArray).size = name.length := by show name.toArray.size = _; simp
  unfold closing; rw [bt_app_l _ _ (by rw [size_app, hz]; show t + 2 < 2 + _; omega), bt_app_r _ _ (by show 2 ≤ t + 2; omega)]; rfl
theorem bt_closing_end (name : List UInt8) : bt (closing name) (name.length + 2) = 62 := by
  have hz : (⟨name.toArray⟩ : ByteArray).size = name.length := by show name.toArray.size = _; simp
  unfold closing; rw [bt_app_r _ _ (by rw [size_app, hz]; show 2 + _ ≤ _; omega), size_app, hz]
  show bt ⟨#[62]⟩ (name.length + 2 - (2 + name.length)) = 62
  rw [show name.length + 2 - (2 + name.length) = 0 from by omega]; rfl

/-- a name of small letters, at most eight -/
structure Name (name : List UInt8) : Prop where
  len : name.length ≤ 8
  small : ∀ t, t < name.length → 97 ≤ bt ⟨name.toArray⟩ t ∧ bt ⟨name.toArray⟩ t ≤ 122

/-- what the gathering has told: '<' at k, '/' behind it, j letters, and why it stopped -/
structure Gathered (s : ByteArray) (k j : Nat) : Prop where
  lt : bt s k = 60
  slash : bt s (k + 1) = 47
  le : k + 2 + j ≤ s.size
  j8 : j ≤ 8
  letters : ∀ t, t < j → smallB (bt s (k + 2 + t)) = true
  stop : k + 2 + j = s.size ∨ j = 8 ∨ smallB (bt s (k + 2 + j)) = false

theorem low_is {c d : Int} (h : lowI c = d) (hd : ¬ (97 ≤ d ∧ d ≤ 122)) : c = d := by
  by_cases h1 : 65 ≤ c ∧ c ≤ 90
  · rw [lowI_cap h1] at h; omega
  · rw [lowI_not h1] at h; exact h

/-- a tag that stands at k is the one that was gathered -/
theorem gathered_at {s : ByteArray} {k j : Nat} {name : List UInt8} (g : Gathered s k j) (hn : Name name) (h : AtS (lowS s) (closing name) k) : j = name.length ∧ k + 2 + j < s.size ∧ bt s (k + 2 + j) = 62 ∧ seg s (k + 2) j = name := by
  have hz := h.1
  rw [closing_size, lowS_size] at hz
  have hin : ∀ t, t < name.length → lowI (bt s (k + 2 + t)) = bt ⟨name.toArray⟩ t := fun t ht => by
    have := atS_bt h (k := t + 2) (by rw [closing_size]; omega)
    rw [bt_closing_in name t ht, bt_lowS s (by omega), show k + (t + 2) = k + 2 + t from by omega] at this
    exact this
  have hend : bt s (k + 2 + name.length) = 62 := by
    have := atS_bt h (k := name.length + 2) (by rw [closing_size]; omega)
    rw [bt_closing_end, bt_lowS s (by omega), show k + (name.length + 2) = k + 2 + name.length from by omega] at this
    exact low_is this (by omega)
  have hj : j = name.length := by
    have h8 := hn.len
    by_cases c1 : j < name.length
    · rcases g.stop with e | e | e
      · omega
      · omega
      · have hs := hn.small j c1
        rw [← hin j c1] at hs
        have := (smallB_iff (bt s (k + 2 + j))).2 hs
        rw [e] at this; cases this
    · by_cases c2 : name.length < j
      · have := g.letters name.length c2
        rw [hend] at this
        exact absurd this (by decide)
      · omega
  subst hj
  refine ⟨rfl, by omega, hend, ?_⟩
  apply List.ext_getElem (by rw [seg_length])
  intro t h1 h2
  have e1 := bt_seg s (k + 2) name.length t h2
  rw [hin t h2, bt_toArray, bt_toArray, List.getD_eq_getElem?_getD, List.getD_eq_getElem?_getD, List.getElem?_eq_getElem h1, List.getElem?_eq_getElem h2] at e1
  simp only [Option.getD_some] at e1
  exact UInt8.toNat_inj.1 (by omega)
/-- .. and the other way round -/
theorem gathered_mk {s : ByteArray} {k j : Nat} {name : List UInt8} (g : Gathered s k j) (hlt : k + 2 + j < s.size) (hgt : bt s (k + 2 + j) = 62) (hs : seg s (k + 2) j = name) : AtS (lowS s) (closing name) k := by
  have hl : name.length = j := by rw [← hs, seg_length]
  apply atS_mk
  · rw [closing_size, lowS_size]; omega
  intro t ht
  rw [closing_size] at ht
  rw [bt_lowS s (by omega)]
  by_cases c0 : t = 0
  · subst c0; rw [bt_closing_0, Nat.add_zero, g.lt]; rfl
  by_cases c1 : t = 1
  · subst c1; rw [bt_closing_1, g.slash]; rfl
  by_cases c2 : t = name.length + 2
  · subst c2; rw [bt_closing_end, hl, show k + (j + 2) = k + 2 + j from by omega, hgt]; rfl
  · obtain ⟨u, rfl⟩ : ∃ u, t = u + 2 := ⟨t - 2, by omega⟩
    rw [bt_closing_in name u (by omega), show k + (u + 2) = k + 2 + u from by omega, ← hs, bt_seg s (k + 2) j u (by omega)]
/-- nothing begins between k and the place where the gathering stopped -/
theorem gathered_none {s : ByteArray} {k j p : Nat} {name : List UInt8} (g : Gathered s k j) (ha : ApartTo s s.size) (h1 : k < p) (h2 : p ≤ k + 2 + j) : ¬ AtS (lowS s) (closing name) p := by
  intro h
  have hz := h.1
  rw [closing_size, lowS_size] at hz
  have h60 : bt s p = 60 := by
    have := atS_bt h (k := 0) (by rw [closing_size]; omega)
    rw [bt_closing_0, Nat.add_zero, bt_lowS s (by omega)] at this
    exact low_is this (by omega)
  have hin : ∀ q, k < q → q < k + 2 + j → bt s q = 47 ∨ smallB (bt s q) = true := fun q hq hq2 => by
    by_cases e : q = k + 1
    · subst e; exact .inl g.slash
    · obtain ⟨u, rfl⟩ : ∃ u, q = k + 2 + u := ⟨q - (k + 2), by omega⟩
      exact .inr (g.letters u (by omega))
  by_cases hp : p < k + 2 + j
  · rcases hin p h1 hp with e | e
    · omega
    · rw [h60] at e; exact absurd e (by decide)
  · have ho : ∀ d, k + 1 + d ≤ k + 2 + j → openTo s (k + 1 + d) = true := by
      intro d
      induction d with
      | zero => intro _; simp [openTo, g.lt]
      | succ d ih =>
        intro hd
        have i := ih (by omega)
        have hne : bt s (k + 1 + d) ≠ 62 ∧ bt s (k + 1 + d) ≠ 10 := by
          rcases hin (k + 1 + d) (by omega) (by omega) with e | e
          · omega
          · constructor
            · intro f; rw [f] at e; exact absurd e (by decide)
            · intro f; rw [f] at e; exact absurd e (by decide)
        show openTo s (k + 1 + d + 1) = true
        simp [openTo, i, hne.1, hne.2]
    exact ha p (by omega) ⟨h60, by
      have := ho (j + 1) (by omega)
      rwa [show k + 1 + (j + 1) = p from by omega] at this⟩

def names : List (List UInt8) := [[112, 114, 101], [115, 99, 114, 105, 112, 116], [115, 116, 121, 108, 101], [116, 101, 120, 116, 97, 114, 101, 97]]
theorem names_ok : ∀ n ∈ names, Name n := by
  intro n hn
  simp only [names, List.mem_cons, List.not_mem_nil, or_false] at hn
  rcases hn with rfl | rfl | rfl | rfl
  all_goals exact ⟨by decide, by decide⟩
theorem endsB_yes {s : ByteArray} : endsB s = true ↔ ∃ n ∈ names, ∃ i, AtS (lowS s) (closing n) i := by
  have e : ∀ n, hasB (lowS s) (closing n) = true ↔ ∃ i, AtS (lowS s) (closing n) i := fun n => hasB_iff _ _
  have e2 : endsB s = (hasB (lowS s) (closing [112, 114, 101]) || hasB (lowS s) (closing [115, 99, 114, 105, 112, 116]) || hasB (lowS s) (closing [115, 116, 121, 108, 101]) || hasB (lowS s) (closing [116, 101, 120, 116, 97, 114, 101, 97])) := rfl
  rw [e2]
  simp only [Bool.or_eq_true, e, names, List.mem_cons, List.not_mem_nil, or_false, exists_eq_or_imp, exists_eq_left]
  constructor
  · rintro (((h | h) | h) | h)
    · exact .inl h
    · exact .inr (.inl h)
    · exact .inr (.inr (.inl h))
    · exact .inr (.inr (.inr h))
  · rintro (h | h | h | h)
    · exact .inl (.inl (.inl h))
    · exact .inl (.inl (.inr h))
    · exact .inl (.inr h)
    · exact .inr h
/-- no closing tag of the four begins ahead of n -/
def NoneTo (s : ByteArray) (n : Nat) : Prop := ∀ p, p < n → ∀ m ∈ names, ¬ AtS (lowS s) (closing m) p
theorem noneTo_end {s : ByteArray} {n : Nat} (h : NoneTo s n) (hn : s.size ≤ n) : endsB s = false := by
  cases e : endsB s
  · rfl
  · obtain ⟨m, hm, i, hi⟩ := endsB_yes.1 e
    have := hi.1
    rw [closing_size, lowS_size] at this
    exact absurd hi (h i (by omega) m hm)
/-- one byte on: no '</' stands there -/
theorem noneTo_skip {s : ByteArray} {k : Nat} (h : NoneTo s k) (hk : ¬ (bt s k = 60 ∧ k + 1 < s.size ∧ bt s (k + 1) = 47)) : NoneTo s (k + 1) := by
  intro p hp m hm
  by_cases e : p = k
  · subst e
    intro hat
    have hz := hat.1
    rw [closing_size, lowS_size] at hz
    refine hk ⟨?_, by omega, ?_⟩
    · have := atS_bt hat (k := 0) (by rw [closing_size]; omega)
      rw [bt_closing_0, Nat.add_zero, bt_lowS s (by omega)] at this
      exact low_is this (by omega)
    · have := atS_bt hat (k := 1) (by rw [closing_size]; omega)
      rw [bt_closing_1, bt_lowS s (by omega)] at this
      exact low_is this (by omega)
  · exact h p (by omega) m hm
/-- past what was gathered, if it was none of the four -/
theorem noneTo_past {s : ByteArray} {k j : Nat} (h : NoneTo s k) (g : Gathered s k j) (ha : ApartTo s s.size) (hno : ¬ (k + 2 + j < s.size ∧ bt s (k + 2 + j) = 62 ∧ seg s (k + 2) j ∈ names)) : NoneTo s (k + 2 + j + 1) := by
  intro p hp m hm
  by_cases e : p < k
  · exact h p e m hm
  by_cases f : p = k
  · subst f
    intro hat
    obtain ⟨_, h1, h2, h3⟩ := gathered_at g (names_ok m hm) hat
    exact hno ⟨h1, h2, by rw [h3]; exact hm⟩
  · exact gathered_none g ha (by omega) (by omega)
theorem ends_found {s : ByteArray} {k j : Nat} (g : Gathered s k j) (hlt : k + 2 + j < s.size) (hgt : bt s (k + 2 + j) = 62) (hs : seg s (k + 2) j ∈ names) : endsB s = true :=
  endsB_yes.2 ⟨_, hs, k, gathered_mk g hlt hgt rfl⟩
end Go.Proofs.Ytonadaoehhlafaa.W
