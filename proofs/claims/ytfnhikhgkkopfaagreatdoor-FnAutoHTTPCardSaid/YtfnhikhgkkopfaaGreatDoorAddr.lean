/- Plain words on an address among words: where its parts stand in the text, that none of its letters is replaced, and what the three inlines print. No program in sight. Conditions: as each theorem states. -/
import Derived.Test.YtfnhikhgkkopfaaGreatDoorLinks
import Derived.Test.YtfnhikhgkkopfaaGreatDoorOnly
import Derived.Test.YtfnhikhgkkopfaaGreatDoorHtml
namespace Go.Proofs.YtfnhikhgkkopfaaGreatDoor.W
open Go.RowKit Go.PlainAid
set_option linter.unusedVariables false

/-- letters of the statements' words -/
def wordB (c : Int) : Bool := decide (c = 97 ∨ c = 98 ∨ c = 122 ∨ c = 48 ∨ c = 49 ∨ c = 57)
theorem wordB_iff (c : Int) : wordB c = true ↔ (c = 97 ∨ c = 98 ∨ c = 122 ∨ c = 48 ∨ c = 49 ∨ c = 57) := by simp [wordB]
def pathB (c : Int) : Bool := decide (c = 97 ∨ c = 98 ∨ c = 47)
def blanB (c : Int) : Bool := decide (c = 97 ∨ c = 98 ∨ c = 99 ∨ c = 32)
theorem inB_word : ∀ n, n < 256 → inB ⟨#[97, 98, 122, 48, 49, 57]⟩ ((n : Nat) : Int) = true → wordB n = true := by decide +kernel
theorem inB_path : ∀ n, n < 256 → inB ⟨#[97, 98, 47]⟩ ((n : Nat) : Int) = true → pathB n = true := by decide +kernel
theorem inB_blan : ∀ n, n < 256 → inB ⟨#[97, 98, 99, 32]⟩ ((n : Nat) : Int) = true → blanB n = true := by decide +kernel
theorem bt_nat (s : ByteArray) {k : Nat} (h : k < s.size) : ∃ n : Nat, n < 256 ∧ bt s k = n := ⟨s[k].toNat, s[k].toNat_lt, (get_bt s k h).symm⟩
theorem only_word {s : ByteArray} (h : OnlyTo s ⟨#[97, 98, 122, 48, 49, 57]⟩ s.size) : ∀ k, k < s.size → wordB (bt s k) = true := fun k hk => by
  obtain ⟨n, h1, h2⟩ := bt_nat s hk
  have := h k hk
  rw [h2] at this ⊢
  exact inB_word n h1 this
theorem only_path {s : ByteArray} (h : OnlyTo s ⟨#[97, 98, 47]⟩ s.size) : ∀ k, k < s.size → (bt s k = 47 ∨ bt s k = 97 ∨ bt s k = 98) := fun k hk => by
  obtain ⟨n, h1, h2⟩ := bt_nat s hk
  have := h k hk
  rw [h2] at this ⊢
  have := inB_path n h1 this
  simp [pathB] at this
  omega
theorem only_blan {s : ByteArray} (h : OnlyTo s ⟨#[97, 98, 99, 32]⟩ s.size) : ∀ k, k < s.size → quietB (bt s k) := fun k hk => by
  obtain ⟨n, h1, h2⟩ := bt_nat s hk
  have := h k hk
  rw [h2] at this ⊢
  have := inB_blan n h1 this
  simp [blanB] at this
  unfold quietB
  omega
theorem word_ldh {c : Int} (h : wordB c = true) : ldhB c = true ∧ okB c = true ∧ (letB c = true ∨ digB c = true) := by
  rw [wordB_iff] at h
  rw [ldhB_iff, letB_iff, digB_iff]
  simp only [okB, decide_eq_true_eq]
  omega

/-! ### four texts, one behind the other -/
theorem four (a b c d : ByteArray) {k : Nat} (h : k < a.size + b.size + c.size + d.size) :
    (k < a.size ∧ bt (a ++ b ++ c ++ d) k = bt a k) ∨ (a.size ≤ k ∧ k < a.size + b.size ∧ bt (a ++ b ++ c ++ d) k = bt b (k - a.size)) ∨
    (a.size + b.size ≤ k ∧ k < a.size + b.size + c.size ∧ bt (a ++ b ++ c ++ d) k = bt c (k - (a.size + b.size))) ∨
    (a.size + b.size + c.size ≤ k ∧ bt (a ++ b ++ c ++ d) k = bt d (k - (a.size + b.size + c.size))) := by
  by_cases h3 : k < a.size + b.size + c.size
  · rw [bt_app_l _ _ (by simp only [size_app]; omega)]
    by_cases h2 : k < a.size + b.size
    · rw [bt_app_l _ _ (by simp only [size_app]; omega)]
      by_cases h1 : k < a.size
      · rw [bt_app_l _ _ h1]
        exact .inl ⟨h1, rfl⟩
      · rw [bt_app_r _ _ (by omega)]
        exact .inr (.inl ⟨by omega, h2, rfl⟩)
    · rw [bt_app_r _ _ (by simp only [size_app]; omega), size_app]
      exact .inr (.inr (.inl ⟨by omega, h3, rfl⟩))
  · rw [bt_app_r _ _ (by simp only [size_app]; omega), size_app, size_app]
    exact .inr (.inr (.inr ⟨by omega, rfl⟩))

/-- u is an address by itself: its scheme S takes n letters, its domain ends at d -/
structure UrlS (u S : ByteArray) (n d : Nat) : Prop where
  n0 : n = 7 ∨ n = 8
  d0 : n + 2 < d
  d1 : d ≤ u.size
  dom : ∀ k, n ≤ k → k < d → (ldhB (bt u k) = true ∨ bt u k = 46)
  ends : d = u.size ∨ bt u d = 47
  path : ∀ k, d ≤ k → k < u.size → bt u k = 47 ∨ bt u k = 97 ∨ bt u k = 98
  last : letB (bt u (u.size - 1)) = true ∨ digB (bt u (u.size - 1)) = true ∨ bt u (u.size - 1) = 47
  ok : ∀ k, k < u.size → okB (bt u k) = true
  sch : AtS u S 0
theorem urlS_base (S D E : ByteArray) (n : Nat) (hn : S.size = n) (hn0 : n = 7 ∨ n = 8) (hS : ∀ k, k < n → okB (bt S k) = true) (hD0 : 0 < D.size) (hE0 : 0 < E.size) (hD : ∀ k, k < D.size → wordB (bt D k) = true) (hE : ∀ k, k < E.size → wordB (bt E k) = true) :
    UrlS (S ++ D ++ ⟨#[46]⟩ ++ E) S n (S ++ D ++ ⟨#[46]⟩ ++ E).size := by
  have hz : (S ++ D ++ ⟨#[46]⟩ ++ E).size = S.size + D.size + 1 + E.size := by simp only [size_app]; rfl
  have h1 : (⟨#[46]⟩ : ByteArray).size = 1 := rfl
  have b46 : ∀ j, j < 1 → bt ⟨#[46]⟩ j = 46 := by decide
  refine ⟨hn0, by omega, Nat.le_refl _, fun k k1 k2 => ?_, .inl rfl, fun k k1 k2 => by omega, ?_, fun k hk => ?_, atS_mk (by omega) fun k hk => ?_⟩
  · rcases four S D ⟨#[46]⟩ E (k := k) (by omega) with ⟨a, e⟩ | ⟨a, b, e⟩ | ⟨a, b, e⟩ | ⟨a, e⟩
    · omega
    · rw [e]; exact .inl (word_ldh (hD _ (by omega))).1
    · rw [e, b46 _ (by omega)]; exact .inr rfl
    · rw [e]; exact .inl (word_ldh (hE _ (by omega))).1
  · rcases four S D ⟨#[46]⟩ E (k := (S ++ D ++ ⟨#[46]⟩ ++ E).size - 1) (by omega) with ⟨a, e⟩ | ⟨a, b, e⟩ | ⟨a, b, e⟩ | ⟨a, e⟩
    · omega
    · omega
    · omega
    · rw [e]
      rcases (word_ldh (hE ((S ++ D ++ ⟨#[46]⟩ ++ E).size - 1 - (S.size + D.size + 1)) (by omega))).2.2 with h | h
      · exact .inl h
      · exact .inr (.inl h)
  · rcases four S D ⟨#[46]⟩ E (k := k) (by omega) with ⟨a, e⟩ | ⟨a, b, e⟩ | ⟨a, b, e⟩ | ⟨a, e⟩
    · rw [e]; exact hS _ (by omega)
    · rw [e]; exact (word_ldh (hD _ (by omega))).2.1
    · rw [e, b46 _ (by omega)]; rfl
    · rw [e]; exact (word_ldh (hE _ (by omega))).2.1
  · rw [Nat.zero_add]
    rcases four S D ⟨#[46]⟩ E (k := k) (by omega) with ⟨a, e⟩ | ⟨a, b, e⟩ | ⟨a, b, e⟩ | ⟨a, e⟩
    · exact e
    · omega
    · omega
    · omega
theorem path_ok {c : Int} (h : c = 47 ∨ c = 97 ∨ c = 98) : okB c = true ∧ (letB c = true ∨ digB c = true ∨ c = 47) := by
  rw [letB_iff, digB_iff]
  simp only [okB, decide_eq_true_eq]
  omega
/-- an address without a path, and a path behind it -/
theorem UrlS.more {u S p : ByteArray} {n : Nat} (h : UrlS u S n u.size) (hp0 : 0 < p.size) (hp1 : bt p 0 = 47) (hp : ∀ k, k < p.size → (bt p k = 47 ∨ bt p k = 97 ∨ bt p k = 98)) : UrlS (u ++ p) S n u.size := by
  have hz : (u ++ p).size = u.size + p.size := size_app _ _
  have hsz := h.sch.1
  have hl : ∀ k, k < u.size → bt (u ++ p) k = bt u k := fun k hk => bt_app_l _ _ hk
  have hr : ∀ k, u.size ≤ k → bt (u ++ p) k = bt p (k - u.size) := fun k hk => bt_app_r _ _ hk
  refine ⟨h.n0, h.d0, by omega, fun k k1 k2 => ?_, .inr ?_, fun k k1 k2 => ?_, ?_, fun k hk => ?_, atS_mk (by omega) fun k hk => ?_⟩
  · rw [hl k k2]; exact h.dom k k1 k2
  · rw [hr _ (Nat.le_refl _), Nat.sub_self]; exact hp1
  · rw [hr k k1]; exact hp _ (by omega)
  · rw [hr _ (by omega)]; exact (path_ok (hp _ (by omega))).2
  · by_cases e : k < u.size
    · rw [hl k e]; exact h.ok k e
    · rw [hr k (by omega)]; exact (path_ok (hp _ (by omega))).1
  · rw [hl _ (by omega)]; exact atS_bt h.sch hk
theorem slash_path {p : ByteArray} (hp : ∀ k, k < p.size → (bt p k = 47 ∨ bt p k = 97 ∨ bt p k = 98)) : 0 < (⟨#[47]⟩ ++ p : ByteArray).size ∧ bt (⟨#[47]⟩ ++ p) 0 = 47 ∧ ∀ k, k < (⟨#[47]⟩ ++ p : ByteArray).size → (bt (⟨#[47]⟩ ++ p) k = 47 ∨ bt (⟨#[47]⟩ ++ p) k = 97 ∨ bt (⟨#[47]⟩ ++ p) k = 98) := by
  have h1 : (⟨#[47]⟩ : ByteArray).size = 1 := rfl
  have h0 : bt (⟨#[47]⟩ ++ p) 0 = 47 := by rw [bt_app_l _ _ (by omega)]; rfl
  refine ⟨by rw [size_app]; omega, h0, fun k hk => ?_⟩
  rw [size_app] at hk
  by_cases e : k = 0
  · subst e; exact .inl h0
  · rw [bt_app_r _ _ (by omega)]
    exact hp _ (by omega)

/-! ### the address among words -/
section
variable (A U B : ByteArray)
theorem text_size : (A ++ U ++ ⟨#[32]⟩ ++ B).size = A.size + U.size + 1 + B.size := by simp only [size_app]; rfl
theorem text_ahead {k : Nat} (h : k < A.size) : bt (A ++ U ++ ⟨#[32]⟩ ++ B) k = bt A k := by
  rcases four A U ⟨#[32]⟩ B (k := k) (by omega) with ⟨a, e⟩ | ⟨a, b, e⟩ | ⟨a, b, e⟩ | ⟨a, e⟩ <;> first | exact e | omega
theorem text_mid {k : Nat} (h : k < U.size) : bt (A ++ U ++ ⟨#[32]⟩ ++ B) (A.size + k) = bt U k := by
  rcases four A U ⟨#[32]⟩ B (k := A.size + k) (by omega) with ⟨a, e⟩ | ⟨a, b, e⟩ | ⟨a, b, e⟩ | ⟨a, e⟩ <;> first | (rw [e, Nat.add_sub_cancel_left]; done) | omega
theorem text_tail {k : Nat} (h0 : A.size + U.size ≤ k) (h : k < A.size + U.size + 1 + B.size) : bt (A ++ U ++ ⟨#[32]⟩ ++ B) k = bt (⟨#[32]⟩ ++ B) (k - (A.size + U.size)) := by
  have h1 : (⟨#[32]⟩ : ByteArray).size = 1 := rfl
  rcases four A U ⟨#[32]⟩ B (k := k) (by omega) with ⟨a, e⟩ | ⟨a, b, e⟩ | ⟨a, b, e⟩ | ⟨a, e⟩
  · omega
  · omega
  · rw [e, bt_app_l _ _ (by omega)]
  · rw [e, bt_app_r _ _ (by omega), show k - (A.size + U.size) - (⟨#[32]⟩ : ByteArray).size = k - (A.size + U.size + (⟨#[32]⟩ : ByteArray).size) from by omega]
theorem tail_quiet (hB : ∀ k, k < B.size → quietB (bt B k)) : ∀ k, k < (⟨#[32]⟩ ++ B : ByteArray).size → quietB (bt (⟨#[32]⟩ ++ B) k) := fun k hk => by
  have h1 : (⟨#[32]⟩ : ByteArray).size = 1 := rfl
  rw [size_app] at hk
  by_cases e : k = 0
  · subst e; rw [bt_app_l _ _ (by omega)]; exact .inr rfl
  · rw [bt_app_r _ _ (by omega)]
    exact hB _ (by omega)
theorem ext_ahead : (A ++ U ++ ⟨#[32]⟩ ++ B).extract 0 A.size = A := by
  have hz := text_size A U B
  refine str_ext (by rw [size_extract]; omega) fun k hk => ?_
  rw [size_extract] at hk
  rw [bt_extract _ (by omega) (by omega), Nat.zero_add, text_ahead A U B (by omega)]
theorem ext_mid : (A ++ U ++ ⟨#[32]⟩ ++ B).extract A.size (A.size + U.size) = U := by
  have hz := text_size A U B
  refine str_ext (by rw [size_extract]; omega) fun k hk => ?_
  rw [size_extract] at hk
  rw [bt_extract _ (by omega) (by omega), text_mid A U B (by omega)]
theorem ext_tail : (A ++ U ++ ⟨#[32]⟩ ++ B).extract (A.size + U.size) (A ++ U ++ ⟨#[32]⟩ ++ B).size = ⟨#[32]⟩ ++ B := by
  have hz := text_size A U B
  have h2 : (⟨#[32]⟩ ++ B : ByteArray).size = 1 + B.size := by rw [size_app]; rfl
  refine str_ext (by rw [size_extract, h2]; omega) fun k hk => ?_
  rw [size_extract] at hk
  rw [bt_extract _ (by omega) (by omega), text_tail A U B (by omega) (by omega), Nat.add_sub_cancel_left]
theorem url_in {S : ByteArray} {n d : Nat} (h : UrlS U S n d) : Url (A ++ U ++ ⟨#[32]⟩ ++ B) A.size n (A.size + d) (A.size + U.size) := by
  have hz := text_size A U B
  have hd0 := h.d0
  have hd1 := h.d1
  have h32 : bt (A ++ U ++ ⟨#[32]⟩ ++ B) (A.size + U.size) = 32 := by
    rw [text_tail A U B (by omega) (by omega), Nat.sub_self, bt_app_l _ _ (by decide)]; rfl
  refine ⟨h.n0, by omega, by omega, by omega, fun k k1 k2 => ?_, ?_, fun k k1 k2 => ?_, h32, ?_⟩
  · obtain ⟨j, rfl⟩ : ∃ j, k = A.size + j := ⟨k - A.size, by omega⟩
    rw [text_mid A U B (by omega)]
    exact h.dom j (by omega) (by omega)
  · by_cases e : d = U.size
    · rw [e]; exact .inr h32
    · rw [text_mid A U B (by omega)]
      rcases h.ends with h2 | h2
      · exact absurd h2 e
      · exact .inl h2
  · obtain ⟨j, rfl⟩ : ∃ j, k = A.size + j := ⟨k - A.size, by omega⟩
    rw [text_mid A U B (by omega)]
    exact h.path j (by omega) (by omega)
  · rw [show A.size + U.size - 1 = A.size + (U.size - 1) from by omega, text_mid A U B (by omega)]
    exact h.last
theorem sch_in {S : ByteArray} {n d : Nat} (h : UrlS U S n d) : AtS (A ++ U ++ ⟨#[32]⟩ ++ B) S A.size := by
  have hz := text_size A U B
  have h1 := h.sch.1
  refine atS_mk (by omega) fun k hk => ?_
  rw [text_mid A U B (by omega)]
  have := atS_bt h.sch hk
  rwa [Nat.zero_add] at this
end
theorem quiet_ok {c : Int} (h : quietB c) : okB c = true ∨ c = 32 := by
  unfold quietB at h
  simp only [okB, decide_eq_true_eq]
  omega
theorem ok3 {A U B S : ByteArray} {n d : Nat} (hA : A.size ≤ 300) (hU : U.size ≤ 300) (hB : (⟨#[32]⟩ ++ B : ByteArray).size ≤ 300) (h : UrlS U S n d) (qA : ∀ k, k < A.size → quietB (bt A k)) (qB : ∀ k, k < B.size → quietB (bt B k)) : ∀ j, j < 3 → OkItem (It3 A U (⟨#[32]⟩ ++ B) j)
  | 0, _ => ⟨hA, fun k hk => quiet_ok (qA k hk)⟩
  | 1, _ => ⟨hU, h.ok⟩
  | 2, _ => ⟨hB, fun k hk => quiet_ok (tail_quiet B qB k hk)⟩
theorem ok2 {U B S : ByteArray} {n d : Nat} (hU : U.size ≤ 300) (hB : (⟨#[32]⟩ ++ B : ByteArray).size ≤ 300) (h : UrlS U S n d) (qB : ∀ k, k < B.size → quietB (bt B k)) : ∀ j, j < 2 → OkItem (It2 U (⟨#[32]⟩ ++ B) j)
  | 0, _ => ⟨hU, h.ok⟩
  | 1, _ => ⟨hB, fun k hk => quiet_ok (tail_quiet B qB k hk)⟩
theorem bytes_eq {a b : ByteArray} (h : a.data.toList = b.data.toList) : a = b := str_of_list (by rw [ByteArray.toList_eq, ByteArray.toList_eq]; exact h)
theorem text3 (A U B : ByteArray) : (⟨(textTo (It3 A U (⟨#[32]⟩ ++ B)) 3).toArray⟩ : ByteArray) = A ++ ⟨#[60, 97, 32, 104, 114, 101, 102, 61, 34]⟩ ++ U ++ ⟨#[34, 62]⟩ ++ U ++ ⟨#[60, 47, 97, 62, 32]⟩ ++ B :=
  bytes_eq (by simp [textTo, itemText, It3, ByteArray.data_append])
theorem text2 (U B : ByteArray) : (⟨(textTo (It2 U (⟨#[32]⟩ ++ B)) 2).toArray⟩ : ByteArray) = ⟨#[]⟩ ++ ⟨#[60, 97, 32, 104, 114, 101, 102, 61, 34]⟩ ++ U ++ ⟨#[34, 62]⟩ ++ U ++ ⟨#[60, 47, 97, 62, 32]⟩ ++ B :=
  bytes_eq (by simp [textTo, itemText, It2, ByteArray.data_append])
end Go.Proofs.YtfnhikhgkkopfaaGreatDoor.W
