/- What impl.AutoLinks and impl.InlinesHTML make of an address among words, joined; and a walk of the statements' own helper word. Condition: as each theorem states. -/
import Derived.Test.YtfnhikhgkkopfaaGreatDoorAddr
import Derived.Test.YtfnhikhgkkopfaaGreatDoorDoors
namespace Go.Proofs.YtfnhikhgkkopfaaGreatDoor.W
open Go.RowKit Go.PlainAid
set_option linter.unusedVariables false

/-- a scheme as the statement has it -/
def SchemeS (S : ByteArray) (n : Nat) : Prop := (S = httpS ∧ n = 7) ∨ (S = httpsS ∧ n = 8)
theorem SchemeS.size {S : ByteArray} {n : Nat} (h : SchemeS S n) : S.size = n := by
  rcases h with ⟨rfl, rfl⟩ | ⟨rfl, rfl⟩ <;> rfl
theorem SchemeS.n0 {S : ByteArray} {n : Nat} (h : SchemeS S n) : n = 7 ∨ n = 8 := by
  rcases h with ⟨_, rfl⟩ | ⟨_, rfl⟩ <;> simp
theorem SchemeS.ok {S : ByteArray} {n : Nat} (h : SchemeS S n) : ∀ k, k < n → okB (bt S k) = true := by
  rcases h with ⟨rfl, rfl⟩ | ⟨rfl, rfl⟩ <;> decide
theorem SchemeS.h104 {S : ByteArray} {n : Nat} (h : SchemeS S n) : bt S 0 = 104 := by
  rcases h with ⟨rfl, rfl⟩ | ⟨rfl, rfl⟩ <;> rfl
theorem proto_c {s S : ByteArray} {p n d E : Nat} (hs : s.size ≤ 300) (h : SchemeS S n) (hU : Url s p n d E) (hA : AtS s S p) (pv : Value) : ∀ vb w, w.cell? ⟨vb, 0, none⟩ = some (.string s) → w.cell? ⟨vb, 1, none⟩ = some (.int .i64 0) →
    Calls Tryz.prog 26 #[pv, .string s, .int .i64 p, .pointer (some ⟨vb, 0, none⟩)] w (AutoSaid s p E w) := fun vb w h0 h1 => by
  rcases h with ⟨rfl, rfl⟩ | ⟨rfl, rfl⟩
  · exact parseAutoProto7 s p d E vb 0 pv w hs hU hA h0 h1 (Int.le_refl _)
  · exact parseAutoProto8 s p d E vb 0 pv w hs hU hA h0 h1 (Int.le_refl _)
/-- the text that the statement asks for -/
def asked (A U B : ByteArray) : ByteArray := A ++ ⟨#[60, 97, 32, 104, 114, 101, 102, 61, 34]⟩ ++ U ++ ⟨#[34, 62]⟩ ++ U ++ ⟨#[60, 47, 97, 62, 32]⟩ ++ B
/-- what a text becomes: inlines of its own, and their HTML -/
def Linked (x y : ByteArray) : Prop := ∃ n It, 0 < n ∧ n ≤ 3 ∧ (∀ w, Calls Tryz.prog 7 #[.string x] w (AutoDone n It w)) ∧ (∀ j, j < n → OkItem (It j)) ∧ (⟨(textTo It n).toArray⟩ : ByteArray) = y
theorem linked_mid {A U B S : ByteArray} {n d : Nat} (h : SchemeS S n) (hU : UrlS U S n d) (hAz : A.size ≤ 21) (hUz : U.size ≤ 100) (hBz : B.size ≤ 20) (hA0 : 0 < A.size) (hA1 : bt A (A.size - 1) = 32) (qA : ∀ k, k < A.size → quietB (bt A k)) (qB : ∀ k, k < B.size → quietB (bt B k)) :
    Linked (A ++ U ++ ⟨#[32]⟩ ++ B) (asked A U B) := by
  have hz := text_size A U B
  have hI := url_in A U B hU
  have hd0 := hU.d0
  have hd1 := hU.d1
  have h1 : (⟨#[32]⟩ ++ B : ByteArray).size = 1 + B.size := by rw [size_app]; rfl
  refine ⟨3, It3 A U (⟨#[32]⟩ ++ B), by omega, by omega, fun w => autoLinks_c 3 (by omega) (by omega) _ _ (fun pv w => ?_) w, ok3 (by omega) (by omega) (by omega) hU qA qB, text3 A U B⟩
  have hL := links_mid (A ++ U ++ ⟨#[32]⟩ ++ B) A.size (A.size + U.size) (by omega) hA0 (by omega) (by omega) (fun k hk => by rw [text_ahead A U B hk]; exact qA k hk) (by rw [text_ahead A U B (by omega)]; exact hA1)
    (by
      have := atS_bt (sch_in A U B hU) (k := 0) (by have := h.size; have := h.n0; omega)
      rw [Nat.add_zero] at this
      rw [this]; exact h.h104)
    (fun k k1 k2 => by rw [text_tail A U B k1 (by omega)]; exact tail_quiet B qB _ (by omega)) pv (proto_c (by omega) h hI (sch_in A U B hU) pv) w
  rw [ext_ahead, ext_mid, ext_tail] at hL
  exact hL
theorem linked_head {A U B S : ByteArray} {n d : Nat} (h : SchemeS S n) (hU : UrlS U S n d) (h0 : A.size = 0) (hUz : U.size ≤ 100) (hBz : B.size ≤ 20) (qB : ∀ k, k < B.size → quietB (bt B k)) :
    Linked (A ++ U ++ ⟨#[32]⟩ ++ B) (asked A U B) := by
  have hz := text_size A U B
  have hI := url_in A U B hU
  have hd0 := hU.d0
  have hd1 := hU.d1
  have h1 : (⟨#[32]⟩ ++ B : ByteArray).size = 1 + B.size := by rw [size_app]; rfl
  have hS := sch_in A U B hU
  have e1 := ext_mid A U B
  have e2 := ext_tail A U B
  have t2 := fun k => @text_tail A U B k
  have hy : (⟨(textTo (It2 U (⟨#[32]⟩ ++ B)) 2).toArray⟩ : ByteArray) = asked A U B := by
    rw [show A = ⟨#[]⟩ from str_ext h0 fun k hk => by omega]
    exact text2 U B
  generalize asked A U B = y at hy ⊢
  generalize A ++ U ++ ⟨#[32]⟩ ++ B = x at *
  simp only [h0, Nat.zero_add] at hI e1 e2 hz hS t2
  refine ⟨2, It2 U (⟨#[32]⟩ ++ B), by omega, by omega, fun w => autoLinks_c 2 (by omega) (by omega) _ _ (fun pv w => ?_) w, ok2 (by omega) (by omega) hU qB, hy⟩
  have hL := links_head x U.size (by omega) (by omega) (by omega)
    (by
      have := atS_bt hS (k := 0) (by have := h.size; have := h.n0; omega)
      rw [Nat.zero_add] at this
      rw [this]; exact h.h104)
    (fun k k1 k2 => by rw [t2 k k1 (by omega)]; exact tail_quiet B qB _ (by omega)) pv (fun vb w h2 h3 => proto_c (by omega) h hI hS pv vb w h2 h3) w
  rw [e1, e2] at hL
  exact hL

/-- a word of the statements -/
noncomputable def wordsB (s : ByteArray) : Bool := !s.toList.isEmpty && onlyB s ⟨#[97, 98, 122, 48, 49, 57]⟩ 20
theorem word_c (s : ByteArray) (hs : s.size ≤ maxLen) (w : World) : Calls Tryz.prog 5 #[.string s] w fun e w1 => e = .returned (.bool (wordsB s)) ∧ w = w1 := by
  unfold wordsB
  cases he : s.toList.isEmpty
  · go_enter Tryz.func5, Tryz.ntmps5
    go_wp2_with (go_at_call 4; refine (only_c _ _ _ hs _).mono ?_; rintro e w1 ⟨rfl, rfl⟩)
    go_ret
    exact ⟨by simp, rfl⟩
  · go_enter Tryz.func5, Tryz.ntmps5
    go_wp2_with fail
    go_ret
    exact ⟨by simp, rfl⟩
theorem wordsB_true {s : ByteArray} (h : wordsB s = true) : 0 < s.size ∧ s.size ≤ 20 ∧ ∀ k, k < s.size → wordB (bt s k) = true := by
  unfold wordsB at h
  rw [Bool.and_eq_true, onlyB_iff] at h
  obtain ⟨h1, h2, h3⟩ := h
  refine ⟨?_, by omega, only_word h3⟩
  rw [Bool.not_eq_true', Bool.eq_false_iff, Ne, ByteArray.toList_eq, List.isEmpty_iff] at h1
  rcases Nat.eq_zero_or_pos s.size with e | e
  · exact absurd (List.eq_nil_of_length_eq_zero (by simpa using e)) h1
  · exact e
/-! ### the law's own four forms of an address -/
theorem base_c {S D E : ByteArray} {n : Nat} (h : SchemeS S n) (hD : wordsB D = true) (hE : wordsB E = true) : UrlS (S ++ D ++ ⟨#[46]⟩ ++ E) S n (S ++ D ++ ⟨#[46]⟩ ++ E).size ∧ (S ++ D ++ ⟨#[46]⟩ ++ E).size ≤ 49 := by
  obtain ⟨d0, d1, d2⟩ := wordsB_true hD
  obtain ⟨e0, e1, e2⟩ := wordsB_true hE
  have hs := h.size
  have hn := h.n0
  have h1 : (⟨#[46]⟩ : ByteArray).size = 1 := rfl
  exact ⟨urlS_base S D E n hs hn h.ok d0 e0 d2 e2, by simp only [size_app]; omega⟩
theorem path_c {S D E p : ByteArray} {n : Nat} (h : SchemeS S n) (hD : wordsB D = true) (hE : wordsB E = true) (hp : onlyB p ⟨#[97, 98, 47]⟩ 20 = true) : UrlS (S ++ D ++ ⟨#[46]⟩ ++ E ++ (⟨#[47]⟩ ++ p)) S n (S ++ D ++ ⟨#[46]⟩ ++ E).size ∧ (S ++ D ++ ⟨#[46]⟩ ++ E ++ (⟨#[47]⟩ ++ p)).size ≤ 70 := by
  obtain ⟨h1, h2⟩ := base_c h hD hE
  obtain ⟨p1, p2⟩ := (onlyB_iff _ _ _).1 hp
  obtain ⟨q0, q1, q2⟩ := slash_path (only_path p2)
  have h4 : (⟨#[47]⟩ : ByteArray).size = 1 := rfl
  exact ⟨h1.more q0 q1 q2, by rw [size_app (S ++ D ++ ⟨#[46]⟩ ++ E), size_app ⟨#[47]⟩]; omega⟩
theorem law_head {A U B S : ByteArray} {n d m : Nat} (h : SchemeS S n) (hU : UrlS U S n d ∧ U.size ≤ m) (hm : m ≤ 70) (h0 : A.toList.isEmpty = true) (hB : onlyB B ⟨#[97, 98, 99, 32]⟩ 20 = true) : Linked (A ++ U ++ ⟨#[32]⟩ ++ B) (asked A U B) := by
  obtain ⟨b1, b2⟩ := (onlyB_iff _ _ _).1 hB
  have hz := hU.2
  refine linked_head h hU.1 ?_ (by omega) (by omega) (only_blan b2)
  rw [ByteArray.toList_eq, List.isEmpty_iff] at h0
  have := congrArg List.length h0
  simpa using this
theorem law_mid {A U B S : ByteArray} {n d m : Nat} (h : SchemeS S n) (hU : UrlS U S n d ∧ U.size ≤ m) (hm : m ≤ 70) (hA : onlyB A ⟨#[97, 98, 99, 32]⟩ 20 = true) (hB : onlyB B ⟨#[97, 98, 99, 32]⟩ 20 = true) : Linked (A ++ ⟨#[32]⟩ ++ U ++ ⟨#[32]⟩ ++ B) (asked (A ++ ⟨#[32]⟩) U B) := by
  obtain ⟨a1, a2⟩ := (onlyB_iff _ _ _).1 hA
  obtain ⟨b1, b2⟩ := (onlyB_iff _ _ _).1 hB
  have hz := hU.2
  have h4 : (⟨#[32]⟩ : ByteArray).size = 1 := rfl
  have hs : (A ++ ⟨#[32]⟩).size = A.size + 1 := by rw [size_app]; rfl
  have hl : bt (A ++ ⟨#[32]⟩) A.size = 32 := by rw [bt_app_r _ _ (Nat.le_refl _), Nat.sub_self]; rfl
  refine linked_mid h hU.1 (by omega) (by omega) (by omega) (by omega) (by rw [hs]; exact hl) (fun k hk => ?_) (only_blan b2)
  by_cases e : k < A.size
  · rw [bt_app_l _ _ e]; exact only_blan a2 k e
  · rw [show k = A.size from by omega, hl]; exact .inr rfl
theorem sch7 : SchemeS ⟨#[104, 116, 116, 112, 58, 47, 47]⟩ 7 := .inl ⟨rfl, rfl⟩
theorem sch8 : SchemeS ⟨#[104, 116, 116, 112, 115, 58, 47, 47]⟩ 8 := .inr ⟨rfl, rfl⟩
end Go.Proofs.YtfnhikhgkkopfaaGreatDoor.W
