/- Walks of the reference's htmlLower and htmlContains, and of the statement's tagsApart. Condition: the strings have at most 2000 bytes (tagsApart, htmlContains: at most 2147483647). -/
import Derived.Test.YtonadaoehhlafaaOwn
import Derived.Test.YtonadaoehhlafaaApp
import Derived.WalkKit
namespace Go.Proofs.Ytonadaoehhlafaa.W
open Go.RowKit Go.PlainAid

/-- a capital letter as the small one -/
def lowI (c : Int) : Int := if 65 ≤ c ∧ c ≤ 90 then c + 32 else c
theorem lowI_cap {c : Int} (h : 65 ≤ c ∧ c ≤ 90) : lowI c = c + 32 := if_pos h
theorem lowI_not {c : Int} (h : ¬ (65 ≤ c ∧ c ≤ 90)) : lowI c = c := if_neg h
theorem lowI_bd {c : Int} (h0 : 0 ≤ c) (h1 : c ≤ 255) : 0 ≤ lowI c ∧ lowI c ≤ 255 := by unfold lowI; split <;> omega
/-- .. of the first n bytes of a string -/
def lowTo (s : ByteArray) : Nat → List UInt8
  | 0 => []
  | n + 1 => lowTo s n ++ [UInt8.ofNat (lowI (bt s n)).toNat]
theorem lowTo_length (s : ByteArray) : ∀ n, (lowTo s n).length = n
  | 0 => rfl
  | n + 1 => by simp [lowTo, lowTo_length s n]
/-- a string with small letters -/
def lowS (s : ByteArray) : ByteArray := ⟨(lowTo s s.size).toArray⟩
theorem lowS_size (s : ByteArray) : (lowS s).size = s.size := by show (lowTo s s.size).toArray.size = _; simp [lowTo_length]
theorem bt_toArray (l : List UInt8) (k : Nat) : bt ⟨l.toArray⟩ k = ((l.getD k 0).toNat : Int) := by
  unfold bt
  by_cases h : k < l.length
  · have h1 : k < (⟨l.toArray⟩ : ByteArray).size := by show k < l.toArray.size; simpa using h
    rw [dif_pos h1]
    have : (⟨l.toArray⟩ : ByteArray)[k] = l[k] := by show l.toArray[k] = _; simp
    rw [this, List.getD_eq_getElem?_getD, List.getElem?_eq_getElem h]; rfl
  · rw [dif_neg (by show ¬ k < l.toArray.size; simpa using h), List.getD_eq_getElem?_getD, List.getElem?_eq_none (by omega)]; rfl
theorem lowTo_get (s : ByteArray) : ∀ n k, k < n → ((lowTo s n).getD k 0).toNat = (lowI (bt s k)).toNat
  | 0, k, h => by omega
  | n + 1, k, h => by
    have bd := lowI_bd (bt_nonneg s k) (bt_le s k)
    unfold lowTo
    by_cases e : k = n
    · subst e
      rw [List.getD_eq_getElem?_getD, List.getElem?_append_right (by rw [lowTo_length]; exact Nat.le_refl _), lowTo_length, Nat.sub_self]
      simp; omega
    · have := lowTo_get s n k (by omega)
      rw [List.getD_eq_getElem?_getD] at this ⊢
      rw [List.getElem?_append_left (by rw [lowTo_length]; omega)]
      exact this
theorem bt_lowS (s : ByteArray) {k : Nat} (h : k < s.size) : bt (lowS s) k = lowI (bt s k) := by
  have bd := lowI_bd (bt_nonneg s k) (bt_le s k)
  unfold lowS
  rw [bt_toArray, lowTo_get s _ _ h]
  omega

set_option maxHeartbeats 1000000 in
theorem htmlLower_c (s : ByteArray) (hs : s.size ≤ 2000) (w : World) :
    Calls Try.prog 41 #[.string s] w fun e w1 => e = .returned (.string (lowS s)) ∧ Below w.heap.size w w1 := by
  have hb := get_bt s
  go_enter Try.func41, Try.ntmps41
  go_wp2_with fail
  go_loopw [3, 4] (fun v i wr => ∃ k : Nat, k ≤ s.size ∧ i = .int .i64 k ∧ OwnB wr w.heap.size v (lowTo s k) ∧ Below w.heap.size w wr) (fun _ i _ => s.size - (intOf i).toNat)
  case atStart => exact ⟨0, Nat.zero_le _, rfl, OwnB.made #[] 0 (Nat.le_refl _) (by unfold maxLen; omega) rfl, (Below.refl _ _).alloc (Nat.le_refl _) _⟩
  case round =>
    obtain ⟨k, hk, rfl, hO, hB⟩ := hrel
    have hz := hB.size
    have b0 := bt_nonneg s k
    have b1 := bt_le s k
    by_cases hlt : k < s.size
    · by_cases hcap : 65 ≤ bt s k ∧ bt s k ≤ 90
      · have hl := lowI_cap hcap
        obtain ⟨c0, c1⟩ := hcap
        replace hl := Lib.hid hl
        have hb := hb
        go_wp2_with (at_builtin; refine append_byte rfl _ _ rfl w.heap.size _ (lowTo s k) rfl (hO.alloc _) ⟨wr.heap.size, 0, none⟩ (bt s k + 32) (by omega) (by omega) rfl (by rw [World.cell?_alloc_at _ _ _ _ rfl]; rfl) (by rw [lowTo_length]; omega) (by simp; omega) ?_)
        intro v' w1 hown hgrow
        have hO' : OwnB w1 w.heap.size v' (lowTo s (k + 1)) := by rw [lowTo, hl.out]; exact hown
        have hB' : Below w.heap.size w w1 := (hB.alloc (by omega) _).grown hgrow (by simp; omega) (fun j hj => (hO.lt j hj).1)
        clear hown hgrow hO hB
        go_wp2
        go_roundw
        case rel => exact ⟨k + 1, by omega, by go_num, hO', hB'⟩
        case measure => simp [intOf]; omega
      · have hl := lowI_not hcap
        replace hl := Lib.hid hl
        by_cases h65 : bt s k < 65
        · clear hcap
          go_wp2_with (at_builtin; refine append_byte rfl _ _ rfl w.heap.size _ (lowTo s k) rfl (hO.alloc _) ⟨wr.heap.size, 0, none⟩ (bt s k) (by omega) (by omega) rfl (by rw [World.cell?_alloc_at _ _ _ _ rfl]; rfl) (by rw [lowTo_length]; omega) (by simp; omega) ?_)
          intro v' w1 hown hgrow
          have hO' : OwnB w1 w.heap.size v' (lowTo s (k + 1)) := by rw [lowTo, hl.out]; exact hown
          have hB' : Below w.heap.size w w1 := (hB.alloc (by omega) _).grown hgrow (by simp; omega) (fun j hj => (hO.lt j hj).1)
          clear hown hgrow hO hB
          go_wp2
          go_roundw
          case rel => exact ⟨k + 1, by omega, by go_num, hO', hB'⟩
          case measure => simp [intOf]; omega
        · have h90 : 90 < bt s k := by omega
          clear hcap
          go_wp2_with (at_builtin; refine append_byte rfl _ _ rfl w.heap.size _ (lowTo s k) rfl (hO.alloc _) ⟨wr.heap.size, 0, none⟩ (bt s k) (by omega) (by omega) rfl (by rw [World.cell?_alloc_at _ _ _ _ rfl]; rfl) (by rw [lowTo_length]; omega) (by simp; omega) ?_)
          intro v' w1 hown hgrow
          have hO' : OwnB w1 w.heap.size v' (lowTo s (k + 1)) := by rw [lowTo, hl.out]; exact hown
          have hB' : Below w.heap.size w w1 := (hB.alloc (by omega) _).grown hgrow (by simp; omega) (fun j hj => (hO.lt j hj).1)
          clear hown hgrow hO hB
          go_wp2
          go_roundw
          case rel => exact ⟨k + 1, by omega, by go_num, hO', hB'⟩
          case measure => simp [intOf]; omega
    · have e : k = s.size := by omega
      subst e
      obtain ⟨a, cap, rfl⟩ := hO.val
      have hcv := hO.str
      have hl : Hid ((lowTo s s.size).length = s.size) := lowTo_length s s.size
      go_wp2
      go_ret
      exact ⟨rfl, hB⟩

theorem str_of_list {a b : ByteArray} (h : a.toList = b.toList) : a = b := by
  rw [ByteArray.toList_eq, ByteArray.toList_eq] at h
  cases a; cases b; simp_all
/-- does t stand in s at i? -/
def AtS (s t : ByteArray) (i : Nat) : Prop := i + t.size ≤ s.size ∧ s.extract i (i + t.size) = t
theorem atS_bt {s t : ByteArray} {i : Nat} (h : AtS s t i) {k : Nat} (hk : k < t.size) : bt s (i + k) = bt t k := by
  rw [← bt_extract s (a := i) (b := i + t.size) (by omega) h.1, h.2]
theorem atS_mk {s t : ByteArray} {i : Nat} (h : i + t.size ≤ s.size) (h1 : ∀ k, k < t.size → bt s (i + k) = bt t k) : AtS s t i := by
  refine ⟨h, str_ext (by rw [size_extract]; omega) fun k hk => ?_⟩
  rw [size_extract] at hk
  rw [bt_extract s (by omega) h]
  exact h1 k (by omega)
open Classical in
noncomputable def hasB (s t : ByteArray) : Bool := decide (∃ i, AtS s t i)
theorem hasB_iff (s t : ByteArray) : hasB s t = true ↔ ∃ i, AtS s t i := by simp [hasB]

theorem htmlContains_c (s t : ByteArray) (hs : s.size ≤ 2147483647) (ht : t.size ≤ 2147483647) (w : World) :
    Calls Try.prog 43 #[.string s, .string t] w fun e w1 => e = .returned (.bool (hasB s t)) ∧ w = w1 := by
  have hb := get_bt s
  go_enter Try.func43, Try.ntmps43
  go_wp2
  go_loop [5] (fun i => ∃ k : Nat, k ≤ s.size + 1 ∧ i = .int .i64 k ∧ Hid (∀ j, j < k → ¬ AtS s t j)) (fun i => s.size + 1 - (intOf i).toNat)
  case atStart => exact ⟨0, Nat.zero_le _, rfl, fun j hj => by omega⟩
  case round =>
    obtain ⟨k, hk, rfl, hN⟩ := hrel
    by_cases hlt : k + t.size ≤ s.size
    · by_cases hat : AtS s t k
      · have e : ((s.extract k (k + t.size)).toList == t.toList) = true := by rw [hat.2]; simp
        have hf : Hid (hasB s t = true) := (hasB_iff s t).2 ⟨k, hat⟩
        replace hat := Lib.hid hat
        go_wp2
        go_ret
        exact ⟨retBool hf.out.symm, rfl⟩
      · have e : ((s.extract k (k + t.size)).toList == t.toList) = false := by
          simp only [beq_eq_false_iff_ne]
          intro h
          exact hat ⟨hlt, str_of_list h⟩
        replace hat := Lib.hid hat
        go_wp2
        go_round
        case rel => exact ⟨k + 1, by omega, by go_num, fun j hj => by
          by_cases f : j = k
          · subst f; exact hat.out
          · exact hN.out j (by omega)⟩
        case measure => simp [intOf]; omega
    · have hf : hasB s t = false := by
        cases h : hasB s t
        · rfl
        · obtain ⟨j, hj⟩ := (hasB_iff s t).1 h
          exact absurd hj (hN.out j (by have := hj.1; omega))
      replace hf := Lib.hid hf
      go_wp2
      go_ret
      exact ⟨retBool hf.out.symm, rfl⟩

/-- is a tag open behind the first n bytes? -/
def openTo (s : ByteArray) : Nat → Bool
  | 0 => false
  | n + 1 => bt s n == 60 || (openTo s n && bt s n != 62 && bt s n != 10)
/-- no tag begins within an open one, ahead of n -/
def ApartTo (s : ByteArray) (n : Nat) : Prop := ∀ j, j < n → ¬ (bt s j = 60 ∧ openTo s j = true)
open Classical in
noncomputable def apartB (s : ByteArray) : Bool := decide (ApartTo s s.size)
theorem apartB_iff (s : ByteArray) : apartB s = true ↔ ApartTo s s.size := by simp [apartB]

set_option maxHeartbeats 1000000 in
theorem tagsApart_c (s : ByteArray) (hs : s.size ≤ 2147483647) (w : World) :
    Calls Try.prog 23 #[.string s] w fun e w1 => e = .returned (.bool (apartB s)) ∧ w = w1 := by
  have hb := get_bt s
  go_enter Try.func23, Try.ntmps23
  go_wp2
  go_loop [3, 7] (fun o i => ∃ (k : Nat) (b : Bool), k ≤ s.size ∧ i = .int .i64 k ∧ o = .bool b ∧ Hid (b = openTo s k ∧ ApartTo s k)) (fun _ i => s.size - (intOf i).toNat)
  case atStart => exact ⟨0, false, Nat.zero_le _, rfl, rfl, rfl, fun j hj => by omega⟩
  case round =>
    obtain ⟨k, b, hk, rfl, rfl, hO⟩ := hrel
    by_cases hlt : k < s.size
    · by_cases hbad : bt s k = 60 ∧ b = true
      · obtain ⟨h60, rfl⟩ := hbad
        have hf : Hid (apartB s = false) := by
          show apartB s = false
          cases h : apartB s
          · rfl
          · exact absurd ⟨h60, hO.out.1.symm⟩ ((apartB_iff s).1 h k hlt)
        have h60' : (bt s k == 60) = true := by simp [h60]
        replace h60 := Lib.hid h60
        go_wp2
        go_ret
        exact ⟨retBool hf.out.symm, rfl⟩
      · have hn : Hid (∀ b', b' = openTo s (k + 1) → b' = openTo s (k + 1) ∧ ApartTo s (k + 1)) := fun b' hb' => ⟨hb', fun j hj => by
          by_cases e : j = k
          · subst e
            rw [← hO.out.1]; exact hbad
          · exact hO.out.2 j (by omega)⟩
        have ho : Hid (openTo s (k + 1) = (bt s k == 60 || (b && bt s k != 62 && bt s k != 10))) := by show openTo s (k + 1) = _; rw [hO.out.1]; rfl
        clear hO
        cases b
        · clear hbad
          go_wp2
          all_goals
            go_round
            case rel => exact ⟨k + 1, _, by omega, by go_num, rfl, hn.out _ (by rw [ho.out]; simp_all)⟩
            case measure => simp [intOf]; omega
        · have h60 : (bt s k == 60) = false := by simp at hbad; simpa using hbad
          clear hbad
          go_wp2
          all_goals
            go_round
            case rel => exact ⟨k + 1, _, by omega, by go_num, rfl, hn.out _ (by rw [ho.out]; simp_all)⟩
            case measure => simp [intOf]; omega
    · have e : k = s.size := by omega
      subst e
      have hf : Hid (apartB s = true) := (apartB_iff s).2 hO.out.2
      go_wp2
      go_ret
      exact ⟨retBool hf.out.symm, rfl⟩
end Go.Proofs.Ytonadaoehhlafaa.W
