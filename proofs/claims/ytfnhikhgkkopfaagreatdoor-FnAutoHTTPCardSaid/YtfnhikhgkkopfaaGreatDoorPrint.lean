/- Walks of zzPairs.Replace and of a plain text's PrintHTML over texts in which no letter is replaced. Condition: the text has at most 2000 bytes. -/
import Derived.Test.YtfnhikhgkkopfaaGreatDoorKeys
import Derived.Test.YtfnhikhgkkopfaaGreatDoorItem
import Derived.Deep.RegionHeld3
namespace Go.Proofs.YtfnhikhgkkopfaaGreatDoor.W
open Go.RowKit Go.PlainAid
set_option linter.unusedVariables false

/-- letters, digits, full stops, slashes and colons -/
def okB (c : Int) : Bool := decide (97 ≤ c ∧ c ≤ 122 ∨ 46 ≤ c ∧ c ≤ 58)
theorem keyL_no : ∀ m, m < 170 → okB (bt (keyL m) 0) = false := by decide +kernel
theorem keyH_no : ∀ m, m < 4 → okB (bt (keyH m) 0) = false ∧ bt (keyH m) 0 ≠ 32 := by decide +kernel
theorem keyL_one : ∀ m, m < 170 → (keyL m).size = 1 := fun _ _ => rfl
theorem keyH_one : ∀ m, m < 4 → (keyH m).size = 1 := by decide +kernel
theorem okL {s : ByteArray} (h : ∀ k, k < s.size → okB (bt s k) = true) : ∀ k, k < s.size → ∀ m, m < 170 → bt s k ≠ bt (keyL m) 0 := fun k hk m hm e => by
  have a := h k hk
  rw [e, keyL_no m hm] at a
  cases a
theorem okH {s : ByteArray} (h : ∀ k, k < s.size → okB (bt s k) = true ∨ bt s k = 32) : ∀ k, k < s.size → ∀ m, m < 4 → bt s k ≠ bt (keyH m) 0 := fun k hk m hm e => by
  obtain ⟨a, b⟩ := keyH_no m hm
  rcases h k hk with h1 | h1
  · rw [e, a] at h1; cases h1
  · exact b (e ▸ h1)
theorem bytes_back (s : ByteArray) : (⟨s.data.toList.toArray⟩ : ByteArray) = s := rfl
theorem replace_q (s : ByteArray) (hs : s.size ≤ 2000) (hq : ∀ k, k < s.size → okB (bt s k) = true) (pb : Nat) (w : World) (hp : Keys w pb 170 keyL) (hpb : pb < w.heap.size) :
    Calls Tryz.prog 76 #[.slice (some ⟨pb, 0, none⟩) 340 340, .string s] w fun e w1 => e = .returned (.string s) ∧ Below w.heap.size w w1 := by
  have hf := Lib.fresh_isBuffer 38 5 w
  obtain ⟨cs, fz, hk1, hk2⟩ := hp
  have hp2 : Hid (∀ o, Keys (w.alloc o) pb 170 keyL) := fun o => ⟨cs, fz, (heap_alloc_old _ _ hpb).trans hk1, hk2⟩
  have hne : pb ≠ w.heap.size := by omega
  have cQ := Lib.hid (fun w' h1 h2 h3 => quiet_c s hs 170 pb w.heap.size w.heap.size keyL [] (by simp) w' (by omega) h1 hne keyL_one (okL hq) h2 h3)
  replace hk2 := Lib.hid hk2
  replace hq := Lib.hid hq
  clear hk1
  go_enter Tryz.func76, Tryz.ntmps76
  go_wp2_with fail
  refine (cQ.out _ (hp2.out _) hf (by simp)).mono ?_
  rintro e w2 ⟨rfl, hI2, hB2, _⟩
  rw [List.nil_append] at hI2
  go_wp2_with (go_at_call 14; refine (Tryz.Buffer_String _ _ _ _ hI2).mono ?_; rintro e w3 ⟨rfl, n, rfl⟩)
  go_ret
  exact ⟨rfl, belowN (((Below.refl _ _).alloc (Nat.le_refl _) _).trans hB2) n⟩

theorem bufBelow {T e : TypeId} {B b : Nat} {bs : List Value} {w w' : World} (h : Lib.IsBuffer T e B b bs w) (hB : Below w.heap.size w w') : Lib.IsBuffer T e B b bs w' := by
  have hlt := h.lt
  obtain ⟨h1, v, lr, hb, hown, hne⟩ := h
  exact ⟨h1, v, lr, (hB.block b hlt).trans hb, ownsRow_below hown hB fun k hk => (hown.lt k hk).2, hne⟩
/-- what a PrintHTML leaves in the buffer -/
def Printed (B b : Nat) (l : List UInt8) (w : World) (e : Ending) (w1 : World) : Prop := e = .returned (.tuple #[]) ∧ Lib.IsBuffer 38 5 B b (Lib.byteCells l) w1 ∧ Below B w w1
set_option maxHeartbeats 1000000 in
theorem plain_print (t : ByteArray) (hs : t.size ≤ 2000) (hq : ∀ k, k < t.size → okB (bt t k) = true ∨ bt t k = 32) (p B b : Nat) (l : List UInt8) (hl : l.length ≤ 8000) (w : World) (hp : p < B) (hc : w.cell? ⟨p, 0, none⟩ = some (.string t))
    (hI : Lib.IsBuffer 38 5 B b (Lib.byteCells l) w) (hBw : B ≤ w.heap.size) :
    Calls Tryz.prog 119 #[.pointer (some ⟨p, 0, none⟩), .pointer (some ⟨b, 0, none⟩)] w (Printed B b (l ++ t.data.toList) w) := by
  have hlt := hI.lt
  have cQ := Lib.hid (fun pb w' h1 h2 h3 h4 => quiet_c t hs 4 pb B b keyH l hl w' (by omega) h1 h2 keyH_one (okH hq) h3 h4)
  replace hq := Lib.hid hq
  go_enter Tryz.func119, Tryz.ntmps119
  go_wp2_with fail
  go_region_held3 (fun w' => w'.cell? ⟨p, 0, none⟩ = some (.string t)) (go_keep)
    (first | (go_at_call 75; refine (htmlEscaper_c _).mono ?_; rintro e w1 ⟨rfl, hK, hB1, hz1⟩; have hB0 : Below w.heap.size w w1 := ⟨hB1.os, hB1.tape, hB1.output, hB1.size, hB1.block⟩; have k0 := (hB0.cell (p := ⟨p, 0, none⟩) (by show p < w.heap.size; omega)).trans hc; have hI1 := bufBelow hI hB0; replace hI1 := Lib.hid hI1; replace hK := Lib.hid hK) | (go_at_call 77; refine (cQ.out w.heap.size _ ?_ ?_ ?_ ?_).mono ?_; (exact hK.out); (omega); (exact hI1.out); (exact Nat.le_trans hBw hB0.size); rintro e w2 ⟨rfl, hI2, hB2, _⟩; have k2 := (hB2.cell (p := ⟨p, 0, none⟩) hp).trans k0))
  go_wp2_with fail
  go_end0
  exact ⟨rfl, hI2, (hB0.mono hBw).trans hB2⟩
end Go.Proofs.YtfnhikhgkkopfaaGreatDoor.W
