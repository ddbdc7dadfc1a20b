/- A walk of ZZInlineHTML over a short list of plain texts and links to themselves, in which no letter is replaced: the texts that they print, one behind the other. Condition: one to three inlines, each of at most 300 bytes. -/
import Derived.Test.YtfnhikhgkkopfaaGreatDoorPrintL
import Derived.Test.YtfnhikhgkkopfaaGreatDoorItem2
namespace Go.Proofs.YtfnhikhgkkopfaaGreatDoor.W
open Go.RowKit Go.PlainAid
set_option linter.unusedVariables false

/-- what an inline prints -/
def itemText : Item → List UInt8
  | .plain t => t.data.toList
  | .link u => [60, 97, 32, 104, 114, 101, 102, 61, 34] ++ u.data.toList ++ [34, 62] ++ u.data.toList ++ [60, 47, 97, 62]
def OkItem : Item → Prop
  | .plain t => t.size ≤ 300 ∧ ∀ k, k < t.size → okB (bt t k) = true ∨ bt t k = 32
  | .link u => u.size ≤ 300 ∧ ∀ k, k < u.size → okB (bt u k) = true
def textTo (It : Nat → Item) : Nat → List UInt8
  | 0 => []
  | k + 1 => textTo It k ++ itemText (It k)
theorem itemText_len {it : Item} (h : OkItem it) : (itemText it).length ≤ 615 := by
  cases it with
  | plain t =>
    have hz : t.data.toList.length = t.size := by simp
    have := h.1
    show t.data.toList.length ≤ 615
    omega
  | link u =>
    have hz : u.data.toList.length = u.size := by simp
    have := h.1
    simp only [itemText, List.length_append, List.length_cons, List.length_nil]
    omega
theorem textTo_len {It : Nat → Item} {n : Nat} (h : ∀ j, j < n → OkItem (It j)) : ∀ k, k ≤ n → (textTo It k).length ≤ k * 615
  | 0, _ => Nat.zero_le _
  | k + 1, hk => by
    have h1 := textTo_len h k (by omega)
    have h2 := itemText_len (h k (by omega))
    simp only [textTo, List.length_append]
    omega

/-- an inline's PrintHTML, called as its own method -/
theorem list_bytes (l : List UInt8) : (⟨l.toArray⟩ : ByteArray).data.toList = l := by simp

set_option maxHeartbeats 1000000 in
set_option maxRecDepth 100000 in
theorem html_c (n : Nat) (hn : n ≤ 3) (g cap lo hi0 : Nat) (It : Nat → Item) (w : World) (hg : InlsAt w g n lo hi0 It) (hgs : g < w.heap.size) (hhi : hi0 ≤ w.heap.size) (hok : ∀ j, j < n → OkItem (It j)) :
    Calls Tryz.prog 9 #[.slice (some ⟨g, 0, none⟩) n cap] w fun e w1 => e = .returned (.string ⟨(textTo It n).toArray⟩) ∧ Below w.heap.size w w1 := by
  have hlen := Lib.hid (textTo_len hok)
  have hf := Lib.fresh_isBuffer 38 5 w
  replace hg := Lib.hid hg
  replace hok := Lib.hid hok
  go_enter Tryz.func9, Tryz.ntmps9
  go_wp2_with fail
  go_loopw [8] (fun i wr => ∃ k : Nat, k ≤ n ∧ i = .int .i64 k ∧ Below w.heap.size w wr ∧ Lib.IsBuffer 38 5 w.heap.size w.heap.size (Lib.byteCells (textTo It k)) wr) (fun i _ => n - (intOf i).toNat)
  case atStart => exact ⟨0, by omega, rfl, (Below.refl _ _).alloc (Nat.le_refl _) _, hf⟩
  case round =>
    obtain ⟨k, hk, rfl, hB, hI⟩ := hrel
    have hzB := hB.size
    have hlt0 := hI.lt
    by_cases hlt : k < n
    · obtain ⟨v, hv, hcv⟩ := hg.out k hlt
      have hoki := hok.out k hlt
      have hz := hlen.out k hk
      have hcx : wr.cell? ⟨g, k, none⟩ = some v := (hB.cell (p := ⟨g, k, none⟩) hgs).trans hcv
      have hv2 := hv.below hB hhi
      clear hcv hv
      cases hIt : It k with
      | plain t =>
        rw [hIt] at hv2 hoki
        obtain ⟨b, _, hb, rfl, hc⟩ := hv2
        have cP := Lib.hid (plain_print t (Nat.le_trans hoki.1 (by decide)) hoki.2 b w.heap.size w.heap.size (textTo It k) (by omega) wr (by omega) hc hI hzB)
        replace hIt := Lib.hid hIt
        clear hoki hI
        go_wp2_with (go_at_call 119; refine cP.out.mono ?_; rintro e w5 ⟨rfl, hI5, hB5⟩)
        go_roundw
        case rel => exact ⟨k + 1, by omega, by go_num, hB.trans hB5, by rw [textTo, hIt.out]; exact hI5⟩
        case measure => simp [intOf]; omega
      | link u =>
        rw [hIt] at hv2 hoki
        obtain ⟨lb, ib, pb, cap2, _, a0, _, a1, _, a2, rfl, d0, d1, d2, d3, d4, d5⟩ := hv2
        have cP := Lib.hid (link_print u hoki.1 hoki.2 lb ib pb cap2 w.heap.size w.heap.size (textTo It k) (by omega) wr (by omega) (by omega) (by omega) d0 d1 d2 d4 d5 hI hzB)
        replace hIt := Lib.hid hIt
        clear hoki hI d0 d1 d2 d3 d4 d5
        go_wp2_with (go_at_call 97; refine cP.out.mono ?_; rintro e w5 ⟨rfl, hI5, hB5⟩)
        go_roundw
        case rel => exact ⟨k + 1, by omega, by go_num, hB.trans hB5, by rw [textTo, hIt.out]; simpa [itemText] using hI5⟩
        case measure => simp [intOf]; omega
    · obtain rfl : k = n := by omega
      go_wp2_with (go_at_call 14; refine (Tryz.Buffer_String _ _ _ _ hI).mono ?_; rintro e w3 ⟨rfl, m, rfl⟩)
      go_ret
      exact ⟨rfl, belowN hB m⟩
end Go.Proofs.YtfnhikhgkkopfaaGreatDoor.W
