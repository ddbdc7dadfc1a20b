/- Walks of the two escapers of HTML: each builds the same table of four pairs, and Replace writes a text with every letter of the table replaced. Condition: the text has at most 2000 bytes. -/
import Derived.Test.YtiilhmagepncgaaDoorStr
import Derived.Test.YtiilhmagepncgaaDoorRet
import Derived.Test.YtiilhmagepncgaaDoorShelf
import Derived.Test.YtiilhmagepncgaaDoorRows
import Derived.Deep.QuietTactic
import Derived.BigQuiet
import Derived.WalkMore
import Derived.Deep.LoopGhost
namespace Go.Proofs.YtiilhmagepncgaaDoor.W
open Go.RowKit Go.PlainAid

/-! ### what is written -/
def pat : Nat → ByteArray
  | 0 => ⟨#[34]⟩
  | 1 => ⟨#[38]⟩
  | 2 => ⟨#[60]⟩
  | _ => ⟨#[62]⟩
def rep : Nat → ByteArray
  | 0 => ⟨#[38, 113, 117, 111, 116, 59]⟩
  | 1 => ⟨#[38, 97, 109, 112, 59]⟩
  | 2 => ⟨#[38, 108, 116, 59]⟩
  | _ => ⟨#[38, 103, 116, 59]⟩
theorem pat_size (m : Nat) : (pat m).size = 1 := by
  match m with
  | 0 => rfl
  | 1 => rfl
  | 2 => rfl
  | (n + 3) => rfl
theorem rep_size (m : Nat) : (rep m).size ≤ 10 := by
  match m with
  | 0 => decide
  | 1 => decide
  | 2 => decide
  | (n + 3) => show (6 - 2 : Nat) ≤ 10; decide
def esc1 (c : Int) : List UInt8 :=
  if c = bt (pat 0) 0 then (rep 0).data.toList else if c = bt (pat 1) 0 then (rep 1).data.toList else if c = bt (pat 2) 0 then (rep 2).data.toList else if c = bt (pat 3) 0 then (rep 3).data.toList else [UInt8.ofNat c.toNat]
theorem esc1_hit {c : Int} {m : Nat} (hm : m < 4) (h : c = bt (pat m) 0) (hl : ∀ q, q < m → c ≠ bt (pat q) 0) : esc1 c = (rep m).data.toList := by
  unfold esc1
  match m, hm with
  | 0, _ => rw [if_pos h]
  | 1, _ => rw [if_neg (hl 0 (by omega)), if_pos h]
  | 2, _ => rw [if_neg (hl 0 (by omega)), if_neg (hl 1 (by omega)), if_pos h]
  | 3, _ => rw [if_neg (hl 0 (by omega)), if_neg (hl 1 (by omega)), if_neg (hl 2 (by omega)), if_pos h]
theorem esc1_miss {c : Int} (hl : ∀ q, q < 4 → c ≠ bt (pat q) 0) : esc1 c = [UInt8.ofNat c.toNat] := by
  unfold esc1
  rw [if_neg (hl 0 (by omega)), if_neg (hl 1 (by omega)), if_neg (hl 2 (by omega)), if_neg (hl 3 (by omega))]
theorem pat0 : bt (pat 0) 0 = 34 := by decide
theorem esc1_facts (c : Int) (h0 : 0 ≤ c) (h1 : c ≤ 255) : 1 ≤ (esc1 c).length ∧ (esc1 c).length ≤ 6 ∧ ∀ x ∈ esc1 c, x ≠ 34 := by
  unfold esc1
  split
  · decide
  · split
    · decide
    · split
      · decide
      · split
        · decide
        · refine ⟨by simp, by simp, fun x hx => ?_⟩
          rename_i a _ _ _
          rw [pat0] at a
          simp only [List.mem_singleton] at hx
          subst hx
          intro h
          have := congrArg UInt8.toNat h
          rw [UInt8.toNat_ofNat'] at this
          simp at this
          omega
def escTo (s : ByteArray) : Nat → List UInt8
  | 0 => []
  | n + 1 => escTo s n ++ esc1 (bt s n)
theorem escTo_facts (s : ByteArray) : ∀ n, n ≤ (escTo s n).length ∧ (escTo s n).length ≤ 6 * n ∧ ∀ x ∈ escTo s n, x ≠ 34
  | 0 => by simp [escTo]
  | n + 1 => by
    obtain ⟨a, b, c⟩ := escTo_facts s n
    obtain ⟨a', b', c'⟩ := esc1_facts (bt s n) (bt_nonneg s n) (bt_le s n)
    refine ⟨by simp [escTo]; omega, by simp [escTo]; omega, fun x hx => ?_⟩
    simp only [escTo, List.mem_append] at hx
    rcases hx with hx | hx
    · exact c x hx
    · exact c' x hx

/-- a byte of a list of bytes -/
theorem bt_toArray (l : List UInt8) (k : Nat) : bt ⟨l.toArray⟩ k = ((l.getD k 0).toNat : Int) := by
  unfold bt
  by_cases h : k < l.length
  · have h1 : k < (⟨l.toArray⟩ : ByteArray).size := by show k < l.toArray.size; simpa using h
    rw [dif_pos h1]
    have : (⟨l.toArray⟩ : ByteArray)[k] = l[k] := by show l.toArray[k] = _; simp
    rw [this, List.getD_eq_getElem?_getD, List.getElem?_eq_getElem h]; rfl
  · rw [dif_neg (by show ¬ k < l.toArray.size; simpa using h), List.getD_eq_getElem?_getD, List.getElem?_eq_none (by omega)]; rfl
/-! ### the table -/
structure Pairs (w : World) (pb : Nat) : Prop where
  even : ∀ m, m < 4 → w.cell? ⟨pb, 2 * m, none⟩ = some (.string (pat m))
  odd : ∀ m, m < 4 → w.cell? ⟨pb, 2 * m + 1, none⟩ = some (.string (rep m))
theorem Pairs.below {w w' : World} {pb b : Nat} (h : Pairs w pb) (hb : Below b w w') (hp : pb < b) : Pairs w' pb :=
  ⟨fun m hm => by rw [hb.cell (p := ⟨pb, 2 * m, none⟩) hp]; exact h.even m hm, fun m hm => by rw [hb.cell (p := ⟨pb, 2 * m + 1, none⟩) hp]; exact h.odd m hm⟩
theorem pairs_new (w : World) (T : TypeId) : Pairs (w.alloc (.cells #[.string ⟨#[34]⟩, .string ⟨#[38, 113, 117, 111, 116, 59]⟩, .string ⟨#[38]⟩, .string ⟨#[38, 97, 109, 112, 59]⟩, .string ⟨#[60]⟩, .string ⟨#[38, 108, 116, 59]⟩, .string ⟨#[62]⟩, .string ⟨#[38, 103, 116, 59]⟩] T)) w.heap.size := by
  constructor
  · intro m hm
    rw [World.cell?_alloc_at _ _ _ _ rfl]
    match m, hm with
    | 0, _ => rfl
    | 1, _ => rfl
    | 2, _ => rfl
    | 3, _ => rfl
  · intro m hm
    rw [World.cell?_alloc_at _ _ _ _ rfl]
    match m, hm with
    | 0, _ => rfl
    | 1, _ => rfl
    | 2, _ => rfl
    | 3, _ => rfl
theorem belowN {B : Nat} {a w : World} (h : Below B a w) (n : Nat) : Below B a (w.drewN n) := ⟨h.os, h.tape, h.output, h.size, h.block⟩
theorem cell_of_byte (c : Int) (h0 : 0 ≤ c) (h1 : c ≤ 255) : [Value.int .u8 c] = Lib.byteCells [UInt8.ofNat c.toNat] := by
  have e : (UInt8.ofNat c.toNat).toNat = c.toNat := by rw [UInt8.toNat_ofNat']; omega
  simp only [Lib.byteCells, List.map_cons, List.map_nil, e]
  rw [show ((c.toNat : Nat) : Int) = c from by omega]

theorem htmlQuoteEscaper_c (w : World) :
    Calls Tryd.prog 10 #[] w fun e w1 => e = .returned (.slice (some ⟨w.heap.size, 0, none⟩) 8 8) ∧ Pairs w1 w.heap.size ∧ Below w.heap.size w w1 ∧ w.heap.size < w1.heap.size := by
  go_enter Tryd.func10, Tryd.ntmps10
  go_wp2
  go_ret
  exact ⟨rfl, pairs_new _ _, (Below.refl _ _).alloc (Nat.le_refl _) _, by simp⟩

theorem htmlEscaper_c (w : World) :
    Calls Tryd.prog 13 #[] w fun e w1 => e = .returned (.slice (some ⟨w.heap.size, 0, none⟩) 8 8) ∧ Pairs w1 w.heap.size ∧ Below w.heap.size w w1 ∧ w.heap.size < w1.heap.size := by
  go_enter Tryd.func13, Tryd.ntmps13
  go_wp2
  go_ret
  exact ⟨rfl, pairs_new _ _, (Below.refl _ _).alloc (Nat.le_refl _) _, by simp⟩

set_option maxHeartbeats 2000000 in
theorem writer_c (s : ByteArray) (hs : s.size ≤ 2000) (pb b : Nat) (w : World) (hp : Pairs w pb) (hpb : pb < b) (hI : Lib.IsBuffer 32 5 b b [] w) :
    Calls Tryd.prog 14 #[.slice (some ⟨pb, 0, none⟩) 8 8, .pointer (some ⟨b, 0, none⟩), .string s] w fun e w1 => e = .returned (.tuple #[]) ∧ Lib.IsBuffer 32 5 b b (Lib.byteCells (escTo s s.size)) w1 ∧ Below b w w1 := by
  have hb := get_bt s
  have hlt := hI.lt
  go_enter Tryd.func14, Tryd.ntmps14
  go_wp2_with fail
  go_step3
  go_wp2_with fail
  go_step3
  go_wp2_with fail
  go_loopg [6] s.size (fun g i wr => ∃ k : Nat, k + g = s.size ∧ i = .int .i64 k ∧ Lib.IsBuffer 32 5 b b (Lib.byteCells (escTo s k)) wr ∧ Below b w wr)
  case atStart => exact ⟨0, by omega, rfl, hI, Below.refl _ _⟩
  case round =>
    obtain ⟨k, hk, rfl, hB, hW⟩ := hrel
    have hz := hW.size
    have b0 := bt_nonneg s k
    have b1 := bt_le s k
    have hf := escTo_facts s k
    have hfl : (Lib.byteCells (escTo s k)).length ≤ 12000 := by rw [Lib.byteCells_length]; omega
    clear hf hI
    cases gk with
    | zero =>
      obtain rfl : k = s.size := by omega
      go_wp2_with fail
      rw [Exit.noGoto_normal]
      refine bodyPost_end (results_none rfl _ _ _) rfl ?_
      exact ⟨rfl, hB, hW⟩
    | succ g =>
      have hlt2 : k < s.size := by omega
      go_wp2_with fail
      obtain ⟨wo, rfl⟩ : ∃ wo : World, wo = wr := ⟨_, rfl⟩
      go_loopg [7] 4 (fun g2 j wj => ∃ m : Nat, m + g2 = 4 ∧ j = .int .i64 (2 * m : Nat) ∧ Hid (∀ q, q < m → bt s k ≠ bt (pat q) 0) ∧ Hid (∃ n, wj = wo.drewN n))
      case atStart => exact ⟨0, by omega, by go_num, fun q hq => by omega, 0, rfl⟩
      case round =>
        obtain ⟨m, hm, rfl, hmiss, hn⟩ := hrel
        obtain ⟨wj, hwj⟩ : ∃ wj : World, wj = wr := ⟨_, rfl⟩
        subst hwj
        have hBj : Lib.IsBuffer 32 5 b b (Lib.byteCells (escTo s k)) wj := by obtain ⟨n, hn⟩ := hn.out; rw [hn]; exact hB.drewN n
        have hWj : Below b w wj := by obtain ⟨n, hn⟩ := hn.out; rw [hn]; exact belowN hW n
        have hP := hp.below hWj hpb
        have hzj := hWj.size
        clear hB hW
        cases gk with
        | zero =>
          obtain rfl : m = 4 := by omega
          have hx := Lib.hid (esc1_miss hmiss.out)
          clear hP hp hmiss hn
          go_wp2_with (go_at_call 17; refine (Tryd.Buffer_WriteByte_k b b _ _ _ hBj (by omega) (Lib.byteCells_one _) (by omega)).mono ?_; rintro e w2 ⟨rfl, hI2, hB2, -⟩)
          go_roundg g
          case measure => omega
          case rel =>
            refine ⟨k + 1, by omega, by go_num, ?_, hWj.trans hB2⟩
            rw [escTo, hx.out, Lib.byteCells_append, ← cell_of_byte _ b0 b1]
            exact hI2
        | succ g2 =>
          have hm4 : m < 4 := by omega
          have he := hP.even m hm4
          have ho := hP.odd m hm4
          have hb2 := get_bt (pat m)
          have hs2 := pat_size m
          clear hP hp
          by_cases hit : bt s k = bt (pat m) 0
          · have hit2 : (bt s k == bt (pat m) 0) = true := by simp [hit]
            have hx := Lib.hid (esc1_hit hm4 hit hmiss.out)
            clear hit hmiss hn
            have hrs : (rep m).size ≤ 10 := rep_size m
            go_wp2_with fail
            go_quiet (fail)
            go_wp2_with (go_at_call 16; refine (Tryd.Buffer_WriteString_k b b _ (rep m) _ (hBj.drewN _) (by simp; omega) (Lib.byteCells_one _) (by omega)).mono ?_; rintro e w2 ⟨rfl, hI2, hB2, -⟩)
            go_roundg g
            case measure => omega
            case rel =>
              refine ⟨k + 1, by omega, by go_num, ?_, hWj.trans ((belowN (Below.refl _ _) _).trans hB2)⟩
              rw [escTo, hx.out, Lib.byteCells_append]
              exact hI2
          · have hit2 : (bt s k == bt (pat m) 0) = false := by simpa using hit
            replace hit := Lib.hid hit
            go_wp2_with fail
            go_quiet (fail)
            go_wp2_with fail
            go_roundg g2
            case measure => omega
            case rel =>
              refine ⟨m + 1, by omega, by go_num, fun q hq => ?_, ?_⟩
              · by_cases e : q = m
                · subst e; exact hit.out
                · exact hmiss.out q (by omega)
              · obtain ⟨n, hn⟩ := hn.out
                exact ⟨_, by rw [hn, World.drewN_drewN]⟩

/-! ### Replace, and the doors -/
theorem replace_c (s : ByteArray) (hs : s.size ≤ 2000) (pb : Nat) (w : World) (hp : Pairs w pb) (hpb : pb < w.heap.size) :
    Calls Tryd.prog 11 #[.slice (some ⟨pb, 0, none⟩) 8 8, .string s] w fun e w1 => e = .returned (.string ⟨(escTo s s.size).toArray⟩) ∧ Below w.heap.size w w1 := by
  have hf := Lib.fresh_isBuffer 32 5 w
  have hp2 : Pairs (w.alloc (.cells #[.slice none 0 0, .int .i64 0, .int .i8 0] 32)) pb := hp.below ((Below.refl w.heap.size _).alloc (Nat.le_refl _) _) hpb
  go_enter Tryd.func11, Tryd.ntmps11
  go_wp2_with (first | (go_at_call 14; refine (writer_c s hs pb w.heap.size _ hp2 hpb hf).mono ?_; rintro e w2 ⟨rfl, hI2, hB2⟩) | (go_at_call 15; refine (Tryd.Buffer_String _ _ _ _ hI2).mono ?_; rintro e w3 ⟨rfl, n, rfl⟩))
  go_ret
  exact ⟨rfl, belowN (((Below.refl _ _).alloc (Nat.le_refl _) _).trans hB2) n⟩

theorem EscapeQuote_z (s : ByteArray) (hs : s.size ≤ 2000) (w : World) :
    Calls Tryd.prog 7 #[.string s] w fun e w1 => e = .returned (.string ⟨(escTo s s.size).toArray⟩) ∧ Below w.heap.size w w1 := by
  go_enter Tryd.func7, Tryd.ntmps7
  go_wp2_with (first | (go_at_call 10; refine (htmlQuoteEscaper_c _).mono ?_; rintro e w2 ⟨rfl, hP, hB, hlt⟩) | (go_at_call 11; refine (replace_c s hs _ _ hP hlt).mono ?_; rintro e w3 ⟨rfl, hB2⟩))
  go_ret
  exact ⟨rfl, hB.trans (hB2.mono (by omega))⟩
theorem EscapeQuote_c (s : ByteArray) (hs : s.size ≤ 2000) (w : World) :
    Calls Tryd.prog 4 #[.string s] w fun e w1 => e = .returned (.string ⟨(escTo s s.size).toArray⟩) ∧ Below w.heap.size w w1 := by
  go_enter Tryd.func4, Tryd.ntmps4
  go_wp2_with (go_at_call 7; refine (EscapeQuote_z s hs _).mono ?_; rintro e w2 ⟨rfl, hB⟩)
  go_ret
  exact ⟨rfl, hB⟩

theorem EscapeHTML_z (s : ByteArray) (hs : s.size ≤ 2000) (w : World) :
    Calls Tryd.prog 9 #[.string s] w fun e w1 => e = .returned (.string ⟨(escTo s s.size).toArray⟩) ∧ Below w.heap.size w w1 := by
  go_enter Tryd.func9, Tryd.ntmps9
  go_wp2_with (first | (go_at_call 13; refine (htmlEscaper_c _).mono ?_; rintro e w2 ⟨rfl, hP, hB, hlt⟩) | (go_at_call 11; refine (replace_c s hs _ _ hP hlt).mono ?_; rintro e w3 ⟨rfl, hB2⟩))
  go_ret
  exact ⟨rfl, hB.trans (hB2.mono (by omega))⟩
theorem EscapeHTML_c (s : ByteArray) (hs : s.size ≤ 2000) (w : World) :
    Calls Tryd.prog 6 #[.string s] w fun e w1 => e = .returned (.string ⟨(escTo s s.size).toArray⟩) ∧ Below w.heap.size w w1 := by
  go_enter Tryd.func6, Tryd.ntmps6
  go_wp2_with (go_at_call 9; refine (EscapeHTML_z s hs _).mono ?_; rintro e w2 ⟨rfl, hB⟩)
  go_ret
  exact ⟨rfl, hB⟩

end Go.Proofs.YtiilhmagepncgaaDoor.W
