/- Walks of the reference's folded and Fold, and of the statement's shorn and upper. Condition: the text has at most 2000 bytes, and is of ASCII letters without a carriage return, as each theorem states. -/
import Derived.Test.YtonadaoehhlafaaDoorNorm
import Derived.Lib.Buffer
namespace Go.Proofs.YtonadaoehhlafaaDoor.W
open Go.RowKit Go.PlainAid
set_option linter.unusedVariables false

theorem encode_low {c : Int} (h0 : 0 ≤ c) (h1 : c ≤ 127) : Utf8.encode c = ⟨#[byteOf c]⟩ := by
  obtain ⟨n, rfl⟩ := Int.eq_ofNat_of_zero_le h0
  have : ∀ m : Nat, m < 128 → Utf8.encode (m : Int) = ⟨#[byteOf (m : Int)]⟩ := by decide +kernel
  exact this n (by omega)
theorem folded_c (c : Int) (h0 : 0 ≤ c) (h1 : c ≤ 127) (w : World) :
    Calls Tryd.prog 17 #[.int .i32 c] w fun e w1 => e = .returned (.string ⟨#[byteOf (lowC c)]⟩) ∧ w = w1 := by
  have e1 := encode_low (low_bd h0 h1).1 (low_bd h0 h1).2
  have hlow : (65 ≤ c ∧ c ≤ 90 ∧ Hid (c + 32 = lowC c)) ∨ (c < 65 ∧ Hid (c = lowC c)) ∨ (90 < c ∧ Hid (c = lowC c)) := by
    unfold lowC Hid
    split <;> omega
  replace e1 := Lib.hid e1
  rcases hlow with ⟨l1, l2, hlow⟩ | ⟨l1, hlow⟩ | ⟨l1, hlow⟩
  all_goals
    go_enter Tryd.func17, Tryd.ntmps17
    go_wp2
    go_ret
    exact ⟨ret1 (strEq (by rw [← e1.out, ← hlow.out])), rfl⟩
theorem decode_c (s : ByteArray) (k : Nat) (hk : k < s.size) (h1 : bt s k ≤ 127) (w : World) :
    Calls Tryd.prog 16 #[.string (s.extract k s.size)] w fun e w1 => e = .returned (.tuple #[.int .i32 (bt s k), .int .i64 1]) ∧ w = w1 := by
  have e0 := bt_extract s (a := k) (b := s.size) (k := 0) (by omega) (Nat.le_refl _)
  rw [Nat.add_zero] at e0
  have hz : 0 < (s.extract k s.size).size := by rw [size_extract]; omega
  have hx := get_bt (s.extract k s.size) 0 hz
  rw [e0] at hx
  refine (Tryd.utf8_DecodeRuneInString_ascii (s.extract k s.size) ((s.extract k s.size)[0]'hz) w ?_ ?_).mono ?_
  · rw [Array.getElem?_toList]
    exact Array.getElem?_eq_getElem hz
  · omega
  · rintro e w1 ⟨rfl, rfl⟩
    exact ⟨by rw [hx], rfl⟩
theorem str_empty (o : List UInt8) : ((⟨o.toArray⟩ : ByteArray).toList == (⟨#[]⟩ : ByteArray).toList) = o.isEmpty := by
  rw [ByteArray.toList_eq, ByteArray.toList_eq]
  cases o <;> rfl
theorem str_app (a b : List UInt8) : (⟨a.toArray⟩ ++ ⟨b.toArray⟩ : ByteArray) = ⟨(a ++ b).toArray⟩ := by
  apply ByteArray.ext; simp

set_option maxHeartbeats 4000000 in
theorem fold_c (s : ByteArray) (hs : s.size ≤ 2000) (h7 : ∀ k, k < s.size → bt s k ≤ 127 ∧ bt s k ≠ 13) (w : World) :
    Calls Tryd.prog 9 #[.string s] w fun e w1 => e = .returned (.string ⟨(F (bt s) s.size).1.toArray⟩) ∧ w = w1 := by
  have hb := get_bt s
  replace h7 := Lib.hid h7
  go_enter Tryd.func9, Tryd.ntmps9
  go_wp2
  go_loop [3, 4, 5] (fun out bl i => ∃ (k : Nat) (o : List UInt8) (b : Bool), k ≤ s.size ∧ out = .string ⟨o.toArray⟩ ∧ bl = .bool b ∧ i = .int .i64 k ∧ Hid (F (bt s) k = (o, b))) (fun _ _ i => s.size - (intOf i).toNat)
  case atStart => exact ⟨0, [], false, Nat.zero_le _, rfl, rfl, rfl, rfl⟩
  case round =>
    obtain ⟨k, o, b, hk, rfl, rfl, rfl, hst⟩ := hrel
    have hol : o.length ≤ 4000 := by have := F_len (bt s) k; rw [hst.out] at this; simp at this; omega
    by_cases hlt : k < s.size
    · have b0 := bt_nonneg s k
      obtain ⟨b1, b13⟩ := h7.out k hlt
      have hblk : blankB (bt s k) = blkB (bt s k) := by unfold blankB blkB; rw [decide_eq_decide]; omega
      cases hbk : blkB (bt s k)
      · have hstep : F (bt s) (k + 1) = (o ++ (if b = true then [32] else []) ++ [byteOf (lowC (bt s k))], false) := by rw [F, stepF, hst.out, hbk, if_neg (by simp)]
        rw [hbk] at hblk
        replace hblk := Lib.hid hblk
        replace hbk := Lib.hid hbk
        have hne : (bt s k == 65533) = false := by simp; omega
        clear b13
        cases b
        · have hstep2 : Hid (F (bt s) (k + 1) = (o ++ [byteOf (lowC (bt s k))], false)) := by rw [hstep]; exact congrArg (fun l => (l ++ [byteOf (lowC (bt s k))], false)) (List.append_nil o)
          clear hstep
          go_wp2_with (first | (go_at_call 16; refine (decode_c s k hlt b1 _).mono ?_; rintro e w1 ⟨rfl, rfl⟩) | (go_at_call 13; refine (IsBlank_c _ _).mono ?_; rintro e w1 ⟨rfl, rfl⟩; rw [hblk.out]) | (go_at_call 17; refine (folded_c _ b0 b1 _).mono ?_; rintro e w1 ⟨rfl, rfl⟩))
          go_round
          case rel => exact ⟨k + 1, _, _, by omega, congrArg Value.string (str_app _ _), rfl, by go_num, hstep2⟩
          case measure => simp [intOf]; omega
        · have hstep2 : Hid (F (bt s) (k + 1) = (o ++ [32] ++ [byteOf (lowC (bt s k))], false)) := hstep
          clear hstep
          go_wp2_with (first | (go_at_call 16; refine (decode_c s k hlt b1 _).mono ?_; rintro e w1 ⟨rfl, rfl⟩) | (go_at_call 13; refine (IsBlank_c _ _).mono ?_; rintro e w1 ⟨rfl, rfl⟩; rw [hblk.out]) | (go_at_call 17; refine (folded_c _ b0 b1 _).mono ?_; rintro e w1 ⟨rfl, rfl⟩))
          go_round
          case rel => exact ⟨k + 1, _, _, by omega, congrArg Value.string ((congrArg (· ++ _) (str_app o [32])).trans (str_app _ _)), rfl, by go_num, hstep2⟩
          case measure => simp [intOf]; omega
      · have hstep : Hid (F (bt s) (k + 1) = (o, !o.isEmpty)) := by rw [F, stepF, hst.out, hbk, if_pos rfl]; rfl
        rw [hbk] at hblk
        replace hblk := Lib.hid hblk
        replace hbk := Lib.hid hbk
        clear b13
        go_wp2_with (first | (go_at_call 16; refine (decode_c s k hlt b1 _).mono ?_; rintro e w1 ⟨rfl, rfl⟩) | (go_at_call 13; refine (IsBlank_c _ _).mono ?_; rintro e w1 ⟨rfl, rfl⟩; rw [hblk.out]))
        go_round
        case rel => exact ⟨k + 1, _, _, by omega, rfl, rfl, by go_num, hstep⟩
        case measure => simp [intOf]; omega
    · obtain rfl : k = s.size := by omega
      go_wp2
      go_ret
      exact ⟨ret1 (strEq (by rw [hst.out])), rfl⟩

/-- where the text ends that shorn takes, from a on -/
def shornEnd (s : ByteArray) (a : Nat) : Nat → Nat
  | 0 => 0
  | n + 1 => if a < n + 1 ∧ blankB (bt s n) = true then shornEnd s a n else n + 1
theorem shornEnd_self (s : ByteArray) (a : Nat) : shornEnd s a a = a := by
  cases a with
  | zero => rfl
  | succ n => rw [shornEnd, if_neg (fun h => Nat.lt_irrefl _ h.1)]
def shornS (s : ByteArray) : ByteArray := s.extract (runEnd blankB s 0) (shornEnd s (runEnd blankB s 0) s.size)
theorem shorn_c (s : ByteArray) (hs : s.size ≤ 2147483647) (w : World) :
    Calls Tryd.prog 6 #[.string s] w fun e w1 => e = .returned (.string (shornS s)) ∧ w = w1 := by
  have hb := get_bt s
  have hle := runEnd_le blankB s (i := 0) (by omega)
  have hrun := fun j (h : j < runEnd blankB s 0) => runEnd_in (p := blankB) (s := s) (i := 0) (j := j) (Nat.zero_le _) h
  have hat := fun (h : runEnd blankB s 0 < s.size) => runEnd_at (p := blankB) (s := s) (i := 0) (by omega) h
  obtain ⟨a, ha⟩ : ∃ a, a = runEnd blankB s 0 := ⟨_, rfl⟩
  rw [← ha] at hle hrun hat
  have hT : shornS s = s.extract a (shornEnd s a s.size) := by rw [ha]; rfl
  replace hT := Lib.hid hT
  replace hrun := Lib.hid hrun
  replace hat := Lib.hid hat
  clear ha
  go_enter Tryd.func6, Tryd.ntmps6
  go_wp2
  go_loop [3] (fun i => ∃ k : Nat, k ≤ a ∧ i = .int .i64 k) (fun i => s.size - (intOf i).toNat)
  case atStart => exact ⟨0, Nat.zero_le _, rfl⟩
  case round =>
    obtain ⟨k, hk, rfl⟩ := hrel
    by_cases hka : k < a
    · have hlt : k < s.size := by omega
      have hbk := Lib.hid (hrun.out k hka)
      go_wp2_with (go_at_call 13; refine (IsBlank_c _ _).mono ?_; rintro e w1 ⟨rfl, rfl⟩; rw [hbk.out])
      go_round
      case rel => exact ⟨k + 1, by omega, by go_num⟩
      case measure => simp [intOf]; omega
    · obtain rfl : k = a := by omega
      by_cases hlt : k < s.size
      · have hbk := Lib.hid (hat.out hlt)
        go_wp2_with (go_at_call 13; refine (IsBlank_c _ _).mono ?_; rintro e w1 ⟨rfl, rfl⟩; rw [hbk.out])
        clear hbk hat hrun
        go_loop [4] (fun j => ∃ m : Nat, k ≤ m ∧ m ≤ s.size ∧ j = .int .i64 m ∧ Hid (shornEnd s k m = shornEnd s k s.size)) (fun j => (intOf j).toNat)
        case atStart => exact ⟨s.size, hle, Nat.le_refl _, rfl, rfl⟩
        case round =>
          obtain ⟨m, hm1, hm2, rfl, he⟩ := hrel
          by_cases hkm : k < m
          · obtain ⟨j, rfl⟩ : ∃ j, m = j + 1 := ⟨m - 1, by omega⟩
            have hcast : (((j + 1 : Nat) : Int)) = (j : Int) + 1 := by omega
            cases hbj : blankB (bt s j)
            · have he2 : Hid (shornEnd s k s.size = j + 1) := by rw [← he.out, shornEnd, if_neg (by rw [hbj]; simp)]; rfl
              replace hbj := Lib.hid hbj
              go_wp2_with (go_at_call 13; refine (IsBlank_c _ _).mono ?_; rintro e w1 ⟨rfl, rfl⟩; rw [hbj.out])
              go_ret
              exact ⟨ret1 (strEq (by rw [hT.out, he2.out])), rfl⟩
            · have he2 : Hid (shornEnd s k j = shornEnd s k s.size) := by rw [← he.out, shornEnd, if_pos ⟨hkm, hbj⟩]; rfl
              replace hbj := Lib.hid hbj
              go_wp2_with (go_at_call 13; refine (IsBlank_c _ _).mono ?_; rintro e w1 ⟨rfl, rfl⟩; rw [hbj.out])
              go_round
              case rel => exact ⟨j, by omega, by omega, by go_num, he2⟩
              case measure => simp [intOf]
          · obtain rfl : k = m := by omega
            have he2 : Hid (s.extract k (shornEnd s k s.size) = ⟨#[]⟩) := by
              rw [← he.out, shornEnd_self]
              exact str_ext (by rw [size_extract]; show _ = 0; omega) (fun j hj => by rw [size_extract] at hj; omega)
            go_wp2
            go_ret
            exact ⟨ret1 (strEq (by rw [hT.out, he2.out]; rfl)), rfl⟩
      · obtain rfl : k = s.size := by omega
        clear hat hrun
        go_wp2
        go_loop [4] (fun j => j = .int .i64 s.size) (fun j => (intOf j).toNat)
        case atStart => rfl
        case round =>
          subst hrel
          have he2 : Hid (s.extract s.size (shornEnd s s.size s.size) = ⟨#[]⟩) := by
            rw [shornEnd_self]
            exact str_ext (by rw [size_extract]; show _ = 0; omega) (fun j hj => by rw [size_extract] at hj; omega)
          go_wp2
          go_ret
          exact ⟨ret1 (strEq (by rw [hT.out, he2.out]; rfl)), rfl⟩

/-- the text with capital letters -/
def upL (s : ByteArray) : List UInt8 := s.data.toList.map fun b => byteOf (upC (b.toNat : Int))
theorem upC_bd {c : Int} (h0 : 0 ≤ c) (h1 : c ≤ 255) : 0 ≤ upC c ∧ upC c ≤ 255 := by unfold upC; split <;> omega
theorem upL_at (s : ByteArray) {k : Nat} (hk : k < s.size) : ∃ h : k < (upL s).length, ((upL s)[k].toNat : Int) = upC (bt s k) := by
  have hz : (upL s).length = s.size := by simp [upL]
  refine ⟨by omega, ?_⟩
  have hx := get_bt s k hk
  have : (upL s)[k]'(by omega) = byteOf (upC (bt s k)) := by
    simp only [upL, List.getElem_map, Array.getElem_toList]
    rw [← hx]; rfl
  rw [this, byteOf_toNat (upC_bd (bt_nonneg s k) (bt_le s k)).1 (upC_bd (bt_nonneg s k) (bt_le s k)).2]

/-- the row of bytes, as far as it is turned -/
structure Turned (s : ByteArray) (g k : Nat) (w : World) : Prop where
  cell : ∀ j, j < s.size → w.cell? ⟨g, j, none⟩ = some (.int .u8 (if j < k then upC (bt s j) else bt s j))
  frozen : ∀ j, j < s.size → w.frozen? ⟨g, j, none⟩ = false
theorem turned_start (s : ByteArray) (w : World) (cap : Nat) : Turned s w.heap.size 0 (w.alloc (.cells (bytesRow s cap) 5 ((bytesRow s cap).size, (bytesRow s cap).size + 1))).drew := by
  have hz : s.size ≤ (bytesRow s cap).size := by simp [bytesRow]
  constructor
  · intro j hj
    show (w.alloc (.cells (bytesRow s cap) 5 ((bytesRow s cap).size, (bytesRow s cap).size + 1))).cell? ⟨w.heap.size, j, none⟩ = _
    rw [World.cell?_alloc_mark]
    have hx := get_bt s j hj
    rw [if_neg (Nat.not_lt_zero _), ← hx]
    have hj2 : j < s.data.size := hj
    simp only [bytesRow, Array.getElem?_append, Array.size_map, Array.getElem?_map]
    rw [if_pos hj2, Array.getElem?_eq_getElem hj2]
    rfl
  · intro j hj
    show (w.alloc (.cells (bytesRow s cap) 5 ((bytesRow s cap).size, (bytesRow s cap).size + 1))).frozen? ⟨w.heap.size, j, none⟩ = false
    simp [World.frozen?, World.alloc, -World.alloc_eq]
    omega
theorem Turned.set {s : ByteArray} {g k : Nat} {w : World} (h : Turned s g k w) (hk : k < s.size) {c : Int} (hc : c = upC (bt s k)) : Turned s g (k + 1) (w.setCell ⟨g, k, none⟩ (.int .u8 c)) := by
  constructor
  · intro j hj
    by_cases e : j = k
    · subst e
      rw [World.cell?_setCell_same _ _ _ (h.cell j hj), if_pos (by omega), hc]
    · rw [World.cell?_setCell_other _ _ _ _ (by intro hh; cases hh; exact e rfl), h.cell j hj]
      by_cases f : j < k
      · rw [if_pos f, if_pos (by omega)]
      · rw [if_neg f, if_neg (by omega)]
  · intro j hj
    rw [World.frozen?_setCell]; exact h.frozen j hj
theorem Turned.skip {s : ByteArray} {g k : Nat} {w : World} (h : Turned s g k w) (hc : bt s k = upC (bt s k)) : Turned s g (k + 1) w := by
  refine ⟨fun j hj => ?_, h.frozen⟩
  rw [h.cell j hj]
  by_cases e : j = k
  · subst e; rw [if_neg (by omega), if_pos (by omega), ← hc]
  · by_cases f : j < k
    · rw [if_pos f, if_pos (by omega)]
    · rw [if_neg f, if_neg (by omega)]
theorem Turned.drewN {s : ByteArray} {g k : Nat} {w : World} (h : Turned s g k w) (n : Nat) : Turned s g k (w.drewN n) := ⟨h.cell, h.frozen⟩
theorem Turned.drew {s : ByteArray} {g k : Nat} {w : World} (h : Turned s g k w) : Turned s g k w.drew := ⟨h.cell, h.frozen⟩
theorem turned_back {s : ByteArray} {g cap : Nat} {w : World} (h : Turned s g s.size w) :
    (convert 33 9 (.slice (some ⟨g, 0, none⟩) s.size cap)).run Tryd.prog w = .ok (.string ⟨(upL s).toArray⟩) w := by
  have hz : (upL s).length = s.size := by simp [upL]
  rw [← hz]
  refine run_convert_bytes_back w _ _ 5 ⟨g, 0, none⟩ cap (upL s) Tryd.underlying33 Tryd.underlying5 Tryd.underlying9 fun j hj => ?_
  have hj2 : j < s.size := by omega
  obtain ⟨_, e⟩ := upL_at s hj2
  rw [e, Lib.addr_add, Nat.zero_add, h.cell j hj2, if_pos hj2]

set_option maxHeartbeats 2000000 in
theorem upper_c (s : ByteArray) (hs : s.size ≤ 2000) (w : World) :
    Calls Tryd.prog 10 #[.string s] w fun e w1 => e = .returned (.string ⟨(upL s).toArray⟩) ∧ Below w.heap.size w w1 := by
  have hcv := fun w => run_bytes_of_string (P := Tryd.prog) w 9 33 5 s Tryd.underlying9 Tryd.underlying33 Tryd.underlying5
  have hT0 := turned_start s w (grownCap w s.size 0 5)
  have hB0 : Below w.heap.size w (w.alloc (.cells (bytesRow s (grownCap w s.size 0 5)) 5 ((bytesRow s (grownCap w s.size 0 5)).size, (bytesRow s (grownCap w s.size 0 5)).size + 1))).drew := ((Below.refl _ _).alloc (Nat.le_refl _) _).drew
  replace hT0 := Lib.hid hT0
  replace hB0 := Lib.hid hB0
  go_enter Tryd.func10, Tryd.ntmps10
  go_wp2
  generalize grownCap w s.size 0 5 = cap at hT0 hB0
  go_loopw [10] (fun i wr => ∃ k : Nat, k ≤ s.size ∧ i = .int .i64 k ∧ Hid (Turned s w.heap.size k wr) ∧ Below w.heap.size w wr) (fun i _ => s.size - (intOf i).toNat)
  case atStart => exact ⟨0, Nat.zero_le _, rfl, hT0, hB0.out⟩
  case round =>
    obtain ⟨k, hk, rfl, hT, hB⟩ := hrel
    clear hT0 hB0 hcv
    by_cases hlt : k < s.size
    · have hc := hT.out.cell k hlt
      have hf := hT.out.frozen k hlt
      rw [if_neg (Nat.lt_irrefl _)] at hc
      have b0 := bt_nonneg s k
      have b1 := bt_le s k
      have hup : (97 ≤ bt s k ∧ bt s k ≤ 122 ∧ Hid (bt s k - 97 + 65 = upC (bt s k))) ∨ (bt s k < 97 ∧ Hid (bt s k = upC (bt s k))) ∨ (122 < bt s k ∧ Hid (bt s k = upC (bt s k))) := by
        unfold upC Hid
        split <;> omega
      rcases hup with ⟨l1, l2, hup⟩ | ⟨l1, hup⟩ | ⟨l1, hup⟩
      · go_wp2
        go_roundw
        case rel => exact ⟨k + 1, by omega, by go_num, hT.out.set hlt hup.out, hB.setCell (p := ⟨w.heap.size, k, none⟩) (Nat.le_refl _) _⟩
        case measure => simp [intOf]; omega
      · go_wp2
        go_roundw
        case rel => exact ⟨k + 1, by omega, by go_num, hT.out.skip hup.out, hB⟩
        case measure => simp [intOf]; omega
      · go_wp2
        go_roundw
        case rel => exact ⟨k + 1, by omega, by go_num, hT.out.skip hup.out, hB⟩
        case measure => simp [intOf]; omega
    · obtain rfl : k = s.size := by omega
      have hback := turned_back (cap := cap) hT.out
      go_wp2
      go_ret
      exact ⟨rfl, hB⟩
end Go.Proofs.YtonadaoehhlafaaDoor.W
