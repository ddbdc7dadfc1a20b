/- A walk of zzPairs.WriteString over a text in which no letter is replaced: it is written as it stands. Condition: the text has at most 2000 bytes; each key is one byte. -/
import Derived.Test.YtfnhikhgkkopfaaGreatDoorUrl
import Derived.Test.YtfnhikhgkkopfaaGreatDoorShelf
import Derived.Deep.QuietTactic
import Derived.BigQuiet
import Derived.WalkMore
import Derived.Deep.LoopGhost
namespace Go.Proofs.YtfnhikhgkkopfaaGreatDoor.W
open Go.RowKit Go.PlainAid
set_option linter.unusedVariables false

/-- block pb holds N pairs of texts, the keys as told -/
def Keys (w : World) (pb N : Nat) (P : Nat → ByteArray) : Prop := ∃ cs fz, w.heap[pb]? = some (.cells cs 9 fz) ∧ ∀ m, m < N → cs[2 * m]? = some (.string (P m))
theorem Keys.cell {w : World} {pb N : Nat} {P : Nat → ByteArray} (h : Keys w pb N P) {m : Nat} (hm : m < N) : w.cell? ⟨pb, 2 * m, none⟩ = some (.string (P m)) := by
  obtain ⟨cs, fz, h1, h2⟩ := h
  have := h2 m hm
  simp [World.cell?, h1, this]
theorem Keys.kept {w w' : World} {pb N b : Nat} {P : Nat → ByteArray} (h : Keys w pb N P) (hk : Lib.OthersKept 5 (some b) w w') (hne : pb ≠ b) : Keys w' pb N P := by
  obtain ⟨cs, fz, h1, h2⟩ := h
  exact ⟨cs, fz, hk pb _ h1 (fun e => hne (Option.some.inj e)) (fun c f e => by cases e), h2⟩
theorem keptN {e : TypeId} {b : Option Nat} {a w : World} (h : Lib.OthersKept e b a w) (n : Nat) : Lib.OthersKept e b a (w.drewN n) := h
theorem belowN {B : Nat} {a w : World} (h : Below B a w) (n : Nat) : Below B a (w.drewN n) := ⟨h.os, h.tape, h.output, h.size, h.block⟩
theorem take_more (s : ByteArray) (k : Nat) (h : k < s.size) : s.data.toList.take (k + 1) = s.data.toList.take k ++ [s[k]] := by
  rw [List.take_succ_eq_append_getElem (by simpa using h)]; rfl
theorem byte_cell (s : ByteArray) (k : Nat) (h : k < s.size) : [Value.int .u8 (bt s k)] = Lib.byteCells [s[k]] := by
  simp only [Lib.byteCells, List.map_cons, List.map_nil, get_bt s k h]

set_option maxHeartbeats 2000000 in
set_option maxRecDepth 100000 in
theorem quiet_c (s : ByteArray) (hs : s.size ≤ 2000) (N pb B b : Nat) (P : Nat → ByteArray) (l : List UInt8) (hl : l.length ≤ 8000) (w : World) (hN : N ≤ 1000) (hp : Keys w pb N P) (hne : pb ≠ b) (hP : ∀ m, m < N → (P m).size = 1)
    (hq : ∀ k, k < s.size → ∀ m, m < N → bt s k ≠ bt (P m) 0) (hI : Lib.IsBuffer 38 5 B b (Lib.byteCells l) w) (hBw : B ≤ w.heap.size) :
    Calls Tryz.prog 77 #[.slice (some ⟨pb, 0, none⟩) (2 * N) (2 * N), .pointer (some ⟨b, 0, none⟩), .string s] w fun e w1 => e = .returned (.tuple #[]) ∧ Lib.IsBuffer 38 5 B b (Lib.byteCells (l ++ s.data.toList)) w1 ∧ Below B w w1 ∧ Lib.OthersKept 5 (some b) w w1 := by
  have hb := get_bt s
  replace hP := Lib.hid hP
  replace hq := Lib.hid hq
  go_enter Tryz.func77, Tryz.ntmps77
  go_wp2_with fail
  go_step3
  go_wp2_with fail
  go_step3
  go_wp2_with fail
  go_loopg [6] s.size (fun g i wr => ∃ k : Nat, k + g = s.size ∧ i = .int .i64 k ∧ Lib.IsBuffer 38 5 B b (Lib.byteCells (l ++ s.data.toList.take k)) wr ∧ Below B w wr ∧ Lib.OthersKept 5 (some b) w wr)
  case atStart => exact ⟨0, by omega, rfl, by simpa using hI, Below.refl _ _, Lib.OthersKept.refl _ _ _⟩
  case round =>
    obtain ⟨k, hk, rfl, hB, hW, hO⟩ := hrel
    have hz := hW.size
    have b0 := bt_nonneg s k
    have b1 := bt_le s k
    have hfl : (Lib.byteCells (l ++ s.data.toList.take k)).length ≤ 12000 := by
      rw [Lib.byteCells_length, List.length_append]
      have := List.length_take_le k s.data.toList
      omega
    clear hI
    cases gk with
    | zero =>
      obtain rfl : k = s.size := by omega
      go_wp2_with fail
      rw [Exit.noGoto_normal]
      refine bodyPost_end (results_none rfl _ _ _) rfl ?_
      rw [List.take_of_length_le (by simp)] at hB
      exact ⟨rfl, hB, hW, hO⟩
    | succ g =>
      have hlt2 : k < s.size := by omega
      go_wp2_with fail
      obtain ⟨wo, rfl⟩ : ∃ wo : World, wo = wr := ⟨_, rfl⟩
      go_loopg [7] N (fun g2 j wj => ∃ m : Nat, m + g2 = N ∧ j = .int .i64 (2 * m : Nat) ∧ Hid (∃ n, wj = wo.drewN n))
      case atStart => exact ⟨0, by omega, by go_num, 0, rfl⟩
      case round =>
        obtain ⟨m, hm, rfl, hn⟩ := hrel
        obtain ⟨wj, hwj⟩ : ∃ wj : World, wj = wr := ⟨_, rfl⟩
        subst hwj
        have hBj : Lib.IsBuffer 38 5 B b (Lib.byteCells (l ++ s.data.toList.take k)) wj := by obtain ⟨n, hn⟩ := hn.out; rw [hn]; exact hB.drewN n
        have hWj : Below B w wj := by obtain ⟨n, hn⟩ := hn.out; rw [hn]; exact belowN hW n
        have hOj : Lib.OthersKept 5 (some b) w wj := by obtain ⟨n, hn⟩ := hn.out; rw [hn]; exact keptN hO n
        have hPj := hp.kept hOj hne
        have hzj := hWj.size
        clear hB hW hO
        cases gk with
        | zero =>
          obtain rfl : m = N := by omega
          clear hPj hp hn
          go_wp2_with (go_at_call 78; refine (Tryz.Buffer_WriteByte_k B b _ _ _ hBj (by omega) (Lib.byteCells_one _) (by omega)).mono ?_; rintro e w2 ⟨rfl, hI2, hB2, hO2⟩)
          go_roundg g
          case measure => omega
          case rel =>
            refine ⟨k + 1, by omega, by go_num, ?_, hWj.trans hB2, hOj.trans hO2⟩
            rw [take_more s k hlt2, ← List.append_assoc, Lib.byteCells_append, ← byte_cell s k hlt2]
            exact hI2
        | succ g2 =>
          have hm4 : m < N := by omega
          have he := hPj.cell hm4
          have hb2 := get_bt (P m)
          have hs2 := hP.out m hm4
          have hit2 : (bt s k == bt (P m) 0) = false := by simpa using hq.out k hlt2 m hm4
          clear hPj hp
          go_wp2_with fail
          go_quiet (fail)
          go_wp2_with fail
          go_roundg g2
          case measure => omega
          case rel =>
            refine ⟨m + 1, by omega, by go_num, ?_⟩
            obtain ⟨n, hn⟩ := hn.out
            exact ⟨_, by rw [hn, World.drewN_drewN]⟩
end Go.Proofs.YtfnhikhgkkopfaaGreatDoor.W
