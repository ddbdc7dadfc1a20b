/- The walk of zzReplaceAll that makes spaces of line feeds. Condition: the text has at most 300 bytes. -/
import Derived.Test.YtiilhmagepncgaaSpan
import Derived.Test.YtiilhmagepncgaaOwn
import Derived.Test.YtiilhmagepncgaaMark
import Derived.Lib.AppendStr
import Derived.Deep.LoopGhost
namespace Go.Proofs.Ytiilhmagepncgaa.W
open Go.RowKit Go.PlainAid
set_option linter.unusedVariables false

/-- append(v, t...) -/
theorem append_str {w : World} {ops : Array Oper} {rest : List Oper} {o : Oper} {a : Act} {Q : Exit → Act → World → Prop} (hgd : o.guard = none) (s x : Operand)
    (ho : o.op = .call { callee := .builtin .append, args := #[s, x], argTypes := #[110, 9] })
    (B : Nat) (v : Value) (l : List UInt8) (hs : a.eval s = v) (hown : OwnB w B v l) (t : ByteArray) (hx : a.eval x = .string t)
    (hl : l.length + t.size ≤ 1099511627776) (hbase : B ≤ w.heap.size)
    (h : ∀ v' w', OwnB w' B v' (l ++ t.data.toList) → w.grownBy w' v.ownBlock → wpList Try.prog ops Q rest (a.put o.dst v') w') : wpList Try.prog ops Q (o :: rest) a w := by
  obtain ⟨i0, hi, hz0, hz1, hz2⟩ := info_parts infoByte
  refine Lib.wpList_append_own_string w hgd s x 110 9 ho B 5 i0 Try.underlying110 Try.underlying9 hi hz0 hz1 hz2 v l.length (Lib.byteCells l) hs hown t hx (by unfold maxLen; omega) (by omega) hbase ?_
  intro v' w' hown' hgrow _
  refine h v' w' ?_ hgrow
  have e : (l ++ t.data.toList).length = l.length + t.size := by rw [List.length_append]; rfl
  show w'.ownsRow B 5 1 v' (l ++ t.data.toList).length (Lib.byteCells (l ++ t.data.toList))
  rw [e, Lib.byteCells_append]
  exact hown'

/-- a part without line feeds -/
theorem subTo_plain (s : ByteArray) (q : Nat) : ∀ o, q + o ≤ s.size → (∀ j, j < o → bt s (q + j) ≠ 10) → subTo s (q + o) = subTo s q ++ (s.extract q (q + o)).data.toList
  | 0, _, _ => by
    have : (s.extract q (q + 0)).data.toList = [] := by
      have hz : (s.extract q (q + 0)).size = 0 := by rw [size_extract]; omega
      have : (s.extract q (q + 0)).data.toList.length = 0 := hz
      exact List.length_eq_zero_iff.1 this
    rw [this, List.append_nil, Nat.add_zero]
  | o + 1, h, hn => by
    rw [← Nat.add_assoc, subTo, subTo_plain s q o (by omega) (fun j hj => hn j (by omega)), spC, if_neg (hn o (by omega)), List.append_assoc]
    congr 1
    have e1 : s.extract q (q + o + 1) = s.extract q (q + o) ++ s.extract (q + o) (q + o + 1) := by
      refine str_ext (by rw [ByteArray.size_append, size_extract, size_extract, size_extract]; omega) fun j hj => ?_
      rw [size_extract] at hj
      rw [bt_extract s (by omega) (by omega)]
      by_cases hjo : j < o
      · rw [bt_app_l _ _ (by rw [size_extract]; omega), bt_extract s (by omega) (by omega)]
      · have hz : (s.extract q (q + o)).size = o := by rw [size_extract]; omega
        rw [bt_app_r _ _ (by omega), hz, bt_extract s (by omega) (by omega)]
        congr 1; omega
    rw [e1, one_letter s (by omega)]
    simp

theorem nl_at {s : ByteArray} {j : Nat} : AtS s ⟨#[10]⟩ j ↔ j < s.size ∧ bt s j = 10 := by
  have h1 : (⟨#[10]⟩ : ByteArray).size = 1 := rfl
  constructor
  · intro h
    have hz := h.1
    have := atS_bt h (k := 0) (by omega)
    exact ⟨by omega, this⟩
  · rintro ⟨h, e⟩
    refine atS_mk (by omega) fun k hk => ?_
    obtain rfl : k = 0 := by omega
    exact e
set_option maxHeartbeats 2000000 in
set_option maxRecDepth 100000 in
theorem replaceNl_c (s : ByteArray) (hs : s.size ≤ 300) (w : World) :
    Calls Try.prog 37 #[.string s, .string ⟨#[10]⟩, .string ⟨#[32]⟩] w fun e w1 => e = .returned (.string (subS s)) ∧ Below w.heap.size w w1 := by
  have hs0 : s.extract 0 s.size = s := str_ext (by rw [size_extract]; omega) (fun j hj => by rw [size_extract] at hj; rw [bt_extract s (by omega) (Nat.le_refl _), Nat.zero_add])
  go_enter Try.func37, Try.ntmps37
  go_wp2_with fail
  go_loopg [0, 7] s.size (fun g t v wr => ∃ (q : Nat) (T : ByteArray), q + g = s.size ∧ t = .string T ∧ Hid (T = s.extract q s.size) ∧ OwnB wr w.heap.size v (subTo s q) ∧ Below w.heap.size w wr)
  case atStart => exact ⟨0, s, by omega, rfl, hs0.symm, World.ownsRow_nil _ _ _ _, Below.refl _ _⟩
  case round =>
    obtain ⟨q, T, hq, rfl, hT, hO, hB⟩ := hrel
    have hz := hB.size
    have hTz : T.size = s.size - q := by rw [hT.out, size_extract]; omega
    have hTb : ∀ j, j < T.size → bt T j = bt s (q + j) := fun j hj => by rw [hT.out, bt_extract s (by omega) (Nat.le_refl _)]
    have hlen := subTo_len s q
    clear hs0
    rcases first_or_none (fun j => bt T j = 10) 0 T.size with hno | ⟨o, _, ho2, ho3, ho4⟩
    · have hsub : subS s = ⟨(subTo s q ++ T.data.toList).toArray⟩ := by
        have := subTo_plain s q (s.size - q) (by omega) (fun j hj => by rw [← hTb j (by omega)]; exact hno j (Nat.zero_le _) (by omega))
        rw [show q + (s.size - q) = s.size from by omega] at this
        unfold subS
        rw [this, hT.out]
      have cN := fun w => zzIndex_no T ⟨#[10]⟩ (by omega) (by decide) (fun j hat => hno j (Nat.zero_le _) (by have := (nl_at.1 hat).1; omega) (nl_at.1 hat).2) w
      replace hsub := Lib.hid hsub
      clear hno hTb
      go_wp2_with (first | (go_at_call 36; refine (cN _).mono ?_; rintro e w1 ⟨rfl, rfl⟩) | (at_builtin; refine append_str rfl _ _ rfl w.heap.size _ (subTo s q) rfl hO T rfl (by omega) (by omega) ?_))
      intro v' w1 hown hgrow
      obtain ⟨M, hM⟩ : ∃ M, M = subTo s q ++ T.data.toList := ⟨_, rfl⟩
      rw [← hM] at hown hsub
      obtain ⟨a', cap', rfl⟩ := hown.val
      have hst := hown.str
      replace hM := Lib.hid hM
      have hB' : Below w.heap.size w w1 := hB.grown hgrow hz (fun j hj => (hO.lt j hj).1)
      clear hgrow hO hown
      go_wp2
      go_ret
      exact ⟨ret1 (strEq hsub.out.symm), hB'⟩
    · have hsub : subTo s (q + o + 1) = subTo s q ++ (T.extract 0 o).data.toList ++ (⟨#[32]⟩ : ByteArray).data.toList := by
        have h1 := subTo_plain s q o (by omega) (fun j hj => by rw [← hTb j (by omega)]; exact ho4 j (Nat.zero_le _) hj)
        have h2 : T.extract 0 o = s.extract q (q + o) := by
          refine str_ext (by rw [size_extract, size_extract]; omega) fun j hj => ?_
          rw [size_extract] at hj
          rw [bt_extract T (by omega) (by omega), Nat.zero_add, hTb j (by omega), bt_extract s (by omega) (by omega)]
        have h3 : bt s (q + o) = 10 := by rw [← hTb o (by omega)]; exact ho3
        rw [subTo, h1, h2, h3]; rfl
      have hT2 : T.extract (o + 1) T.size = s.extract (q + o + 1) s.size := by
        refine str_ext (by rw [size_extract, size_extract]; omega) fun j hj => ?_
        rw [size_extract] at hj
        rw [bt_extract T (by omega) (Nat.le_refl _), hTb _ (by omega), bt_extract s (by omega) (Nat.le_refl _)]
        congr 1; omega
      have cN := fun w => zzIndex_yes T ⟨#[10]⟩ o (by omega) (by decide) (nl_at.2 ⟨by omega, ho3⟩) (fun j hj hat => ho4 j (Nat.zero_le _) hj (nl_at.1 hat).2) w
      have he : (T.extract 0 o).size = o := by rw [size_extract]; omega
      rw [show (T.extract 0 o).data.toList = List.take o T.data.toList by simp] at hsub
      replace hsub := Lib.hid hsub
      replace hT2 := Lib.hid hT2
      replace he := Lib.hid he
      replace ho3 := Lib.hid ho3
      have ho5 : o < T.size := by omega
      clear ho4 hTb ho2
      go_wp2_with (first | (go_at_call 36; refine (cN _).mono ?_; rintro e w1 ⟨rfl, rfl⟩) | (at_builtin; refine append_str rfl _ _ rfl w.heap.size _ (subTo s q) rfl hO (T.extract 0 o) rfl (by have := he.out; omega) (by omega) ?_))
      intro v' w1 hown hgrow
      have hB' : Below w.heap.size w w1 := hB.grown hgrow hz (fun j hj => (hO.lt j hj).1)
      have hz1 := hB'.size
      have hM : (subTo s q ++ List.take o T.data.toList).length ≤ 300 := by rw [List.length_append, List.length_take]; omega
      clear hgrow hO
      go_wp2_with (at_builtin; refine append_str rfl _ _ rfl w.heap.size _ _ rfl hown ⟨#[32]⟩ rfl (by show _ + 1 ≤ _; omega) (by omega) ?_)
      intro v2 w2 hown2 hgrow2
      have hB2 : Below w.heap.size w w2 := hB'.grown hgrow2 hz1 (fun j hj => (hown.lt j hj).1)
      clear hgrow2 hown
      go_wp2
      go_roundg (s.size - (q + o + 1))
      case measure => omega
      case rel => exact ⟨q + o + 1, _, by omega, rfl, by rw [← hTz]; exact hT2, by rw [hsub.out, List.append_assoc]; exact hown2, hB2⟩
end Go.Proofs.Ytiilhmagepncgaa.W
