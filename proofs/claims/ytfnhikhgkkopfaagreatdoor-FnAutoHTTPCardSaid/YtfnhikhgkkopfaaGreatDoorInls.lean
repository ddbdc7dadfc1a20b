/- A walk of impl.inlines over a short list, over what impl.inline is known to do with each. Condition: at least one inline, at most three. -/
import Derived.Test.YtfnhikhgkkopfaaGreatDoorItem
import Derived.Test.YtfnhikhgkkopfaaGreatDoorUrl
import Derived.Lib.Hide
import Derived.Outline
namespace Go.Proofs.YtfnhikhgkkopfaaGreatDoor.W
open Go.RowKit Go.PlainAid
set_option linter.unusedVariables false

theorem infoNode : (Tryz.prog.info? 47).map (fun i => (i.zero, i.size, i.bytes)) = some (some (.agg #[.int .i64 0, .string ⟨#[]⟩, .string ⟨#[]⟩, .int .i64 0, .string ⟨#[]⟩, .bool false, .slice none 0 0, .slice none 0 0, .int .i64 0, .int .i64 0, .string ⟨#[]⟩, .int .i64 0, .bool false, .bool false, .bool false, .slice none 0 0]), 16, 192) := by kernel_rfl
theorem infoInline : (Tryz.prog.info? 40).map (fun i => (i.zero, i.size, i.bytes)) = some (some .nilIface, 1, 16) := by kernel_rfl
def InlineSaid (it : Item) (w : World) (e : Ending) (w1 : World) : Prop := ∃ cs, e = .returned (.agg cs) ∧ Below w.heap.size w w1 ∧ NodeOf w1 w.heap.size w1.heap.size cs it
def NodesAt (w : World) (g n hi : Nat) (It : Nat → Item) : Prop := ∀ j, j < n → ∃ cs, NodeOf w 0 hi cs (It j) ∧ ∀ t, t < 16 → w.cell? ⟨g, j * 16 + t, none⟩ = cs[t]?
def InlinesSaid (n : Nat) (It : Nat → Item) (w : World) (e : Ending) (w1 : World) : Prop := ∃ g cap, e = .returned (.slice (some ⟨g, 0, none⟩) n cap) ∧ Below w.heap.size w w1 ∧ w.heap.size ≤ g ∧ g < w1.heap.size ∧ NodesAt w1 g n w1.heap.size It
def NodeR (w : World) (lo hi : Nat) (cs : List Value) (it : Item) : Prop := NodeOf w lo hi cs.toArray it
def BuiltN (base : Nat) (wr : World) (v : Value) (k : Nat) (It : Nat → Item) : Prop := ∃ xs, wr.ownsRow base 47 16 v k xs ∧ ∀ j, j < k → ElemOK 16 NodeR wr v xs j (It j)
theorem new_row (w : World) (arr : Array Value) (t : TypeId) : ∀ j u, arr.toList[j]? = some u → (w.alloc (.cells arr t)).cell? ((⟨w.heap.size, 0, none⟩ : Addr).add j) = some u := fun j u h => by
  have e : (⟨w.heap.size, 0, none⟩ : Addr).add j = ⟨w.heap.size, j, none⟩ := by unfold Addr.add; split <;> simp_all
  rw [e, World.cell?_alloc_at _ _ _ _ rfl, ← h, Array.getElem?_toList]
theorem BuiltN.step {base k : Nat} {wr w1 w2 : World} {v v' : Value} {xs : List Value} {cs : Array Value} {It : Nat → Item} {o : Obj} (hown : wr.ownsRow base 47 16 v k xs) (hit : ∀ j, j < k → ElemOK 16 NodeR wr v xs j (It j))
    (hB : Below wr.heap.size wr w1) (hN : NodeOf w1 wr.heap.size w1.heap.size cs (It k)) (hown2 : w2.ownsRow base 47 16 v' (k + 1) (xs ++ cs.toList)) (hg : (w1.alloc o).grownBy w2 v.ownBlock)
    (hv : v'.ownBlock = v.ownBlock ∨ v'.ownBlock = some (w1.alloc o).heap.size) : BuiltN base w2 v' (k + 1) It :=
  ⟨_, hown2, elem_step (R := NodeR) (fun h hk => NodeOf.keep h hk) hown hit hB (by unfold NodeR; simpa using hN) (by simpa using hN.size) hg hv⟩
theorem BuiltN.read {base n : Nat} {w : World} {v : Value} {It : Nat → Item} (h : BuiltN base w v n It) (hn : 0 < n) : ∃ g cap, v = .slice (some ⟨g, 0, none⟩) n cap ∧ base ≤ g ∧ g < w.heap.size ∧ NodesAt w g n w.heap.size It := by
  obtain ⟨xs, hown, hit⟩ := h
  obtain ⟨g, cap, hv, h1, h2, h3⟩ := ownsRow_read hown hn
  refine ⟨g, cap, hv, h1, h2, fun j hj => ?_⟩
  obtain ⟨lo, hi, cs, a, b, c, _, f⟩ := hit j hj
  refine ⟨cs.toArray, NodeOf.wide (show NodeOf w lo hi cs.toArray (It j) from b) (Nat.zero_le _) c, fun t ht => ?_⟩
  rw [h3 _ (by omega), f t ht, List.getElem?_toArray]
theorem stepBelow {B : Nat} {a wr w1 w2 : World} {row : Option Nat} {o : Obj} (h : Below B a wr) (hB : B ≤ wr.heap.size) (h1 : Below wr.heap.size wr w1) (hg : (w1.alloc o).grownBy w2 row) (hr : ∀ k, row = some k → B ≤ k) : Below B a w2 := by
  have hz := h1.size
  exact ((h.trans (h1.mono hB)).alloc (by omega) o).grown hg (by simp; omega) hr

theorem nodeP_one (t : ByteArray) : ∀ u ∈ (nodeP t).toList, u.oneCell' = true := by
  have h : (nodeP t).toList.all (fun u => u.oneCell') = true := rfl
  exact fun u hu => List.all_eq_true.1 h u hu
theorem nodeL_one (t : ByteArray) (nb cap : Nat) : ∀ u ∈ (nodeL t nb cap).toList, u.oneCell' = true := by
  have h : (nodeL t nb cap).toList.all (fun u => u.oneCell') = true := rfl
  exact fun u hu => List.all_eq_true.1 h u hu
set_option maxHeartbeats 1000000 in
set_option maxRecDepth 100000 in
theorem inlines_c (n : Nat) (hn0 : 0 < n) (hn : n ≤ 3) (g cap : Nat) (vs : Nat → Value) (It : Nat → Item) (w : World) (hg : ∀ j, j < n → w.cell? ⟨g, j, none⟩ = some (vs j)) (hgs : g < w.heap.size)
    (hI : ∀ j, j < n → ∀ w', Below w.heap.size w w' → Calls Tryz.prog 16 #[vs j] w' (InlineSaid (It j) w')) :
    Calls Tryz.prog 11 #[.slice (some ⟨g, 0, none⟩) n cap] w (InlinesSaid n It w) := by
  obtain ⟨i0, hi, hz0, hz1, hz2⟩ := info_parts infoNode
  replace hg := Lib.hid hg
  replace hI := Lib.hid hI
  go_enter Tryz.func11, Tryz.ntmps11
  go_wp2_with fail
  go_loopw [3, 8] (fun v i wr => ∃ k : Nat, k ≤ n ∧ i = .int .i64 k ∧ Below w.heap.size w wr ∧ BuiltN w.heap.size wr v k It) (fun _ i _ => n - (intOf i).toNat)
  case atStart => exact ⟨0, by omega, rfl, Below.refl _ _, [], World.ownsRow_nil _ _ _ _, fun j hj => by omega⟩
  case round =>
    obtain ⟨k, hk, rfl, hB, hBt⟩ := hrel
    by_cases hlt : k < n
    · have hcx : wr.cell? ⟨g, k, none⟩ = some (vs k) := (hB.cell (p := ⟨g, k, none⟩) hgs).trans (hg.out k hlt)
      obtain ⟨xs, hown, hit⟩ := hBt
      replace hit := Lib.hid hit
      have hzB := hB.size
      go_wp2_with fail
      refine (hI.out k hlt _ hB).mono ?_
      rintro e w1 ⟨cs, rfl, hB1, hN⟩
      have hN0 := Lib.hid hN
      have hzB1 := hB1.size
      have hown1 := ((ownsRow_below hown hB1 fun q hq => (hown.lt q hq).2))
      cases hIt : It k with
      | plain t =>
        rw [hIt] at hN
        have hcs : cs = nodeP t := hN
        subst hcs
        clear hN
        replace hIt := Lib.hid hIt
        unfold nodeP
        go_wp2_with (at_builtin; refine wpList_append_strong rfl (.tmp 12) (.tmp 15) _ rfl w.heap.size 47 i0 _ 16 192 Tryz.underlying25 hi hz0 hz1 hz2 rfl (by decide) _ k xs rfl (hown1.alloc _) ⟨w1.heap.size, 0, none⟩ 1 1 (by decide) (nodeP t).toList rfl rfl (new_row _ _ _) (nodeP_one t) (by unfold maxLen; omega) (by omega) (by simp; omega) ?_; intro v' w2 hown2 hgrow hv2)
        go_roundw
        case rel => exact ⟨k + 1, by omega, by go_num, stepBelow hB hzB hB1 hgrow (fun r hr => (hown.lt r hr).1), BuiltN.step hown hit.out hB1 hN0.out hown2 hgrow hv2⟩
        case measure => simp [intOf]; omega
      | link u =>
        rw [hIt] at hN
        obtain ⟨nb, cap, h1, h2, rfl, h4⟩ := hN
        replace h4 := Lib.hid h4
        replace hIt := Lib.hid hIt
        unfold nodeL
        go_wp2_with (at_builtin; refine wpList_append_strong rfl (.tmp 12) (.tmp 15) _ rfl w.heap.size 47 i0 _ 16 192 Tryz.underlying25 hi hz0 hz1 hz2 rfl (by decide) _ k xs rfl (hown1.alloc _) ⟨w1.heap.size, 0, none⟩ 1 1 (by decide) (nodeL u nb cap).toList rfl rfl (new_row _ _ _) (nodeL_one u nb cap) (by unfold maxLen; omega) (by omega) (by simp; omega) ?_; intro v' w2 hown2 hgrow hv2)
        go_roundw
        case rel => exact ⟨k + 1, by omega, by go_num, stepBelow hB hzB hB1 hgrow (fun r hr => (hown.lt r hr).1), BuiltN.step hown hit.out hB1 hN0.out hown2 hgrow hv2⟩
        case measure => simp [intOf]; omega
    · obtain rfl : k = n := by omega
      go_wp2_with fail
      obtain ⟨g2, cap2, hv, h1, h2, h3⟩ := hBt.read hn0
      subst hv
      go_ret
      exact ⟨g2, cap2, rfl, hB, h1, h2, h3⟩
end Go.Proofs.YtfnhikhgkkopfaaGreatDoor.W
