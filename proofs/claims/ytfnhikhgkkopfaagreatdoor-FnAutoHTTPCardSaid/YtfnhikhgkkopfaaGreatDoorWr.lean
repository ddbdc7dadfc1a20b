/- A walk of impl.written over a short list of Nodes, over what impl.put is known to do with each. Condition: at most three Nodes. -/
import Derived.Test.YtfnhikhgkkopfaaGreatDoorInls
namespace Go.Proofs.YtfnhikhgkkopfaaGreatDoor.W
open Go.RowKit Go.PlainAid
set_option linter.unusedVariables false

def PutSaid (it : Item) (w : World) (e : Ending) (w1 : World) : Prop := ∃ v, e = .returned v ∧ Below w.heap.size w w1 ∧ InlAt w1 w.heap.size w1.heap.size v it
def InlsAt (w : World) (g n lo hi : Nat) (It : Nat → Item) : Prop := ∀ j, j < n → ∃ v, InlAt w lo hi v (It j) ∧ w.cell? ⟨g, j, none⟩ = some v
def WrittenSaid (n : Nat) (It : Nat → Item) (w : World) (e : Ending) (w1 : World) : Prop := ∃ g cap, e = .returned (.slice (some ⟨g, 0, none⟩) n cap) ∧ Below w.heap.size w w1 ∧ w.heap.size ≤ g ∧ g < w1.heap.size ∧ InlsAt w1 g n w.heap.size w1.heap.size It
def InlR (base : Nat) (w : World) (lo hi : Nat) (cs : List Value) (it : Item) : Prop := base ≤ lo ∧ ∃ v, cs = [v] ∧ InlAt w lo hi v it
def BuiltI (base : Nat) (wr : World) (v : Value) (k : Nat) (It : Nat → Item) : Prop := ∃ xs, wr.ownsRow base 40 1 v k xs ∧ ∀ j, j < k → ElemOK 1 (InlR base) wr v xs j (It j)
theorem BuiltI.step {base k : Nat} {wr w1 w2 : World} {v v' u : Value} {xs : List Value} {It : Nat → Item} {o : Obj} (hown : wr.ownsRow base 40 1 v k xs) (hit : ∀ j, j < k → ElemOK 1 (InlR base) wr v xs j (It j))
    (hB : Below wr.heap.size wr w1) (hN : InlAt w1 wr.heap.size w1.heap.size u (It k)) (hown2 : w2.ownsRow base 40 1 v' (k + 1) (xs ++ [u])) (hg : (w1.alloc o).grownBy w2 v.ownBlock)
    (hv : v'.ownBlock = v.ownBlock ∨ v'.ownBlock = some (w1.alloc o).heap.size) (hbase : base ≤ wr.heap.size) : BuiltI base w2 v' (k + 1) It :=
  ⟨_, hown2, elem_step (R := InlR base) (fun ⟨hb, x, h, h1⟩ hk => ⟨hb, x, h, h1.keep hk⟩) hown hit hB ⟨hbase, u, rfl, hN⟩ rfl hg hv⟩
theorem BuiltI.read {base n : Nat} {w : World} {v : Value} {It : Nat → Item} (h : BuiltI base w v n It) (hn : 0 < n) : ∃ g cap, v = .slice (some ⟨g, 0, none⟩) n cap ∧ base ≤ g ∧ g < w.heap.size ∧ InlsAt w g n base w.heap.size It := by
  obtain ⟨xs, hown, hit⟩ := h
  obtain ⟨g, cap, hv, h1, h2, h3⟩ := ownsRow_read hown hn
  refine ⟨g, cap, hv, h1, h2, fun j hj => ?_⟩
  obtain ⟨lo, hi, cs, a, ⟨hb, u, rfl, b⟩, c, _, f⟩ := hit j hj
  refine ⟨u, b.wide hb c, ?_⟩
  have f0 := f 0 (by omega)
  rw [h3 j (by omega), show j = j * 1 + 0 from by omega, f0]
  rfl
theorem InlAt.one {w : World} {lo hi : Nat} {v : Value} {it : Item} (h : InlAt w lo hi v it) : ∃ T a, v = .iface T (.pointer (some a)) := by
  cases it with
  | plain t => obtain ⟨b, _, _, h, _⟩ := h; exact ⟨_, _, h⟩
  | link u => obtain ⟨lb, ib, pb, cap, _, _, _, _, _, _, h, _⟩ := h; exact ⟨_, _, h⟩
theorem one_iface (T : TypeId) (a : Addr) : ∀ u ∈ [Value.iface T (.pointer (some a))], u.oneCell' = true := fun u hu => by
  rw [List.mem_singleton] at hu; rw [hu]; rfl
theorem written_nil (w : World) : Calls Tryz.prog 10 #[.slice none 0 0] w fun e w1 => e = .returned (.slice none 0 0) ∧ w = w1 := by
  go_enter Tryz.func10, Tryz.ntmps10
  go_wp2_with fail
  refine wp_loop_rounds 1 ?_
  rw [rounds_succ]
  go_wp2_with fail
  go_ret
  exact ⟨rfl, rfl⟩
set_option maxHeartbeats 1000000 in
set_option maxRecDepth 100000 in
theorem written_c (n : Nat) (hn0 : 0 < n) (hn : n ≤ 3) (g cap hi0 : Nat) (It : Nat → Item) (w : World) (hg : NodesAt w g n hi0 It) (hgs : g < w.heap.size) (hhi : hi0 ≤ w.heap.size)
    (hI : ∀ j, j < n → ∀ cs, NodeOf w 0 hi0 cs (It j) → ∀ w', Below w.heap.size w w' → Calls Tryz.prog 15 #[.agg cs] w' (PutSaid (It j) w')) :
    Calls Tryz.prog 10 #[.slice (some ⟨g, 0, none⟩) n cap] w (WrittenSaid n It w) := by
  obtain ⟨i0, hi, hz0, hz1, hz2⟩ := info_parts infoInline
  replace hg := Lib.hid hg
  replace hI := Lib.hid hI
  go_enter Tryz.func10, Tryz.ntmps10
  go_wp2_with fail
  go_loopw [3, 8] (fun v i wr => ∃ k : Nat, k ≤ n ∧ i = .int .i64 k ∧ Below w.heap.size w wr ∧ BuiltI w.heap.size wr v k It) (fun _ i _ => n - (intOf i).toNat)
  case atStart => exact ⟨0, by omega, rfl, Below.refl _ _, [], World.ownsRow_nil _ _ _ _, fun j hj => by omega⟩
  case round =>
    obtain ⟨k, hk, rfl, hB, hBt⟩ := hrel
    by_cases hlt : k < n
    · obtain ⟨cs, hN, hcs0⟩ := hg.out k hlt
      have hcs : ∀ t, t < 16 → wr.cell? ⟨g, k * 16 + t, none⟩ = cs[t]? := fun t ht => (hB.cell (p := ⟨g, k * 16 + t, none⟩) hgs).trans (hcs0 t ht)
      have cI := Lib.hid (hI.out k hlt cs hN)
      clear hcs0
      obtain ⟨xs, hown, hit⟩ := hBt
      replace hit := Lib.hid hit
      have hzB := hB.size
      cases hIt : It k with
      | plain t =>
       as_aux_lemma =>
        rw [hIt] at hN
        have e : cs = nodeP t := hN
        subst e
        have q0 : wr.cell? ⟨g, k * 16, none⟩ = some (.int .i64 20) := hcs 0 (by omega); have q1 : wr.cell? ⟨g, k * 16 + 1, none⟩ = some (.string t) := hcs 1 (by omega); have q2 : wr.cell? ⟨g, k * 16 + 2, none⟩ = some (.string ⟨#[]⟩) := hcs 2 (by omega); have q3 : wr.cell? ⟨g, k * 16 + 3, none⟩ = some (.int .i64 0) := hcs 3 (by omega); have q4 : wr.cell? ⟨g, k * 16 + 4, none⟩ = some (.string ⟨#[]⟩) := hcs 4 (by omega); have q5 : wr.cell? ⟨g, k * 16 + 5, none⟩ = some (.bool false) := hcs 5 (by omega); have q6 : wr.cell? ⟨g, k * 16 + 6, none⟩ = some (.slice none 0 0) := hcs 6 (by omega); have q7 : wr.cell? ⟨g, k * 16 + 7, none⟩ = some (.slice none 0 0) := hcs 7 (by omega); have q8 : wr.cell? ⟨g, k * 16 + 8, none⟩ = some (.int .i64 0) := hcs 8 (by omega); have q9 : wr.cell? ⟨g, k * 16 + 9, none⟩ = some (.int .i64 0) := hcs 9 (by omega); have q10 : wr.cell? ⟨g, k * 16 + 10, none⟩ = some (.string ⟨#[]⟩) := hcs 10 (by omega); have q11 : wr.cell? ⟨g, k * 16 + 11, none⟩ = some (.int .i64 0) := hcs 11 (by omega); have q12 : wr.cell? ⟨g, k * 16 + 12, none⟩ = some (.bool false) := hcs 12 (by omega); have q13 : wr.cell? ⟨g, k * 16 + 13, none⟩ = some (.bool false) := hcs 13 (by omega); have q14 : wr.cell? ⟨g, k * 16 + 14, none⟩ = some (.bool false) := hcs 14 (by omega); have q15 : wr.cell? ⟨g, k * 16 + 15, none⟩ = some (.slice none 0 0) := hcs 15 (by omega)
        replace hIt := Lib.hid hIt
        clear hcs
        go_wp2_with fail
        refine (cI.out _ (hB.alloc hzB _)).mono ?_
        rintro e w1 ⟨u1, rfl, hB1, hN1⟩
        have hN2 := Lib.hid hN1
        obtain ⟨T, ad, rfl⟩ := hN1.one
        have hzB1 := hB1.size
        simp only [World.size_alloc] at hzB1
        have hB2 : Below wr.heap.size wr w1 := ((Below.refl wr.heap.size wr).alloc (Nat.le_refl _) _).trans (hB1.mono (by simp))
        have hown1 := ((ownsRow_below hown hB2 fun q hq => (hown.lt q hq).2))
        go_wp2_with (at_builtin; refine wpList_append_strong rfl (.tmp 12) (.tmp 15) _ rfl w.heap.size 40 i0 _ 1 16 Tryz.underlying30 hi hz0 hz1 hz2 rfl (by decide) _ k xs rfl (hown1.alloc _) ⟨w1.heap.size, 0, none⟩ 1 1 (by decide) [.iface T (.pointer (some ad))] rfl rfl (new_row _ #[.iface T (.pointer (some ad))] _) (one_iface T ad) (by unfold maxLen; omega) (by omega) (by simp; omega) ?_; intro v' w2 hown2 hgrow hv2)
        go_roundw
        case rel => exact ⟨k + 1, by omega, by go_num, stepBelow hB hzB hB2 hgrow (fun r hr => (hown.lt r hr).1), BuiltI.step hown hit.out hB2 (hN2.out.wide (by simp) (Nat.le_refl _)) hown2 hgrow hv2 hzB⟩
        case measure => simp [intOf]; omega
      | link u =>
       as_aux_lemma =>
        rw [hIt] at hN
        obtain ⟨nb, cap2, h1, h2, rfl, h4⟩ := hN
        replace h4 := Lib.hid h4
        have q0 : wr.cell? ⟨g, k * 16, none⟩ = some (.int .i64 27) := hcs 0 (by omega); have q1 : wr.cell? ⟨g, k * 16 + 1, none⟩ = some (.string u) := hcs 1 (by omega); have q2 : wr.cell? ⟨g, k * 16 + 2, none⟩ = some (.string ⟨#[]⟩) := hcs 2 (by omega); have q3 : wr.cell? ⟨g, k * 16 + 3, none⟩ = some (.int .i64 0) := hcs 3 (by omega); have q4 : wr.cell? ⟨g, k * 16 + 4, none⟩ = some (.string ⟨#[]⟩) := hcs 4 (by omega); have q5 : wr.cell? ⟨g, k * 16 + 5, none⟩ = some (.bool false) := hcs 5 (by omega); have q6 : wr.cell? ⟨g, k * 16 + 6, none⟩ = some (.slice none 0 0) := hcs 6 (by omega); have q7 : wr.cell? ⟨g, k * 16 + 7, none⟩ = some (.slice (some ⟨nb, 0, none⟩) 1 cap2) := hcs 7 (by omega); have q8 : wr.cell? ⟨g, k * 16 + 8, none⟩ = some (.int .i64 0) := hcs 8 (by omega); have q9 : wr.cell? ⟨g, k * 16 + 9, none⟩ = some (.int .i64 0) := hcs 9 (by omega); have q10 : wr.cell? ⟨g, k * 16 + 10, none⟩ = some (.string ⟨#[]⟩) := hcs 10 (by omega); have q11 : wr.cell? ⟨g, k * 16 + 11, none⟩ = some (.int .i64 0) := hcs 11 (by omega); have q12 : wr.cell? ⟨g, k * 16 + 12, none⟩ = some (.bool false) := hcs 12 (by omega); have q13 : wr.cell? ⟨g, k * 16 + 13, none⟩ = some (.bool false) := hcs 13 (by omega); have q14 : wr.cell? ⟨g, k * 16 + 14, none⟩ = some (.bool false) := hcs 14 (by omega); have q15 : wr.cell? ⟨g, k * 16 + 15, none⟩ = some (.slice none 0 0) := hcs 15 (by omega)
        replace hIt := Lib.hid hIt
        clear hcs
        go_wp2_with fail
        refine (cI.out _ (hB.alloc hzB _)).mono ?_
        rintro e w1 ⟨u1, rfl, hB1, hN1⟩
        have hN2 := Lib.hid hN1
        obtain ⟨T, ad, rfl⟩ := hN1.one
        have hzB1 := hB1.size
        simp only [World.size_alloc] at hzB1
        have hB2 : Below wr.heap.size wr w1 := ((Below.refl wr.heap.size wr).alloc (Nat.le_refl _) _).trans (hB1.mono (by simp))
        have hown1 := ((ownsRow_below hown hB2 fun q hq => (hown.lt q hq).2))
        go_wp2_with (at_builtin; refine wpList_append_strong rfl (.tmp 12) (.tmp 15) _ rfl w.heap.size 40 i0 _ 1 16 Tryz.underlying30 hi hz0 hz1 hz2 rfl (by decide) _ k xs rfl (hown1.alloc _) ⟨w1.heap.size, 0, none⟩ 1 1 (by decide) [.iface T (.pointer (some ad))] rfl rfl (new_row _ #[.iface T (.pointer (some ad))] _) (one_iface T ad) (by unfold maxLen; omega) (by omega) (by simp; omega) ?_; intro v' w2 hown2 hgrow hv2)
        go_roundw
        case rel => exact ⟨k + 1, by omega, by go_num, stepBelow hB hzB hB2 hgrow (fun r hr => (hown.lt r hr).1), BuiltI.step hown hit.out hB2 (hN2.out.wide (by simp) (Nat.le_refl _)) hown2 hgrow hv2 hzB⟩
        case measure => simp [intOf]; omega
    · obtain rfl : k = n := by omega
      go_wp2_with fail
      obtain ⟨g2, cap2, hv, h1, h2, h3⟩ := hBt.read hn0
      subst hv
      go_ret
      exact ⟨g2, cap2, rfl, hB, h1, h2, h3⟩
end Go.Proofs.YtfnhikhgkkopfaaGreatDoor.W
