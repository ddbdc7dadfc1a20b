/- Walks of autoLinkPlain at a text with one address: among words, and at its front. Condition: the text has at most 300 bytes; what stands before and behind the address are letters a, b, c and spaces. -/
import Derived.Test.YtfnhikhgkkopfaaGreatDoorProto
import Derived.Test.YtfnhikhgkkopfaaGreatDoorLinkF
import Derived.Test.YtfnhikhgkkopfaaGreatDoorScope
import Derived.WalkMore
import Derived.Lib.LazyBuf
namespace Go.Proofs.YtfnhikhgkkopfaaGreatDoor.W
open Go.RowKit Go.PlainAid
set_option linter.unusedVariables false
theorem skipI (s : ByteArray) (vb k : Nat) (x : Int) (w : World) (hx : x = k) (hk : k ≤ s.size) (hs : s.size ≤ 300)
    (hc0 : w.cell? ⟨vb, 0, none⟩ = some (.string s)) (hc1 : w.cell? ⟨vb, 1, none⟩ = some (.int .i64 0)) (hf0 : w.frozen? ⟨vb, 0, none⟩ = false) (hf1 : w.frozen? ⟨vb, 1, none⟩ = false) :
    Calls Tryz.prog 24 #[.pointer (some ⟨vb, 0, none⟩), .int .i64 x] w fun e w1 => e = .returned (.tuple #[]) ∧ w1 = (w.setCell ⟨vb, 0, none⟩ (.string (s.extract k s.size))).setCell ⟨vb, 1, none⟩ (.int .i64 (0 - k)) := by
  subst hx
  exact skip_c s vb k 0 w hk hs (by omega) (by omega) hc0 hc1 hf0 hf1
/-- what lay below base outlives two appends to a row that begins there -/
theorem two_kept {w1 w2 w3 : World} {A B C : Obj} {v2 : Value} {n : Nat} {xs : List Value} {e sz : Nat} (hg2 : ((w1.alloc A).alloc B).grownBy w2 none) (hown2 : w2.ownsRow w1.heap.size e sz v2 n xs) (hg3 : (w2.alloc C).grownBy w3 v2.ownBlock) :
    Below w1.heap.size w1 w3 := by
  have h1 := (((Below.refl w1.heap.size w1).alloc (Nat.le_refl _) A).alloc (by simp) B).grown hg2 (by simp <;> omega) (fun k h => by cases h)
  have h2 := h1.size
  exact (h1.alloc (by omega) C).grown hg3 (by simp; omega) (fun k h => (hown2.lt k h).1)
theorem fresh_vd {w w1 : World} {s : ByteArray} {t : TypeId} (hB : Below (w.alloc (.cells #[.string s, .int .i64 0] t)).heap.size (w.alloc (.cells #[.string s, .int .i64 0] t)) w1) :
    w1.cell? ⟨w.heap.size, 0, none⟩ = some (.string s) ∧ w1.cell? ⟨w.heap.size, 1, none⟩ = some (.int .i64 0) ∧ w1.frozen? ⟨w.heap.size, 0, none⟩ = false ∧ w1.frozen? ⟨w.heap.size, 1, none⟩ = false ∧ w.heap.size < w1.heap.size := by
  have hz : w.heap.size < (w.alloc (.cells #[.string s, .int .i64 0] t)).heap.size := by simp
  have hz2 := hB.size
  refine ⟨?_, ?_, ?_, ?_, by omega⟩
  · rw [hB.cell (p := ⟨w.heap.size, 0, none⟩) hz, World.cell?_alloc_at _ _ _ _ rfl]; rfl
  · rw [hB.cell (p := ⟨w.heap.size, 1, none⟩) hz, World.cell?_alloc_at _ _ _ _ rfl]; rfl
  · rw [hB.frozen (p := ⟨w.heap.size, 0, none⟩) hz, World.frozen?_alloc_at _ _ _ _ rfl]
  · rw [hB.frozen (p := ⟨w.heap.size, 1, none⟩) hz, World.frozen?_alloc_at _ _ _ _ rfl]
def quietB (c : Int) : Prop := (97 ≤ c ∧ c ≤ 99) ∨ c = 32
set_option maxHeartbeats 1000000 in
set_option maxRecDepth 100000 in
theorem links_mid (s : ByteArray) (p E : Nat) (hs : s.size ≤ 300) (hp0 : 0 < p) (hpE : p < E) (hE : E < s.size) (hpre : ∀ k, k < p → quietB (bt s k)) (hsep : bt s (p - 1) = 32) (h104 : bt s p = 104) (hpost : ∀ k, E ≤ k → k < s.size → quietB (bt s k)) (pv : Value)
    (cP : ∀ vb w, w.cell? ⟨vb, 0, none⟩ = some (.string s) → w.cell? ⟨vb, 1, none⟩ = some (.int .i64 0) → Calls Tryz.prog 26 #[pv, .string s, .int .i64 p, .pointer (some ⟨vb, 0, none⟩)] w (AutoSaid s p E w)) (w : World) :
    Calls Tryz.prog 18 #[pv, .string s] w (LinksSaid 3 (It3 (s.extract 0 p) (s.extract p E) (s.extract E s.size)) w) := by
  obtain ⟨i0, hi, hz0, hz1, hz2⟩ := info_parts infoInline
  have hb := get_bt s
  replace hpre := Lib.hid hpre
  replace hpost := Lib.hid hpost
  have x0 : (bt s p == 64) = false := by rw [h104]; rfl
  have x1 : (bt s p == 104) = true := by rw [h104]; rfl
  have x2 : letB (bt s (p - 1)) = false := by rw [hsep]; rfl
  clear h104 hsep
  replace cP := Lib.hid cP
  go_enter Tryz.func18, Tryz.ntmps18
  go_wp2_with fail
  refine wp_scope_once 0 rfl ?_
  go_wp2_with fail
  go_step3
  go_wp2_with fail
  go_loop [1, 6, 7] (fun u o v => ∃ k : Nat, k ≤ p ∧ u = .string s ∧ o = .slice none 0 0 ∧ v = .int .i64 k) (fun _ _ v => s.size - (intOf v).toNat)
  case atStart => exact ⟨0, by omega, rfl, rfl, rfl⟩
  case round =>
    obtain ⟨k, hk, rfl, rfl, rfl⟩ := hrel
    by_cases hlt : k < p
    · have hq := hpre.out k hlt
      unfold quietB at hq
      have y0 : (bt s k == 64) = false := by rw [beq_eq_false_iff_ne]; omega
      have y1 : (bt s k == 104) = false := by rw [beq_eq_false_iff_ne]; omega
      have y2 : (bt s k == 109) = false := by rw [beq_eq_false_iff_ne]; omega
      have y3 : (bt s k == 120) = false := by rw [beq_eq_false_iff_ne]; omega
      have y4 : (bt s k == 119) = false := by rw [beq_eq_false_iff_ne]; omega
      clear hq
      go_wp2_with fail
      go_round
      case rel => exact ⟨k + 1, by omega, rfl, rfl, by go_num⟩
      case measure => simp [intOf]; omega
    · obtain rfl : k = p := by omega
      go_wp2_with (first | (go_at_call 25; refine (isLetter_c _ _).mono ?_; rintro e w1 ⟨rfl, rfl⟩; rw [x2]) | (go_at_call 26; refine (cP.out w.heap.size _ ?_ ?_).mono ?_; (rw [World.cell?_alloc_at _ _ _ _ rfl]; rfl); (rw [World.cell?_alloc_at _ _ _ _ rfl]; rfl); rintro e w1 ⟨lb, rfl, hB, hL⟩; obtain ⟨d0, d1, d2, d3, hvz⟩ := fresh_vd hB; replace hL := Lib.hid hL) | (at_builtin; refine wpList_append_strong rfl (.tmp 100) (.tmp 107) _ rfl w1.heap.size 40 i0 _ 1 16 Tryz.underlying30 hi hz0 hz1 hz2 rfl (by decide) (.slice none 0 0) 0 [] rfl (World.ownsRow_nil _ _ _ _) ⟨w1.heap.size + 1, 0, none⟩ 1 1 (by decide) [.iface 88 (.pointer (some ⟨w1.heap.size, 0, none⟩))] rfl rfl (new_row_at _ _ (by simp) #[.iface 88 (.pointer (some ⟨w1.heap.size, 0, none⟩))] _) (one_iface _ _) (by unfold maxLen; omega) (by omega) (by simp; omega) ?_; intro v2 w2 hown2 hg2 hv2; simp only [Nat.zero_add, List.nil_append] at hown2) | (at_builtin; refine wpList_append_strong rfl (.tmp 109) (.tmp 112) _ rfl w1.heap.size 40 i0 _ 1 16 Tryz.underlying30 hi hz0 hz1 hz2 rfl (by decide) v2 1 [.iface 88 (.pointer (some ⟨w1.heap.size, 0, none⟩))] rfl (hown2.alloc _) ⟨w2.heap.size, 0, none⟩ 1 1 (by decide) [.iface 70 (.pointer (some ⟨lb, 0, none⟩))] rfl rfl (new_row_at _ _ rfl #[.iface 70 (.pointer (some ⟨lb, 0, none⟩))] _) (one_iface _ _) (by unfold maxLen; omega) (by omega) (by have := hg2.size; simp at this ⊢; omega) ?_; intro v3 w3 hown3 hg3 hv3; have hK := two_kept hg2 hown2 hg3) | (go_at_call 24; refine (skipI s w.heap.size E _ _ ?_ ?_ ?_ ?_ ?_ ?_ ?_).mono ?_; (first | omega | (simp; omega)); omega; exact hs; (exact (hK.cell (p := ⟨w.heap.size, 0, none⟩) hvz).trans d0); (exact (hK.cell (p := ⟨w.heap.size, 1, none⟩) hvz).trans d1); (exact (hK.frozen (p := ⟨w.heap.size, 0, none⟩) hvz).trans d2); (exact (hK.frozen (p := ⟨w.heap.size, 1, none⟩) hvz).trans d3); rintro e w4 ⟨rfl, rfl⟩))
      go_step3
      refine ⟨rfl, ?_⟩
      dsimp only
      obtain ⟨hB4, _, hz4, hown4, hit4⟩ := links_mid_facts (x := .string (s.extract E s.size)) (y := .int .i64 (-(E : Int))) (It := It3 (s.extract 0 k) (s.extract k E) (s.extract E s.size)) rfl rfl hB hL.out hg2 hv2 hown2 hg3 hv3 hown3
      generalize (w3.setCell ⟨w.heap.size, 0, none⟩ (.string (s.extract E s.size))).setCell ⟨w.heap.size, 1, none⟩ (.int .i64 (-(E : Int))) = W4 at hB4 hz4 hown4 hit4 ⊢
      have hxz : (s.extract E s.size).size = s.size - E := by rw [size_extract]; omega
      have hxq : ∀ k, k < (s.extract E s.size).size → quietB (bt (s.extract E s.size) k) := fun k hk => by
        rw [bt_extract s (by omega) (Nat.le_refl _)]
        exact hpost.out _ (by omega) (by omega)
      clear hpost hpre cP hK hB hL hg2 hv2 hown2 hg3 hv3 hown3 d0 d1 d2 d3 x0 x1 x2
      obtain ⟨a0, ha0⟩ : ∃ a0, Hid (s.extract 0 k = a0) := ⟨_, rfl⟩
      obtain ⟨u0, hu0⟩ : ∃ u0, Hid (s.extract k E = u0) := ⟨_, rfl⟩
      generalize s.extract E s.size = x at hxz hxq hit4 ⊢
      have hx300 : x.size ≤ 300 := by omega
      replace hxq := Lib.hid hxq
      replace hit4 := Lib.hid hit4
      clear hxz
      obtain ⟨g3, cap3, hv3e, hg3b, _, _⟩ := ownsRow_read hown4 (by omega)
      subst hv3e
      have hql := fun w => Lib.run_eql_slice_nil (P := Tryz.prog) w 30 40 (some ⟨g3, 0, none⟩) 2 cap3 0 0 Tryz.underlying30
      go_wp2_with fail
      go_loop [1, 6, 7] (fun u o v => ∃ m : Nat, m ≤ x.size ∧ u = .string x ∧ o = .slice (some ⟨g3, 0, none⟩) 2 cap3 ∧ v = .int .i64 m) (fun _ _ v => x.size - (intOf v).toNat)
      case atStart => exact ⟨0, by omega, rfl, rfl, rfl⟩
      case round =>
        obtain ⟨m, hm, rfl, rfl, rfl⟩ := hrel
        have hbx := get_bt x
        by_cases hlt : m < x.size
        · have hq := hxq.out m hlt
          unfold quietB at hq
          have y0 : (bt x m == 64) = false := by rw [beq_eq_false_iff_ne]; omega
          have y1 : (bt x m == 104) = false := by rw [beq_eq_false_iff_ne]; omega
          have y2 : (bt x m == 109) = false := by rw [beq_eq_false_iff_ne]; omega
          have y3 : (bt x m == 120) = false := by rw [beq_eq_false_iff_ne]; omega
          have y4 : (bt x m == 119) = false := by rw [beq_eq_false_iff_ne]; omega
          clear hq
          go_wp2_with fail
          go_round
          case rel => exact ⟨m + 1, by omega, rfl, rfl, by go_num⟩
          case measure => simp [intOf]; omega
        · obtain rfl : m = x.size := by omega
          go_wp2_with (at_builtin; refine wpList_append_strong rfl (.tmp 124) (.tmp 129) _ rfl w1.heap.size 40 i0 _ 1 16 Tryz.underlying30 hi hz0 hz1 hz2 rfl (by decide) (.slice (some ⟨g3, 0, none⟩) 2 cap3) 2 [.iface 88 (.pointer (some ⟨w1.heap.size, 0, none⟩)), .iface 70 (.pointer (some ⟨lb, 0, none⟩))] rfl ((hown4.alloc _).alloc _) ⟨W4.heap.size + 1, 0, none⟩ 1 1 (by decide) [.iface 88 (.pointer (some ⟨W4.heap.size, 0, none⟩))] rfl rfl (new_row_at _ _ (by simp) #[.iface 88 (.pointer (some ⟨W4.heap.size, 0, none⟩))] _) (one_iface _ _) (by unfold maxLen; omega) (by omega) (by have := (hown4.lt g3 rfl).1; have := (hown4.lt g3 rfl).2; simp; omega) ?_; intro v5 w5 hown5 hg5 hv5)
          go_ret
          rw [ha0.out, hu0.out]
          rw [ha0.out, hu0.out] at hit4
          exact links_end (k := 2) (by omega) hB4 (by omega) hown4 hit4.out rfl hg5 hv5 hown5 hz4

set_option maxHeartbeats 1000000 in
set_option maxRecDepth 100000 in
theorem links_head (s : ByteArray) (E : Nat) (hs : s.size ≤ 300) (hpE : 0 < E) (hE : E < s.size) (h104 : bt s 0 = 104) (hpost : ∀ k, E ≤ k → k < s.size → quietB (bt s k)) (pv : Value)
    (cP : ∀ vb w, w.cell? ⟨vb, 0, none⟩ = some (.string s) → w.cell? ⟨vb, 1, none⟩ = some (.int .i64 0) → Calls Tryz.prog 26 #[pv, .string s, .int .i64 0, .pointer (some ⟨vb, 0, none⟩)] w (AutoSaid s 0 E w)) (w : World) :
    Calls Tryz.prog 18 #[pv, .string s] w (LinksSaid 2 (It2 (s.extract 0 E) (s.extract E s.size)) w) := by
  obtain ⟨i0, hi, hz0, hz1, hz2⟩ := info_parts infoInline
  have hb := get_bt s
  replace hpost := Lib.hid hpost
  have x0 : (bt s 0 == 64) = false := by rw [h104]; rfl
  have x1 : (bt s 0 == 104) = true := by rw [h104]; rfl
  clear h104
  replace cP := Lib.hid cP
  go_enter Tryz.func18, Tryz.ntmps18
  go_wp2_with fail
  refine wp_scope_once 0 rfl ?_
  go_wp2_with fail
  go_step3
  go_wp2_with fail
  go_loop [1, 6, 7] (fun u o v => u = .string s ∧ o = .slice none 0 0 ∧ v = .int .i64 0) (fun _ _ v => s.size - (intOf v).toNat)
  case atStart => exact ⟨rfl, rfl, rfl⟩
  case round =>
    obtain ⟨rfl, rfl, rfl⟩ := hrel
    · go_wp2_with (first | (go_at_call 26; refine (cP.out w.heap.size _ ?_ ?_).mono ?_; (rw [World.cell?_alloc_at _ _ _ _ rfl]; rfl); (rw [World.cell?_alloc_at _ _ _ _ rfl]; rfl); rintro e w1 ⟨lb, rfl, hB, hL⟩; obtain ⟨d0, d1, d2, d3, hvz⟩ := fresh_vd hB; replace hL := Lib.hid hL) | (at_builtin; refine wpList_append_strong rfl (.tmp 109) (.tmp 112) _ rfl w1.heap.size 40 i0 _ 1 16 Tryz.underlying30 hi hz0 hz1 hz2 rfl (by decide) (.slice none 0 0) 0 [] rfl (World.ownsRow_nil _ _ _ _) ⟨w1.heap.size, 0, none⟩ 1 1 (by decide) [.iface 70 (.pointer (some ⟨lb, 0, none⟩))] rfl rfl (new_row_at _ _ rfl #[.iface 70 (.pointer (some ⟨lb, 0, none⟩))] _) (one_iface _ _) (by unfold maxLen; omega) (by omega) (by simp) ?_; intro v2 w2 hown2 hg2 hv2; simp only [Nat.zero_add, List.nil_append] at hown2; have hK := one_kept hg2) | (go_at_call 24; refine (skipI s w.heap.size E _ _ ?_ ?_ ?_ ?_ ?_ ?_ ?_).mono ?_; (first | omega | (simp; omega)); omega; exact hs; (exact (hK.cell (p := ⟨w.heap.size, 0, none⟩) hvz).trans d0); (exact (hK.cell (p := ⟨w.heap.size, 1, none⟩) hvz).trans d1); (exact (hK.frozen (p := ⟨w.heap.size, 0, none⟩) hvz).trans d2); (exact (hK.frozen (p := ⟨w.heap.size, 1, none⟩) hvz).trans d3); rintro e w4 ⟨rfl, rfl⟩))
      go_step3
      refine ⟨rfl, ?_⟩
      dsimp only
      obtain ⟨hB4, _, hz4, hown4, hit4⟩ := links_head_facts (x := .string (s.extract E s.size)) (y := .int .i64 (-(E : Int))) (It := It2 (s.extract 0 E) (s.extract E s.size)) rfl hB hL.out hg2 hv2 hown2
      generalize (w2.setCell ⟨w.heap.size, 0, none⟩ (.string (s.extract E s.size))).setCell ⟨w.heap.size, 1, none⟩ (.int .i64 (-(E : Int))) = W4 at hB4 hz4 hown4 hit4 ⊢
      have hxz : (s.extract E s.size).size = s.size - E := by rw [size_extract]; omega
      have hxq : ∀ k, k < (s.extract E s.size).size → quietB (bt (s.extract E s.size) k) := fun k hk => by
        rw [bt_extract s (by omega) (Nat.le_refl _)]
        exact hpost.out _ (by omega) (by omega)
      clear hpost cP hK hB hL hg2 hv2 hown2 d0 d1 d2 d3 x0 x1
      obtain ⟨u0, hu0⟩ : ∃ u0, Hid (s.extract 0 E = u0) := ⟨_, rfl⟩
      generalize s.extract E s.size = x at hxz hxq hit4 ⊢
      have hx300 : x.size ≤ 300 := by omega
      replace hxq := Lib.hid hxq
      replace hit4 := Lib.hid hit4
      clear hxz
      obtain ⟨g3, cap3, hv3e, hg3b, _, _⟩ := ownsRow_read hown4 (by omega)
      subst hv3e
      have hql := fun w => Lib.run_eql_slice_nil (P := Tryz.prog) w 30 40 (some ⟨g3, 0, none⟩) 1 cap3 0 0 Tryz.underlying30
      go_wp2_with fail
      go_loop [1, 6, 7] (fun u o v => ∃ m : Nat, m ≤ x.size ∧ u = .string x ∧ o = .slice (some ⟨g3, 0, none⟩) 1 cap3 ∧ v = .int .i64 m) (fun _ _ v => x.size - (intOf v).toNat)
      case atStart => exact ⟨0, by omega, rfl, rfl, rfl⟩
      case round =>
        obtain ⟨m, hm, rfl, rfl, rfl⟩ := hrel
        have hbx := get_bt x
        by_cases hlt : m < x.size
        · have hq := hxq.out m hlt
          unfold quietB at hq
          have y0 : (bt x m == 64) = false := by rw [beq_eq_false_iff_ne]; omega
          have y1 : (bt x m == 104) = false := by rw [beq_eq_false_iff_ne]; omega
          have y2 : (bt x m == 109) = false := by rw [beq_eq_false_iff_ne]; omega
          have y3 : (bt x m == 120) = false := by rw [beq_eq_false_iff_ne]; omega
          have y4 : (bt x m == 119) = false := by rw [beq_eq_false_iff_ne]; omega
          clear hq
          go_wp2_with fail
          go_round
          case rel => exact ⟨m + 1, by omega, rfl, rfl, by go_num⟩
          case measure => simp [intOf]; omega
        · obtain rfl : m = x.size := by omega
          go_wp2_with (at_builtin; refine wpList_append_strong rfl (.tmp 124) (.tmp 129) _ rfl w1.heap.size 40 i0 _ 1 16 Tryz.underlying30 hi hz0 hz1 hz2 rfl (by decide) (.slice (some ⟨g3, 0, none⟩) 1 cap3) 1 [.iface 70 (.pointer (some ⟨lb, 0, none⟩))] rfl ((hown4.alloc _).alloc _) ⟨W4.heap.size + 1, 0, none⟩ 1 1 (by decide) [.iface 88 (.pointer (some ⟨W4.heap.size, 0, none⟩))] rfl rfl (new_row_at _ _ (by simp) #[.iface 88 (.pointer (some ⟨W4.heap.size, 0, none⟩))] _) (one_iface _ _) (by unfold maxLen; omega) (by omega) (by have := (hown4.lt g3 rfl).1; have := (hown4.lt g3 rfl).2; simp; omega) ?_; intro v5 w5 hown5 hg5 hv5)
          go_ret
          rw [hu0.out]
          rw [hu0.out] at hit4
          exact links_end (k := 1) (by omega) hB4 (by omega) hown4 hit4.out rfl hg5 hv5 hown5 hz4
end Go.Proofs.YtfnhikhgkkopfaaGreatDoor.W
