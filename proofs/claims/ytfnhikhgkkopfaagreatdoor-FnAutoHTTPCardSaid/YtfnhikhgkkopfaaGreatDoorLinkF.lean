/- What three appends to a list of inlines leave behind, as facts on worlds: a text ahead, the link, the text behind it; and the same without a text ahead. No walk. No conditions. -/
import Derived.Test.YtfnhikhgkkopfaaGreatDoorItem2
import Derived.Test.YtfnhikhgkkopfaaGreatDoorUrl
namespace Go.Proofs.YtfnhikhgkkopfaaGreatDoor.W
open Go.RowKit Go.PlainAid
set_option linter.unusedVariables false

theorem new_row_at (w : World) (g : Nat) (hg : g = w.heap.size) (arr : Array Value) (t : TypeId) : ∀ j u, arr.toList[j]? = some u → (w.alloc (.cells arr t)).cell? ((⟨g, 0, none⟩ : Addr).add j) = some u := by
  subst hg; exact new_row w arr t
/-- the call's own slice of n inlines, as a result -/
def LinksSaid (n : Nat) (It : Nat → Item) (w : World) (e : Ending) (w1 : World) : Prop := ∃ g cap, e = .returned (.slice (some ⟨g, 0, none⟩) n cap) ∧ Below w.heap.size w w1 ∧ g < w1.heap.size ∧ InlsAt w1 g n 0 w1.heap.size It
theorem ownsRow_mono {base base' e sz n : Nat} {w : World} {v : Value} {xs : List Value} (h : w.ownsRow base e sz v n xs) (hb : base' ≤ base) : w.ownsRow base' e sz v n xs := by
  refine ⟨h.1, ?_⟩
  rcases h.2 with h2 | ⟨g, cap, cur, rfl, hb2, hg, r⟩
  · exact .inl h2
  · exact .inr ⟨g, cap, cur, rfl, by omega, hg, r⟩
theorem ElemOK.keep {base : Nat} {w w' : World} {v : Value} {xs : List Value} {j : Nat} {it : Item} (h : ElemOK 1 (InlR base) w v xs j it) (hk : ∀ b, base ≤ b → b < w.heap.size → w'.heap[b]? = w.heap[b]?) (hs : w.heap.size ≤ w'.heap.size) : ElemOK 1 (InlR base) w' v xs j it := by
  obtain ⟨lo, hi, cs, a, ⟨hb, x, hx, b⟩, c, d, f⟩ := h
  exact ⟨lo, hi, cs, a, ⟨hb, x, hx, b.keep fun q h1 h2 => hk q (by omega) (by omega)⟩, by omega, d, f⟩
/-- one inline more: what is appended lies in blocks of its own, from lo on, below hi -/
theorem BuiltI.more {base ob k lo hi : Nat} {wr w2 : World} {v v' u : Value} {xs : List Value} {It : Nat → Item} {o : Obj} (hown : wr.ownsRow ob 40 1 v k xs) (hit : ∀ j, j < k → ElemOK 1 (InlR base) wr v xs j (It j))
    (hN : InlAt wr lo hi u (It k)) (hlo : base ≤ lo) (hhi : hi ≤ wr.heap.size) (hdis : ∀ r, v.ownBlock = some r → r < lo ∨ hi ≤ r) (hg : (wr.alloc o).grownBy w2 v.ownBlock) (hv : v'.ownBlock = v.ownBlock ∨ v'.ownBlock = some (wr.alloc o).heap.size) :
    ∀ j, j < k + 1 → ElemOK 1 (InlR base) w2 v' (xs ++ [u]) j (It j) :=
  elem_step2 (R := InlR base) (fun ⟨hb, x, h, h1⟩ hk => ⟨hb, x, h, h1.keep hk⟩) hown hit ⟨hlo, u, rfl, hN⟩ hhi hdis rfl hg hv
theorem plain_new (w : World) (t : ByteArray) (T : TypeId) : InlAt (w.alloc (.cells #[.string t] T)) w.heap.size (w.heap.size + 1) (.iface 88 (.pointer (some ⟨w.heap.size, 0, none⟩))) (.plain t) :=
  ⟨w.heap.size, Nat.le_refl _, by omega, rfl, by rw [World.cell?_alloc_at _ _ _ _ rfl]; rfl⟩
theorem heap_old (w : World) (o : Obj) {b : Nat} (h : b < w.heap.size) : (w.alloc o).heap[b]? = w.heap[b]? := by
  show (w.heap.push o)[b]? = _
  rw [Array.getElem?_push_lt h, Array.getElem?_eq_getElem h]

/-- the text behind the link, appended to a list of k inlines -/
theorem links_end {w W4 w5 : World} {v3 v5 : Value} {xs : List Value} {k b0 : Nat} {It : Nat → Item} {t : ByteArray} {T : TypeId} {o : Obj} (hk : 0 < k) (h4 : Below w.heap.size w W4) (hb0 : w.heap.size ≤ b0) (hown4 : W4.ownsRow b0 40 1 v3 k xs) (hit : ∀ j, j < k → ElemOK 1 (InlR (w.heap.size + 1)) W4 v3 xs j (It j)) (hIt : It k = .plain t)
    (hg : ((W4.alloc (.cells #[.string t] T)).alloc o).grownBy w5 v3.ownBlock) (hv : v5.ownBlock = v3.ownBlock ∨ v5.ownBlock = some ((W4.alloc (.cells #[.string t] T)).alloc o).heap.size)
    (hown5 : w5.ownsRow b0 40 1 v5 (k + 1) (xs ++ [.iface 88 (.pointer (some ⟨W4.heap.size, 0, none⟩))])) (hz : w.heap.size < W4.heap.size) : LinksSaid (k + 1) It w (.returned v5) w5 := by
  have hs : (W4.alloc (.cells #[.string t] T)).heap.size = W4.heap.size + 1 := by simp
  have hit1 : ∀ j, j < k → ElemOK 1 (InlR (w.heap.size + 1)) (W4.alloc (.cells #[.string t] T)) v3 xs j (It j) := fun j hj => (hit j hj).keep (fun b _ h2 => heap_old W4 _ h2) (by omega)
  have hown1 := hown4.alloc (.cells #[.string t] T)
  have hit2 := BuiltI.more (base := w.heap.size + 1) hown1 hit1 (by rw [hIt]; exact plain_new W4 t T) (by omega) (by omega) (fun r hr => .inl (hown4.lt r hr).2) hg hv
  obtain ⟨g, cap, hv5, h1, h2, h3⟩ := BuiltI.read (base := 0) (n := k + 1) (w := w5) (v := v5) (It := It) ⟨_, ownsRow_mono hown5 (Nat.zero_le _), fun j hj => by
    obtain ⟨lo, hi, cs, a, ⟨_, x⟩, c⟩ := hit2 j hj
    exact ⟨lo, hi, cs, a, ⟨Nat.zero_le _, x⟩, c⟩⟩ (by omega)
  refine ⟨g, cap, by rw [hv5], ?_, h2, h3⟩
  have hB := ((h4.alloc (by omega) (.cells #[.string t] T)).alloc (by omega) o).grown hg (by simp; omega) (fun r hr => by have := (hown4.lt r hr).1; omega)
  exact hB
theorem setTwo {w3 : World} {vb o1 o2 : Nat} {x y : Value} : (∀ b, b ≠ vb → ((w3.setCell ⟨vb, o1, none⟩ x).setCell ⟨vb, o2, none⟩ y).heap[b]? = w3.heap[b]?) ∧ ((w3.setCell ⟨vb, o1, none⟩ x).setCell ⟨vb, o2, none⟩ y).heap.size = w3.heap.size := by
  refine ⟨fun b hb => ?_, by simp⟩
  rw [heapSet _ _ _ _ _ hb, heapSet _ _ _ _ _ hb]
/-- the text ahead and the link, appended; then the checker's two cells written -/
theorem links_mid_facts {w w1 w2 w3 : World} {V O1 O2 : Obj} {v2 v3 L x y : Value} {u t : ByteArray} {T : TypeId} {It : Nat → Item} (h0 : It 0 = .plain t) (h1 : It 1 = .link u) (hB : Below (w.alloc V).heap.size (w.alloc V) w1) (hL : InlAt w1 (w.alloc V).heap.size w1.heap.size L (.link u))
    (hg2 : ((w1.alloc (.cells #[.string t] T)).alloc O1).grownBy w2 none) (hv2 : v2.ownBlock = none ∨ v2.ownBlock = some ((w1.alloc (.cells #[.string t] T)).alloc O1).heap.size) (hown2 : w2.ownsRow w1.heap.size 40 1 v2 1 [.iface 88 (.pointer (some ⟨w1.heap.size, 0, none⟩))])
    (hg3 : (w2.alloc O2).grownBy w3 v2.ownBlock) (hv3 : v3.ownBlock = v2.ownBlock ∨ v3.ownBlock = some (w2.alloc O2).heap.size) (hown3 : w3.ownsRow w1.heap.size 40 1 v3 2 ([.iface 88 (.pointer (some ⟨w1.heap.size, 0, none⟩))] ++ [L])) :
    let W4 := (w3.setCell ⟨w.heap.size, 0, none⟩ x).setCell ⟨w.heap.size, 1, none⟩ y
    Below w.heap.size w W4 ∧ w.heap.size < w1.heap.size ∧ w.heap.size < W4.heap.size ∧ W4.ownsRow w1.heap.size 40 1 v3 2 ([.iface 88 (.pointer (some ⟨w1.heap.size, 0, none⟩))] ++ [L]) ∧
      ∀ j, j < 2 → ElemOK 1 (InlR (w.heap.size + 1)) W4 v3 ([.iface 88 (.pointer (some ⟨w1.heap.size, 0, none⟩))] ++ [L]) j (It j) := by
  have hVz : (w.alloc V).heap.size = w.heap.size + 1 := by simp
  have hz1 := hB.size
  have hp : (w1.alloc (.cells #[.string t] T)).heap.size = w1.heap.size + 1 := by simp
  have hz2 := hg2.size
  have hz3 := hg3.size
  simp only [World.size_alloc] at hz2 hz3
  have s1 := BuiltI.more (base := w.heap.size + 1) (It := It) (u := .iface 88 (.pointer (some ⟨w1.heap.size, 0, none⟩))) (v := .slice none 0 0) (v' := v2) (World.ownsRow_nil (w1.alloc (.cells #[.string t] T)) w1.heap.size 40 1) (fun j hj => by omega) (by rw [h0]; exact plain_new w1 t T) (by omega) (by omega) (fun r hr => by cases hr) hg2 hv2
  have hL2 : InlAt w2 (w.alloc V).heap.size w1.heap.size L (.link u) := hL.keep fun b _ hb => by
    rw [hg2.block b (by simp; omega) (fun h => by cases h), heap_old _ _ (by omega), heap_old _ _ hb]
  have s2 := BuiltI.more (base := w.heap.size + 1) (It := It) (u := L) (v := v2) (v' := v3) hown2 s1 (by rw [h1]; exact hL2) (by omega) (by omega) (fun r hr => .inr (hown2.lt r hr).1) hg3 hv3
  have hBw : Below w.heap.size w w3 := by
    have a := (((Below.refl w.heap.size w).alloc (Nat.le_refl _) V).trans (hB.mono (by omega)))
    have b := ((a.alloc (by omega) (.cells #[.string t] T)).alloc (by simp; omega) O1).grown hg2 (by simp; omega) (fun r hr => by cases hr)
    exact (b.alloc (by omega) O2).grown hg3 (by simp; omega) (fun r hr => by have := (hown2.lt r hr).1; omega)
  obtain ⟨k1, k2⟩ := @setTwo w3 w.heap.size 0 1 x y
  refine ⟨(hBw.setCell (Nat.le_refl _) x).setCell (Nat.le_refl _) y, by omega, by omega, ownsRow_setCell_below (ownsRow_setCell_below hown3 (by show w.heap.size < _; omega) x) (by show w.heap.size < _; omega) y, fun j hj => (s2 j hj).keep (fun b hb _ => k1 b (by omega)) (by omega)⟩
/-- the link alone, appended; then the checker's two cells written -/
theorem links_head_facts {w w1 w2 : World} {V O1 : Obj} {v2 L x y : Value} {u : ByteArray} {It : Nat → Item} (h0 : It 0 = .link u) (hB : Below (w.alloc V).heap.size (w.alloc V) w1) (hL : InlAt w1 (w.alloc V).heap.size w1.heap.size L (.link u))
    (hg2 : (w1.alloc O1).grownBy w2 none) (hv2 : v2.ownBlock = none ∨ v2.ownBlock = some (w1.alloc O1).heap.size) (hown2 : w2.ownsRow w1.heap.size 40 1 v2 1 [L]) :
    let W4 := (w2.setCell ⟨w.heap.size, 0, none⟩ x).setCell ⟨w.heap.size, 1, none⟩ y
    Below w.heap.size w W4 ∧ w.heap.size < w1.heap.size ∧ w.heap.size < W4.heap.size ∧ W4.ownsRow w1.heap.size 40 1 v2 1 [L] ∧
      ∀ j, j < 1 → ElemOK 1 (InlR (w.heap.size + 1)) W4 v2 [L] j (It j) := by
  have hVz : (w.alloc V).heap.size = w.heap.size + 1 := by simp
  have hz1 := hB.size
  have hz2 := hg2.size
  simp only [World.size_alloc] at hz2
  have s1 := BuiltI.more (base := w.heap.size + 1) (It := It) (u := L) (v := .slice none 0 0) (v' := v2) (World.ownsRow_nil w1 w1.heap.size 40 1) (fun j hj => by omega) (by rw [h0]; exact hL) (by omega) (by omega) (fun r hr => by cases hr) hg2 hv2
  have hBw : Below w.heap.size w w2 := by
    have a := (((Below.refl w.heap.size w).alloc (Nat.le_refl _) V).trans (hB.mono (by omega)))
    exact (a.alloc (by omega) O1).grown hg2 (by simp; omega) (fun r hr => by cases hr)
  obtain ⟨k1, k2⟩ := @setTwo w2 w.heap.size 0 1 x y
  refine ⟨(hBw.setCell (Nat.le_refl _) x).setCell (Nat.le_refl _) y, by omega, by omega, ownsRow_setCell_below (ownsRow_setCell_below hown2 (by show w.heap.size < _; omega) x) (by show w.heap.size < _; omega) y, fun j hj => (s1 j hj).keep (fun b hb _ => k1 b (by omega)) (by omega)⟩
theorem one_kept {w1 w2 : World} {A : Obj} (hg2 : (w1.alloc A).grownBy w2 none) : Below w1.heap.size w1 w2 :=
  ((Below.refl w1.heap.size w1).alloc (Nat.le_refl _) A).grown hg2 (by simp) (fun k h => by cases h)
def It3 (a u b : ByteArray) : Nat → Item
  | 0 => .plain a
  | 1 => .link u
  | _ => .plain b
def It2 (u b : ByteArray) : Nat → Item
  | 0 => .link u
  | _ => .plain b
end Go.Proofs.YtfnhikhgkkopfaaGreatDoor.W
