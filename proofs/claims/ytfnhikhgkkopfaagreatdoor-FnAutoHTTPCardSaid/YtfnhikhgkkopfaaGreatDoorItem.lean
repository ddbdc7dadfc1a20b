/- What a list of inlines is: plain texts and links to themselves; as inlines in memory and as Nodes; and how such facts outlive later writes. No walk. No conditions. -/
import Derived.Test.YtfnhikhgkkopfaaGreatDoorRow
import Derived.Test.YtfnhikhgkkopfaaGreatDoorRows
import Derived.Deep.Draws
namespace Go.Proofs.YtfnhikhgkkopfaaGreatDoor.W
open Go.RowKit
set_option linter.unusedVariables false

inductive Item where
  | plain (t : ByteArray)
  | link (u : ByteArray)
def nodeP (t : ByteArray) : Array Value := #[.int .i64 20, .string t, .string ⟨#[]⟩, .int .i64 0, .string ⟨#[]⟩, .bool false, .slice none 0 0, .slice none 0 0, .int .i64 0, .int .i64 0, .string ⟨#[]⟩, .int .i64 0, .bool false, .bool false, .bool false, .slice none 0 0]
def nodeL (u : ByteArray) (nb cap : Nat) : Array Value := #[.int .i64 27, .string u, .string ⟨#[]⟩, .int .i64 0, .string ⟨#[]⟩, .bool false, .slice none 0 0, .slice (some ⟨nb, 0, none⟩) 1 cap, .int .i64 0, .int .i64 0, .string ⟨#[]⟩, .int .i64 0, .bool false, .bool false, .bool false, .slice none 0 0]
/-- cs are a Node's cells, and what it names lies in the blocks from lo on, below hi -/
def NodeOf (w : World) (lo hi : Nat) (cs : Array Value) : Item → Prop
  | .plain t => cs = nodeP t
  | .link u => ∃ nb cap, lo ≤ nb ∧ nb < hi ∧ cs = nodeL u nb cap ∧ ∀ k, k < 16 → w.cell? ⟨nb, k, none⟩ = (nodeP u)[k]?
/-- v is an inline, and what it names lies in the blocks from lo on, below hi -/
def InlAt (w : World) (lo hi : Nat) (v : Value) : Item → Prop
  | .plain t => ∃ b, lo ≤ b ∧ b < hi ∧ v = .iface 88 (.pointer (some ⟨b, 0, none⟩)) ∧ w.cell? ⟨b, 0, none⟩ = some (.string t)
  | .link u => ∃ lb ib pb cap, lo ≤ lb ∧ lb < hi ∧ lo ≤ ib ∧ ib < hi ∧ lo ≤ pb ∧ pb < hi ∧ v = .iface 70 (.pointer (some ⟨lb, 0, none⟩)) ∧
      w.cell? ⟨lb, 0, none⟩ = some (.slice (some ⟨ib, 0, none⟩) 1 cap) ∧ w.cell? ⟨lb, 1, none⟩ = some (.string u) ∧ w.cell? ⟨lb, 2, none⟩ = some (.string ⟨#[]⟩) ∧ w.cell? ⟨lb, 3, none⟩ = some (.int .u8 0) ∧
      w.cell? ⟨ib, 0, none⟩ = some (.iface 88 (.pointer (some ⟨pb, 0, none⟩))) ∧ w.cell? ⟨pb, 0, none⟩ = some (.string u)
theorem cellSame {w w' : World} {b o : Nat} (h : w'.heap[b]? = w.heap[b]?) : w'.cell? ⟨b, o, none⟩ = w.cell? ⟨b, o, none⟩ := World.cell?_of_block (a := ⟨b, o, none⟩) h
theorem NodeOf.keep {w w' : World} {lo hi : Nat} {cs : Array Value} {it : Item} (h : NodeOf w lo hi cs it) (hk : ∀ b, lo ≤ b → b < hi → w'.heap[b]? = w.heap[b]?) : NodeOf w' lo hi cs it := by
  cases it with
  | plain t => exact h
  | link u =>
    obtain ⟨nb, cap, h1, h2, h3, h4⟩ := h
    exact ⟨nb, cap, h1, h2, h3, fun k hk2 => (cellSame (hk nb h1 h2)).trans (h4 k hk2)⟩
theorem NodeOf.wide {w : World} {lo hi lo' hi' : Nat} {cs : Array Value} {it : Item} (h : NodeOf w lo hi cs it) (h1 : lo' ≤ lo) (h2 : hi ≤ hi') : NodeOf w lo' hi' cs it := by
  cases it with
  | plain t => exact h
  | link u =>
    obtain ⟨nb, cap, a, b, c, d⟩ := h
    exact ⟨nb, cap, by omega, by omega, c, d⟩
theorem NodeOf.size {w : World} {lo hi : Nat} {cs : Array Value} {it : Item} (h : NodeOf w lo hi cs it) : cs.size = 16 := by
  cases it with
  | plain t => rw [show cs = nodeP t from h]; rfl
  | link u =>
    obtain ⟨nb, cap, _, _, c, _⟩ := h
    rw [c]; rfl
theorem InlAt.keep {w w' : World} {lo hi : Nat} {v : Value} {it : Item} (h : InlAt w lo hi v it) (hk : ∀ b, lo ≤ b → b < hi → w'.heap[b]? = w.heap[b]?) : InlAt w' lo hi v it := by
  cases it with
  | plain t =>
    obtain ⟨b, h1, h2, h3, h4⟩ := h
    exact ⟨b, h1, h2, h3, (cellSame (hk b h1 h2)).trans h4⟩
  | link u =>
    obtain ⟨lb, ib, pb, cap, a1, a2, b1, b2, c1, c2, hv, d0, d1, d2, d3, d4, d5⟩ := h
    exact ⟨lb, ib, pb, cap, a1, a2, b1, b2, c1, c2, hv, (cellSame (hk lb a1 a2)).trans d0, (cellSame (hk lb a1 a2)).trans d1, (cellSame (hk lb a1 a2)).trans d2, (cellSame (hk lb a1 a2)).trans d3, (cellSame (hk ib b1 b2)).trans d4, (cellSame (hk pb c1 c2)).trans d5⟩
theorem InlAt.wide {w : World} {lo hi lo' hi' : Nat} {v : Value} {it : Item} (h : InlAt w lo hi v it) (h1 : lo' ≤ lo) (h2 : hi ≤ hi') : InlAt w lo' hi' v it := by
  cases it with
  | plain t =>
    obtain ⟨b, a1, a2, a3, a4⟩ := h
    exact ⟨b, by omega, by omega, a3, a4⟩
  | link u =>
    obtain ⟨lb, ib, pb, cap, a1, a2, b1, b2, c1, c2, hv, r⟩ := h
    exact ⟨lb, ib, pb, cap, by omega, by omega, by omega, by omega, by omega, by omega, hv, r⟩
theorem InlAt.below {w w' : World} {lo hi B : Nat} {v : Value} {it : Item} (h : InlAt w lo hi v it) (hB : Below B w w') (hh : hi ≤ B) : InlAt w' lo hi v it :=
  h.keep fun b _ h2 => hB.block b (by omega)
theorem NodeOf.below {w w' : World} {lo hi B : Nat} {cs : Array Value} {it : Item} (h : NodeOf w lo hi cs it) (hB : Below B w w') (hh : hi ≤ B) : NodeOf w' lo hi cs it :=
  h.keep fun b _ h2 => hB.block b (by omega)

/-! ### one element more -/
/-- the element j of the slice v, whose row holds xs, is told by R in some blocks that v's row does not meet -/
def ElemOK (sz : Nat) (R : World → Nat → Nat → List Value → Item → Prop) (w : World) (v : Value) (xs : List Value) (j : Nat) (it : Item) : Prop :=
  ∃ lo hi cs, cs.length = sz ∧ R w lo hi cs it ∧ hi ≤ w.heap.size ∧ (∀ r, v.ownBlock = some r → r < lo ∨ hi ≤ r) ∧ ∀ t, t < sz → xs[j * sz + t]? = cs[t]?
theorem elem_step {sz : Nat} {R : World → Nat → Nat → List Value → Item → Prop} (hR : ∀ {w w' lo hi cs it}, R w lo hi cs it → (∀ b, lo ≤ b → b < hi → w'.heap[b]? = w.heap[b]?) → R w' lo hi cs it)
    {base k : Nat} {e : TypeId} {wr w1 w2 : World} {v v' : Value} {xs cs : List Value} {It : Nat → Item} {o : Obj} (hown : wr.ownsRow base e sz v k xs) (hit : ∀ j, j < k → ElemOK sz R wr v xs j (It j))
    (hB : Below wr.heap.size wr w1) (hN : R w1 wr.heap.size w1.heap.size cs (It k)) (hcs : cs.length = sz) (hg : (w1.alloc o).grownBy w2 v.ownBlock)
    (hv : v'.ownBlock = v.ownBlock ∨ v'.ownBlock = some (w1.alloc o).heap.size) : ∀ j, j < k + 1 → ElemOK sz R w2 v' (xs ++ cs) j (It j) := fun j hj => by
  have hz1 := hB.size
  have hz0 : (w1.alloc o).heap.size = w1.heap.size + 1 := by simp
  have hz2 := hg.size
  have hlt := hown.lt
  have hl := hown.1
  have old : ∀ b, b < w1.heap.size → (w1.alloc o).heap[b]? = w1.heap[b]? := fun b hb => by
    show (w1.heap.push o)[b]? = _
    rw [Array.getElem?_push_lt hb, Array.getElem?_eq_getElem hb]
  by_cases e : j = k
  · subst e
    refine ⟨wr.heap.size, w1.heap.size, cs, hcs, hR hN fun b h1 h2 => ?_, by omega, fun r hr => ?_, fun t ht => ?_⟩
    · rw [hg.block b (by omega) (fun h => by have := hlt b h.symm; omega), old b h2]
    · rcases hv with h | h
      · exact .inl (hlt r (h.symm.trans hr)).2
      · rw [h] at hr
        simp only [Option.some.injEq] at hr
        exact .inr (by omega)
    · rw [List.getElem?_append_right (by omega), hl, Nat.add_sub_cancel_left]
  · obtain ⟨lo, hi, cs', a, b, c, d, f⟩ := hit j (by omega)
    refine ⟨lo, hi, cs', a, hR b fun q h1 h2 => ?_, by omega, fun r hr => ?_, fun t ht => ?_⟩
    · rw [hg.block q (by omega) (fun h => by have := d q h.symm; omega), old q (by omega), hB.block q (by omega)]
    · rcases hv with h | h
      · exact d r (h.symm.trans hr)
      · rw [h] at hr
        simp only [Option.some.injEq] at hr
        exact .inr (by omega)
    · have hjk : j * sz + sz ≤ k * sz := by
        rw [← Nat.succ_mul]
        exact Nat.mul_le_mul_right _ (by omega)
      rw [List.getElem?_append_left (by omega)]
      exact f t ht
theorem ownsRow_below {base e sz n B : Nat} {w w' : World} {v : Value} {xs : List Value} (h : w.ownsRow base e sz v n xs) (hw : Below B w w') (hv : ∀ k, v.ownBlock = some k → k < B) : w'.ownsRow base e sz v n xs := by
  refine ⟨h.1, ?_⟩
  rcases h.2 with h2 | ⟨g, cap, cur, rfl, hb, hg, r⟩
  · exact .inl h2
  · exact .inr ⟨g, cap, cur, rfl, hb, by rw [hw.block g (hv g rfl)]; exact hg, r⟩
/-- what is owned is read: the slice's head, and its cells -/
theorem ownsRow_read {base e sz n : Nat} {w : World} {v : Value} {xs : List Value} (h : w.ownsRow base e sz v n xs) (hn : 0 < n) : ∃ g cap, v = .slice (some ⟨g, 0, none⟩) n cap ∧ base ≤ g ∧ g < w.heap.size ∧ ∀ t, t < n * sz → w.cell? ⟨g, t, none⟩ = xs[t]? := by
  rcases h.2 with ⟨_, h2⟩ | ⟨g, cap, cur, rfl, hb, hg, r⟩
  · omega
  · refine ⟨g, cap, rfl, hb, (h.lt g rfl).2, fun t ht => ?_⟩
    have hlt : t < xs.length := by rw [h.1]; exact ht
    have := h.cells (g := g) rfl t xs[t] (List.getElem?_eq_getElem hlt)
    rw [List.getElem?_eq_getElem hlt]
    have e : (⟨g, 0, none⟩ : Addr).add t = ⟨g, t, none⟩ := by unfold Addr.add; split <;> simp_all
    rw [← e]; exact this
end Go.Proofs.YtfnhikhgkkopfaaGreatDoor.W
