/- One element more of a row, where the element lies anywhere but in the row itself; rows and items over a write elsewhere. No walk. No conditions. -/
import Derived.Test.YtfnhikhgkkopfaaGreatDoorWr
namespace Go.Proofs.YtfnhikhgkkopfaaGreatDoor.W
open Go.RowKit Go.PlainAid
set_option linter.unusedVariables false

/-- as elem_step, of an element that lies anywhere but in the slice's own row -/
theorem elem_step2 {sz : Nat} {R : World → Nat → Nat → List Value → Item → Prop} (hR : ∀ {w w' lo hi cs it}, R w lo hi cs it → (∀ b, lo ≤ b → b < hi → w'.heap[b]? = w.heap[b]?) → R w' lo hi cs it)
    {base k lo hi : Nat} {e : TypeId} {wr w2 : World} {v v' : Value} {xs cs : List Value} {It : Nat → Item} {o : Obj} (hown : wr.ownsRow base e sz v k xs) (hit : ∀ j, j < k → ElemOK sz R wr v xs j (It j))
    (hN : R wr lo hi cs (It k)) (hhi : hi ≤ wr.heap.size) (hdis : ∀ r, v.ownBlock = some r → r < lo ∨ hi ≤ r) (hcs : cs.length = sz) (hg : (wr.alloc o).grownBy w2 v.ownBlock)
    (hv : v'.ownBlock = v.ownBlock ∨ v'.ownBlock = some (wr.alloc o).heap.size) : ∀ j, j < k + 1 → ElemOK sz R w2 v' (xs ++ cs) j (It j) := fun j hj => by
  have hz0 : (wr.alloc o).heap.size = wr.heap.size + 1 := by simp
  have hz2 := hg.size
  have hl := hown.1
  have old : ∀ b, b < wr.heap.size → (wr.alloc o).heap[b]? = wr.heap[b]? := fun b hb => by
    show (wr.heap.push o)[b]? = _
    rw [Array.getElem?_push_lt hb, Array.getElem?_eq_getElem hb]
  have both : ∀ {lo hi : Nat} {cs' : List Value} {it : Item}, R wr lo hi cs' it → hi ≤ wr.heap.size → (∀ r, v.ownBlock = some r → r < lo ∨ hi ≤ r) → R w2 lo hi cs' it ∧ hi ≤ w2.heap.size ∧ (∀ r, v'.ownBlock = some r → r < lo ∨ hi ≤ r) := fun h1 h2 h3 => by
    refine ⟨hR h1 fun b h4 h5 => ?_, by omega, fun r hr => ?_⟩
    · rw [hg.block b (by omega) (fun h => by have := h3 b h.symm; omega), old b (by omega)]
    · rcases hv with h | h
      · exact h3 r (h.symm.trans hr)
      · rw [h] at hr
        simp only [Option.some.injEq] at hr
        exact .inr (by omega)
  by_cases e : j = k
  · subst e
    obtain ⟨a, b, c⟩ := both hN hhi hdis
    refine ⟨lo, hi, cs, hcs, a, b, c, fun t ht => ?_⟩
    rw [List.getElem?_append_right (by omega), hl, Nat.add_sub_cancel_left]
  · obtain ⟨lo', hi', cs', a, b, c, d, f⟩ := hit j (by omega)
    obtain ⟨b', c', d'⟩ := both b c d
    refine ⟨lo', hi', cs', a, b', c', d', fun t ht => ?_⟩
    have hjk : j * sz + sz ≤ k * sz := by
      rw [← Nat.succ_mul]
      exact Nat.mul_le_mul_right _ (by omega)
    rw [List.getElem?_append_left (by omega)]
    exact f t ht
theorem heapSet (w : World) (b o k : Nat) (u : Value) (h : k ≠ b) : (w.setCell ⟨b, o, none⟩ u).heap[k]? = w.heap[k]? := by
  simp [World.setCell, Array.getElem?_modify, Ne.symm h]
end Go.Proofs.YtfnhikhgkkopfaaGreatDoor.W
