/- From the row's own condition on the listed table to the cells of its names: the variable htmlEntities holds the twelve pairs. Condition: the row's. -/
import Derived.Test.YthgdgpoblbblpaaGreatDoorEntHtml
import Derived.OpenShut
import Derived.LaidLaws
import Derived.Stop.LaidErr
import Derived.LaidMore
import Derived.Lay
namespace Go.Proofs.YthgdgpoblbblpaaGreatDoor.W
open Go.RowKit Go.PlainAid
set_option linter.unusedVariables false

section
variable {H : Type} {enc : TypeId × Value → H} {P : Program} {w : World} {base : Nat} {sp : Nat → Bool} {held : Bool}
theorem pair_at {fuel : Nat} {e u : TypeId} {cs : List Value} {a b : List UInt8} {x : DataW H × List MemPlace} (he : P.underlying e = some (.array 2 u)) (hu : P.underlying u = some .string) (hcu : P.cellsOf u = 1)
    (h : DataW.trod enc P w base sp held fuel e cs = some x) (hx : x.1 = .agg [.lit (.string a), .lit (.string b)]) : cs[0]? = some (.string ⟨a.toArray⟩) ∧ cs[1]? = some (.string ⟨b.toArray⟩) := by
  obtain ⟨xs, m, _, rfl, _, hl, hi⟩ := DataW.trod_array he h
  have h0 := hi 0 (by omega)
  have h1 := hi 1 (by omega)
  rw [hcu] at h0 h1
  simp only [DataW.agg.injEq] at hx
  match xs, hl with
  | [y0, y1], _ =>
    simp only [List.map_cons, List.map_nil, List.cons.injEq, and_true] at hx
    simp only [List.getElem?_cons_zero, List.getElem?_cons_succ] at h0 h1
    obtain ⟨s0, e0, f0, _⟩ := DataW.trod_string hu h0
    obtain ⟨s1, e1, f1, _⟩ := DataW.trod_string hu h1
    rw [f0, f1] at hx
    simp only [DataW.lit.injEq, Lit.string.injEq] at hx
    obtain ⟨g0, g1⟩ := hx
    subst g0 g1
    constructor
    · have := congrArg (·[0]?) e0
      simpa [List.getElem?_take, List.getElem?_drop] using this
    · have := congrArg (·[0]?) e1
      simpa [List.getElem?_take, List.getElem?_drop] using this
theorem pairs_at {fuel : Nat} {t e u : TypeId} {n : Nat} {cs : List Value} {L : List (List UInt8 × List UInt8)} {p : List MemPlace} (ht : P.underlying t = some (.array n e)) (he : P.underlying e = some (.array 2 u)) (hu : P.underlying u = some .string) (hcu : P.cellsOf u = 1) (hce : P.cellsOf e = 2)
    (h : DataW.trod enc P w base sp held fuel t cs = some (.agg (L.map fun x => .agg [.lit (.string x.1), .lit (.string x.2)]), p)) (i : Nat) (x : List UInt8 × List UInt8) (hx : L[i]? = some x) :
    cs[i * 2]? = some (.string ⟨x.1.toArray⟩) ∧ cs[i * 2 + 1]? = some (.string ⟨x.2.toArray⟩) := by
  obtain ⟨xs, m, _, hxs, _, hl, hi⟩ := DataW.trod_array ht h
  simp only [Prod.mk.injEq, DataW.agg.injEq] at hxs
  have hin : i < n := by
    have h1 : L.length = n := by have := congrArg List.length hxs.1; simp at this; omega
    have h2 := (List.getElem?_eq_some_iff.1 hx).1
    omega
  have hy := hi i hin
  rw [hce] at hy
  have hget : (xs.map (·.1))[i]? = some (.agg [.lit (.string x.1), .lit (.string x.2)]) := by rw [← hxs.1, List.getElem?_map, hx]; rfl
  rw [List.getElem?_map] at hget
  cases hxi : xs[i]? with
  | none => rw [hxi] at hget; cases hget
  | some y =>
    rw [hxi] at hy hget
    simp only [Option.map_some, Option.some.injEq] at hget
    obtain ⟨a, b⟩ := pair_at he hu hcu hy hget
    constructor
    · simpa [List.getElem?_take, List.getElem?_drop] using a
    · simpa [List.getElem?_take, List.getElem?_drop] using b
end
def entL : List (List UInt8 × List UInt8) := (List.range 12).map fun k => ((entN k).data.toList, (entV k).data.toList)
theorem entL_at (k : Nat) (hk : k < 12) : entL[k]? = some ((entN k).data.toList, (entV k).data.toList) := by
  unfold entL
  rw [List.getElem?_map, List.getElem?_range hk]; rfl
theorem entAt_of_laid {W : World} (hL : laidMetH Tryz.prog Rows.fnEntityRow.laid W) : EntAt W := by
  rw [MakeChecks.laidMetH_plain _ _ _ (by kernel_rfl)] at hL
  have h : laidMet Tryz.prog [("pub-paratext/pub/rscmarkdown.htmlEntities", .agg (entL.map fun x => .agg [.lit (.string x.1), .lit (.string x.2)]))] W := by
    have h5 := hL.tail.tail.tail.tail.tail
    exact h5
  obtain ⟨ps, ⟨g', t', cs, fuel, p, q, hg, ht, hvar, hd, _, _⟩, _⟩ := h
  obtain rfl : g' = 0 := Option.some.inj (hg.symm.trans (by kernel_rfl))
  obtain rfl : t' = 107 := Option.some.inj (ht.symm.trans (by kernel_rfl))
  intro k hk
  obtain ⟨a, b⟩ := pairs_at Tryz.underlying107 Tryz.underlying106 Tryz.underlying9 (by kernel_rfl) (by kernel_rfl) hd k _ (entL_at k hk)
  constructor
  · rw [World.var?_cell hg hvar]
    rw [Array.getElem?_toList] at a
    exact a
  · rw [World.var?_cell hg hvar]
    rw [Array.getElem?_toList] at b
    exact b
end Go.Proofs.YthgdgpoblbblpaaGreatDoor.W
