/- The state that a parser begins with, and ZZCodeSpan over it. Condition: as parseSpan_c states. -/
import Derived.Test.YtiilhmagepncgaaCodeSpan
import Derived.Carry
namespace Go.Proofs.Ytiilhmagepncgaa.W
open Go.RowKit Go.PlainAid
set_option linter.unusedVariables false
def zeroB (o : Option Value) : Bool := match o with | some (.int .i64 0) => true | _ => false
theorem zeroB_eq {o : Option Value} (h : zeroB o = true) : o = some (.int .i64 0) := by
  unfold zeroB at h
  split at h
  · rfl
  · cases h
theorem zeroAt (j : Nat) (hj : j < 80) : Try.zeroCells66[12 + j]? = some (.int .i64 0) := by
  have h : (List.range 80).all (fun j => zeroB Try.zeroCells66[12 + j]?) = true := by kernel_rfl
  exact zeroB_eq (List.all_eq_true.1 h j (List.mem_range.2 hj))

set_option maxRecDepth 100000 in
theorem zzState_c (w : World) :
    Calls Try.prog 28 #[] w fun e w1 => ∃ b, e = .returned (.pointer (some ⟨b, 0, none⟩)) ∧ Below w.heap.size w w1 ∧ w.heap.size ≤ b ∧ Ticks w1 b 12 := by
  have hmm := @run_makeMap Try.prog
  go_enter Try.func28, Try.ntmps28
  go_wp2
  go_ret
  refine ⟨_, rfl, ?_, ?_, ?_⟩
  · go_grown
  · show w.heap.size ≤ w.heap.size + 1 + 1
    omega
  · refine ⟨by simp, fun j hj => ⟨0, ?_⟩, ?_, fun j hj => ?_⟩
    · rw [World.cell?_alloc_at _ _ _ _ (by simp)]
      show ((Try.zeroCells66.setIfInBounds 0 _).setIfInBounds 2 _)[12 + j]? = _
      rw [Array.getElem?_setIfInBounds_ne (by omega), Array.getElem?_setIfInBounds_ne (by omega)]
      exact zeroAt j hj
    · rw [World.cell?_alloc_at _ _ _ _ (by simp)]
      show ((Try.zeroCells66.setIfInBounds 0 _).setIfInBounds 2 _)[12 + 80]? = _
      rw [Array.getElem?_setIfInBounds_ne (by omega), Array.getElem?_setIfInBounds_ne (by omega)]
      kernel_rfl
    · rw [World.frozen?_alloc_at _ _ _ _ (by simp)]
end Go.Proofs.Ytiilhmagepncgaa.W
