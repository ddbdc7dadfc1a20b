/- FnDashes returns true for all strings and both flags: of hyphens alone two are an en dash, three an em dash. Condition: none beyond what Go strings can be. The frame below is as the kit's shell writes it. -/
import Derived.Test.YteoflbljbmpkdaaRows
import Derived.Test.YteoflbljbmpkdaaDash
import Derived.Test.YteoflbljbmpkdaaDashIn
import Derived.WalkKit
import Derived.ProofKit
import Derived.OpenShut
import Derived.ShutString
import Derived.ChangeOld
import Derived.Below
namespace Go.Proofs.Yteoflbljbmpkdaa.fnDashes
open Go.ChangeShapes Go.WideShapes Go.ChangeAt Go.RowKit
open Go.ChangeMaps (open_string shut_string)
open Go.PlainAid W
set_option linter.unusedVariables false

theorem own : ownKnob Try.prog.godebug = none := by kernel_rfl

set_option maxHeartbeats 4000000 in
set_option maxRecDepth 100000 in
theorem walk (a0 : ByteArray) (a1 : Bool) (a2 : ByteArray) (w0 : a0.size ≤ maxLen) (w2 : a2.size ≤ maxLen) (w : World) :
    Calls Try.prog 4 #[.string a0, .bool a1, .string a2] w fun e w' => e = .returned (.bool true) ∧ Below w.heap.size w w' := by
  cases h0 : onlyB a0 ⟨#[97, 98, 32]⟩ 20
  · replace h0 := Lib.hid h0
    go_enter Try.func4, Try.ntmps4
    go_wp2_with (first | (go_at_call 9; refine (only_c a0 _ _ w0 _).mono ?_; rintro e w1 ⟨rfl, rfl⟩; rw [h0.out]))
    all_goals (go_ret; exact ⟨rfl, Below.refl _ _⟩)
  cases h2 : onlyB a2 ⟨#[97, 98, 32]⟩ 20
  · replace h0 := Lib.hid h0
    replace h2 := Lib.hid h2
    go_enter Try.func4, Try.ntmps4
    go_wp2_with (first | (go_at_call 9; refine (only_c _ _ _ (by assumption) _).mono ?_; rintro e w1 ⟨rfl, rfl⟩; first | rw [h0.out] | rw [h2.out]))
    all_goals (go_ret; exact ⟨rfl, Below.refl _ _⟩)
  obtain ⟨z0, _⟩ := (onlyB_iff _ _ _).1 h0
  obtain ⟨z2, t2⟩ := (onlyB_iff _ _ _).1 h2
  have n0 : a0.size ≤ 20 := by omega
  have n2 : a2.size ≤ 20 := by omega
  clear z0 z2
  replace h0 := Lib.hid h0
  replace h2 := Lib.hid h2
  cases a1
  · have c := fun w => implDash2 (a0 ++ ⟨#[45, 45]⟩ ++ a2) a0.size (by simp only [size_app]; show a0.size + 2 + a2.size ≤ 300; omega) (by simp only [size_app]; show a0.size + 2 ≤ a0.size + 2 + a2.size; omega) (dash_in2 a0 a2) (dash_no2 a0 a2 t2) w
    replace c := Lib.hid c
    clear t2
    go_enter Try.func4, Try.ntmps4
    go_wp2_with (first | (go_at_call 9; refine (only_c _ _ _ (by assumption) _).mono ?_; rintro e w1 ⟨rfl, rfl⟩; first | rw [h0.out] | rw [h2.out]) | (go_at_call 10; refine (c.out _).mono ?_; rintro e w1 ⟨rfl, hB⟩))
    go_ret
    exact ⟨by simp, hB.alloc hB.size _⟩
  · have c := fun w => implDash3 (a0 ++ ⟨#[45, 45, 45]⟩ ++ a2) a0.size (by simp only [size_app]; show a0.size + 3 + a2.size ≤ 300; omega) (by simp only [size_app]; show a0.size + 3 ≤ a0.size + 3 + a2.size; omega) (dash_in3 a0 a2) (dash_no3 a0 a2 t2) w
    replace c := Lib.hid c
    clear t2
    go_enter Try.func4, Try.ntmps4
    go_wp2_with (first | (go_at_call 9; refine (only_c _ _ _ (by assumption) _).mono ?_; rintro e w1 ⟨rfl, rfl⟩; first | rw [h0.out] | rw [h2.out]) | (go_at_call 10; refine (c.out _).mono ?_; rintro e w1 ⟨rfl, hB⟩))
    go_ret
    exact ⟨by simp, hB.alloc hB.size _⟩

set_option maxRecDepth 100000 in
theorem lifted (os : Os) (started : os.Started) (H : Type) (enc : TypeId × Value → H) :
    ReturnsInHanded {} Try.checked os 4 .any (Rows.fnDashesSpec.pre6 enc Try.prog Try.f4 Rows.fnDashesRow.domain false) (Rows.fnDashesSpec.post enc Try.prog Try.f4 false true false false) := by
  refine returnsInHanded_of_change (C := Try.checked) own started (by kernel_rfl) Try.func4
    (ChangeSpec.witness6 (enc := enc) (C := Try.checked) false ⟨#[], #[.string ByteArray.empty, .bool false, .string ByteArray.empty], []⟩ 8 (by kernel_rfl) (by kernel_rfl) (by kernel_rfl) (by kernel_rfl)) ?_
  intro W base args ds gs before hval0 hW hcnd _
  have hval : ∀ (j : Nat) t v, Try.f4.params[j]? = some t → args[j]? = some v → Value.okWide Try.prog W .any base t v := hval0
  have hW' := hW
  obtain ⟨p, q, hA0, hV, rfl, hfz, hnd⟩ := hW
  have hA : DataW.TrodAll enc Try.prog W 0 (fun _ => true) true Try.f4.params.toList args.toList ds p := hA0
  rw [Try.params4] at hA hval
  obtain ⟨v0, vs0, d0, ds0, p0, q0, hargs, rfl, rfl, h0, r0⟩ := trodAll_cons hA
  obtain ⟨v1, vs1, d1, ds1, p1, q1, rfl, rfl, rfl, h1, r1⟩ := trodAll_cons r0
  obtain ⟨v2, vs2, d2, ds2, p2, q2, rfl, rfl, rfl, h2, r2⟩ := trodAll_cons r1
  obtain ⟨rfl, rfl, rfl⟩ := trodAll_nil r2
  obtain rfl : args = #[v0, v1, v2] := by cases args; simp_all
  obtain ⟨rfl, rfl⟩ := trodVars_none hV
  obtain ⟨a0, rfl, rfl, rfl, w0⟩ := open_string Try.underlying9 (hval 0 9 v0 rfl rfl) h0
  obtain ⟨a1, rfl, rfl, rfl⟩ := open_bool Try.underlying4 (hval 1 4 v1 rfl rfl) h1
  obtain ⟨a2, rfl, rfl, rfl, w2⟩ := open_string Try.underlying9 (hval 2 9 v2 rfl rfl) h2
  clear hA0 hval0
  refine (walk a0 a1 a2 w0 w2 W).mono fun e W' ⟨he, hg⟩ => ?_
  subst he
  exact ⟨_, rfl, _, _, _, [], _, [], hW', trodAll_mk1 (shut_bool Try.underlying4 _), (trodAll_cons_mk (shut_string Try.underlying9 w0) (trodAll_cons_mk (shut_bool Try.underlying4 _) (trodAll_cons_mk (shut_string Try.underlying9 w2) trodAll_mk0))), rfl, hg.frame _, fun h => by cases h⟩

theorem over : Rows.fnDashesRow.holds Try.pinned (OpenSpec.ofChange Rows.fnDashesSpec) :=
  OpenClaim.holds_of_wide 4 Try.f4 rfl rfl rfl rfl rfl rfl rfl ⟨rfl, rfl, rfl, rfl, rfl⟩ rfl rfl rfl rfl rfl (by kernel_rfl) Try.func4 (by kernel_rfl)
    (of_decide_eq_true (by kernel_rfl)) (by unfold Func.isWrapper; first | (rw [if_pos (by decide +kernel)]; kernel_rfl) | (rw [if_neg (by decide +kernel)]; exact ⟨rfl, rfl⟩))
    (fun os started H enc _ => lifted os started H enc)

theorem proved : Rows.FnDashesSaid :=
  over
#print axioms proved
end Go.Proofs.Yteoflbljbmpkdaa.fnDashes
