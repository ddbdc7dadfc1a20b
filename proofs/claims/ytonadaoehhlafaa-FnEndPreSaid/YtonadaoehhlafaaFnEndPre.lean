/- FnEndPre returns true for every string: a line of up to 2,000 bytes, in which no tag begins within an open one, ends a block of HTML that began with pre, script, style or textarea, just if one of their closing tags stands in it, in letters of any case. Condition: none beyond what a Go string can be. The frame below is as the kit's shell writes it. -/
import Derived.Test.YtonadaoehhlafaaRows
import Derived.Test.YtonadaoehhlafaaEndPre
import Derived.WalkKit
import Derived.ProofKit
import Derived.OpenShut
import Derived.ShutString
import Derived.ChangeOld
import Derived.Below
namespace Go.Proofs.Ytonadaoehhlafaa.fnEndPre
open Go.ChangeShapes Go.WideShapes Go.ChangeAt Go.RowKit
open Go.ChangeMaps (open_string shut_string)
open Go.PlainAid W
set_option linter.unusedVariables false

theorem own : ownKnob Try.prog.godebug = none := by kernel_rfl

theorem walk (a0 : ByteArray) (w0 : a0.size ≤ maxLen) (w : World) :
    Calls Try.prog 8 #[.string a0] w fun e w' => e = .returned (.bool true) ∧ Below w.heap.size w w' := by
  by_cases h1 : 2000 < a0.size
  · go_enter Try.func8, Try.ntmps8
    go_wp2
    all_goals (go_ret; exact ⟨rfl, Below.refl _ _⟩)
  · have h2 : a0.size ≤ 2000 := by omega
    have h3 : a0.size ≤ 2147483647 := by omega
    cases ha : apartB a0
    · go_enter Try.func8, Try.ntmps8
      go_wp2_with (go_at_call 23; refine (tagsApart_c a0 h3 _).mono ?_; rintro e w1 ⟨rfl, rfl⟩)
      all_goals (go_ret; exact ⟨rfl, Below.refl _ _⟩)
    · have hA : Hid (ApartTo a0 a0.size) := (apartB_iff a0).1 ha
      go_enter Try.func8, Try.ntmps8
      go_wp2_with (first | (go_at_call 23; refine (tagsApart_c a0 h3 _).mono ?_; rintro e w1 ⟨rfl, rfl⟩) | (go_at_call 24; refine (hasEndPre_i a0 h2 hA.out _).mono ?_; rintro e w1 ⟨rfl, hB1⟩) | (go_at_call 25; refine (htmlEnds_c a0 h2 _).mono ?_; rintro e w2 ⟨rfl, hB2⟩))
      all_goals (go_ret; exact ⟨retBool (by simp), hB1.trans (hB2.mono hB1.size)⟩)

set_option maxRecDepth 100000 in
theorem lifted (os : Os) (started : os.Started) (H : Type) (enc : TypeId × Value → H) :
    ReturnsInHanded {} Try.checked os 8 .any (Rows.fnEndPreSpec.pre6 enc Try.prog Try.f8 Rows.fnEndPreRow.domain false) (Rows.fnEndPreSpec.post enc Try.prog Try.f8 false true false false) := by
  refine returnsInHanded_of_change (C := Try.checked) own started (by kernel_rfl) Try.func8
    (ChangeSpec.witness6 (enc := enc) (C := Try.checked) false ⟨#[], #[.string ByteArray.empty], []⟩ 8 (by kernel_rfl) (by kernel_rfl) (by kernel_rfl) (by kernel_rfl)) ?_
  intro W base args ds gs before hval0 hW hcnd _
  have hval : ∀ (j : Nat) t v, Try.f8.params[j]? = some t → args[j]? = some v → Value.okWide Try.prog W .any base t v := hval0
  have hW' := hW
  obtain ⟨p, q, hA0, hV, rfl, hfz, hnd⟩ := hW
  have hA : DataW.TrodAll enc Try.prog W 0 (fun _ => true) true Try.f8.params.toList args.toList ds p := hA0
  rw [Try.params8] at hA hval
  obtain ⟨v0, vs0, d0, ds0, p0, q0, hargs, rfl, rfl, h0, r0⟩ := trodAll_cons hA
  obtain ⟨rfl, rfl, rfl⟩ := trodAll_nil r0
  obtain rfl : args = #[v0] := by cases args; simp_all
  obtain ⟨rfl, rfl⟩ := trodVars_none hV
  obtain ⟨a0, rfl, rfl, rfl, w0⟩ := open_string Try.underlying9 (hval 0 9 v0 rfl rfl) h0
  clear hA0 hval0
  refine (walk a0 w0 W).mono fun e W' ⟨he, hg⟩ => ?_
  subst he
  exact ⟨_, rfl, _, _, _, [], _, [], hW', trodAll_mk1 (shut_bool Try.underlying4 _), (trodAll_cons_mk (shut_string Try.underlying9 w0) trodAll_mk0), rfl, hg.frame _, fun h => by cases h⟩

theorem over : Rows.fnEndPreRow.holds Try.pinned (OpenSpec.ofChange Rows.fnEndPreSpec) :=
  OpenClaim.holds_of_wide 8 Try.f8 rfl rfl rfl rfl rfl rfl rfl ⟨rfl, rfl, rfl, rfl, rfl⟩ rfl rfl rfl rfl rfl (by kernel_rfl) Try.func8 (by kernel_rfl)
    (of_decide_eq_true (by kernel_rfl)) (by unfold Func.isWrapper; first | (rw [if_pos (by decide +kernel)]; kernel_rfl) | (rw [if_neg (by decide +kernel)]; exact ⟨rfl, rfl⟩))
    (fun os started H enc _ => lifted os started H enc)

theorem proved : Rows.FnEndPreSaid :=
  over
#print axioms proved
end Go.Proofs.Ytonadaoehhlafaa.fnEndPre
