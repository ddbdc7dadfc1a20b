/- FnRunes returns true at every byte: of printable ASCII, tabs and line feeds, punctuation characters of Unicode are those of ASCII, and white space is the space, the tab and the line feed. Condition: none beyond that the argument is a byte. The frame below is as the kit's shell writes it. -/
import Derived.Test.YtonadaoehhlafaaRows
import Derived.Test.YtonadaoehhlafaaRunes
import Derived.WalkKit
import Derived.ProofKit
import Derived.OpenShut
import Derived.ShutString
namespace Go.Proofs.Ytonadaoehhlafaa.fnRunes
open Go.ChangeShapes Go.WideShapes Go.ChangeAt Go.RowKit
open Go.ChangeMaps (open_string shut_string)
open Go.PlainAid W
set_option linter.unusedVariables false

theorem own : ownKnob Try.prog.godebug = none := by kernel_rfl

theorem walk (a0 : Int) (w0 : (Lit.int .u8 a0).wf = true) (w : World) :
    Calls Try.prog 11 #[.int .u8 a0] w fun e w' => e = .returned (.bool true) ∧ Grown w w' := by
  by_cases hin : a0 = 9 ∨ a0 = 10 ∨ 32 ≤ a0 ∧ a0 ≤ 126
  · have b0 : 0 ≤ a0 := by omega
    have b1 : a0 < 128 := by omega
    have hin' := Lib.hid hin
    clear hin
    go_enter Try.func11, Try.ntmps11
    go_wp2_with (first | (go_at_call 31; refine (isUnicodePunct_i _ (by omega) (by omega) _).mono ?_; rintro e w1 ⟨rfl, rfl⟩) | (go_at_call 33; refine (isUnicodeSpace_i _ (by omega) (by omega) _).mono ?_; rintro e w1 ⟨rfl, rfl⟩) | (go_at_call 32; refine (IsPunct_c _ _).mono ?_; rintro e w1 ⟨rfl, rfl⟩))
    all_goals (go_ret; refine ⟨retBool ?_, Grown.refl _⟩; have hin := hin'.out; first | rfl | (simp [uspB] at * <;> first | omega | (rw [Bool.eq_iff_iff]; simp <;> omega)))
  · have b1 : (a0 != 9) = true := by simp; omega
    have b2 : (a0 != 10) = true := by simp; omega
    by_cases c : a0 < 32
    · clear hin
      go_enter Try.func11, Try.ntmps11
      go_wp2_with fail
      all_goals (go_ret; exact ⟨rfl, Grown.refl _⟩)
    · have c' : 126 < a0 := by omega
      clear hin
      go_enter Try.func11, Try.ntmps11
      go_wp2_with fail
      all_goals (go_ret; exact ⟨rfl, Grown.refl _⟩)

set_option maxRecDepth 100000 in
theorem lifted (os : Os) (started : os.Started) (H : Type) (enc : TypeId × Value → H) :
    ReturnsInHanded {} Try.checked os 11 .any (Rows.fnRunesSpec.pre6 enc Try.prog Try.f11 Rows.fnRunesRow.domain false) (Rows.fnRunesSpec.post enc Try.prog Try.f11 false true false false) := by
  refine returnsInHanded_of_change (C := Try.checked) own started (by kernel_rfl) Try.func11
    (ChangeSpec.witness6 (enc := enc) (C := Try.checked) false ⟨#[], #[.int .u8 0], []⟩ 8 (by kernel_rfl) (by kernel_rfl) (by kernel_rfl) (by kernel_rfl)) ?_
  intro W base args ds gs before hval0 hW hcnd _
  have hval : ∀ (j : Nat) t v, Try.f11.params[j]? = some t → args[j]? = some v → Value.okWide Try.prog W .any base t v := hval0
  have hW' := hW
  obtain ⟨p, q, hA0, hV, rfl, hfz, hnd⟩ := hW
  have hA : DataW.TrodAll enc Try.prog W 0 (fun _ => true) true Try.f11.params.toList args.toList ds p := hA0
  rw [Try.params11] at hA hval
  obtain ⟨v0, vs0, d0, ds0, p0, q0, hargs, rfl, rfl, h0, r0⟩ := trodAll_cons hA
  obtain ⟨rfl, rfl, rfl⟩ := trodAll_nil r0
  obtain rfl : args = #[v0] := by cases args; simp_all
  obtain ⟨rfl, rfl⟩ := trodVars_none hV
  obtain ⟨a0, rfl, rfl, rfl, w0⟩ := open_int Try.underlying5 (hval 0 5 v0 rfl rfl) h0
  clear hA0 hval0
  simp only [List.append_nil] at hW'
  refine (walk a0 w0 W).mono fun e W' ⟨he, hg⟩ => ?_
  subst he
  exact ⟨_, rfl, post_of_same (pa := []) (pv := []) hW' (fun _ _ _ => (trodAll_cons_mk (shut_bool Try.underlying4 _) trodAll_mk0)) (fun sp _ => (trodAll_cons_mk (shut_int Try.underlying5 w0) trodAll_mk0)) (fun _ _ => rfl) rfl
    (hg.frame _) hg.2.1 (ok_one (by kernel_rfl) rfl (okWide_bool_mk Try.underlying4 _))⟩

theorem over : Rows.fnRunesRow.holds Try.pinned (OpenSpec.ofChange Rows.fnRunesSpec) :=
  OpenClaim.holds_of_wide 11 Try.f11 rfl rfl rfl rfl rfl rfl rfl ⟨rfl, rfl, rfl, rfl, rfl⟩ rfl rfl rfl rfl rfl (by kernel_rfl) Try.func11 (by kernel_rfl)
    (of_decide_eq_true (by kernel_rfl)) (by unfold Func.isWrapper; first | (rw [if_pos (by decide +kernel)]; kernel_rfl) | (rw [if_neg (by decide +kernel)]; exact ⟨rfl, rfl⟩))
    (fun os started H enc _ => lifted os started H enc)

theorem proved : Rows.FnRunesSaid :=
  over
#print axioms proved
end Go.Proofs.Ytonadaoehhlafaa.fnRunes
