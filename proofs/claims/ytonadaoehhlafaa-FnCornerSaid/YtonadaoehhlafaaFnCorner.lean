/- FnCorner returns true for every string: a printable address has a corner, if a percent sign of it is not followed by two hexadecimal digits. Condition: none beyond what a Go string can be. The frame below is as the kit's shell writes it. -/
import Derived.Test.YtonadaoehhlafaaRows
import Derived.Test.YtonadaoehhlafaaCorner
import Derived.WalkKit
import Derived.ProofKit
import Derived.OpenShut
import Derived.ShutString
namespace Go.Proofs.Ytonadaoehhlafaa.fnCorner
open Go.ChangeShapes Go.WideShapes Go.ChangeAt Go.RowKit
open Go.ChangeMaps (open_string shut_string)
open Go.PlainAid W
set_option linter.unusedVariables false

theorem own : ownKnob Try.prog.godebug = none := by kernel_rfl

theorem walk (a0 : ByteArray) (w0 : a0.size ≤ maxLen) (w : World) :
    Calls Try.prog 6 #[.string a0] w fun e w' => e = .returned (.bool true) ∧ Grown w w' := by
  have hs0 := w0
  have hb := get_bt a0
  by_cases hsz : (a0.size : Int) ≤ 300
  · have hs1 : a0.size ≤ 2147483647 := by omega
    cases hp : printB a0 300
    · go_enter Try.func6, Try.ntmps6
      go_wp2_with (go_at_call 18; refine (printable_c _ _ hs0 _).mono ?_; rintro e w1 ⟨rfl, rfl⟩)
      all_goals (go_ret; exact ⟨rfl, Grown.refl _⟩)
    · go_enter Try.func6, Try.ntmps6
      go_wp2_with (go_at_call 18; refine (printable_c _ _ hs0 _).mono ?_; rintro e w1 ⟨rfl, rfl⟩)
      go_loop [3, 13] (fun c i => ∃ (k : Nat) (b : Bool), k ≤ a0.size ∧ i = .int .i64 k ∧ c = .bool b ∧ Hid (b = cornerTo a0 k)) (fun _ i => a0.size - (intOf i).toNat)
      case atStart => exact ⟨0, false, Nat.zero_le _, rfl, rfl, rfl⟩
      case round =>
        obtain ⟨k, b, hk, rfl, rfl, hC⟩ := hrel
        by_cases hlt : k < a0.size
        · have hn : ∀ b', b' = (b || badAt a0 k) → Hid (b' = cornerTo a0 (k + 1)) := by
            intro b' e
            show b' = cornerTo a0 (k + 1)
            rw [e, hC.out, cornerTo]
          have hn := Lib.hid hn
          cases b
          · go_wp2_with (go_at_call 19; refine (IsHex_c _ _).mono ?_; rintro e w1 ⟨rfl, rfl⟩)
            all_goals
              go_round
              case rel => exact ⟨k + 1, _, by omega, by go_num, rfl, hn.out _ (by first | (simp_all [badAt]; done) | (simp_all [badAt]; omega))⟩
              case measure => simp [intOf]; omega
          · go_wp2_with (go_at_call 19; refine (IsHex_c _ _).mono ?_; rintro e w1 ⟨rfl, rfl⟩)
            all_goals
              go_round
              case rel => exact ⟨k + 1, _, by omega, by go_num, rfl, hn.out _ rfl⟩
              case measure => simp [intOf]; omega
        · have e : k = a0.size := by omega
          subst e
          have hC' := hC.out
          subst hC'
          go_wp2_with (go_at_call 20; refine (linkCorner_i _ hs1 _).mono ?_; rintro e w1 ⟨rfl, rfl⟩)
          all_goals (go_ret; exact ⟨retBool (by simp), Grown.refl _⟩)
  · have hp : printB a0 300 = false := printB_long (by omega)
    go_enter Try.func6, Try.ntmps6
    go_wp2_with (go_at_call 18; refine (printable_c _ _ hs0 _).mono ?_; rintro e w1 ⟨rfl, rfl⟩)
    all_goals (go_ret; exact ⟨rfl, Grown.refl _⟩)

set_option maxRecDepth 100000 in
theorem lifted (os : Os) (started : os.Started) (H : Type) (enc : TypeId × Value → H) :
    ReturnsInHanded {} Try.checked os 6 .any (Rows.fnCornerSpec.pre6 enc Try.prog Try.f6 Rows.fnCornerRow.domain false) (Rows.fnCornerSpec.post enc Try.prog Try.f6 false true false false) := by
  refine returnsInHanded_of_change (C := Try.checked) own started (by kernel_rfl) Try.func6
    (ChangeSpec.witness6 (enc := enc) (C := Try.checked) false ⟨#[], #[.string ByteArray.empty], []⟩ 8 (by kernel_rfl) (by kernel_rfl) (by kernel_rfl) (by kernel_rfl)) ?_
  intro W base args ds gs before hval0 hW hcnd _
  have hval : ∀ (j : Nat) t v, Try.f6.params[j]? = some t → args[j]? = some v → Value.okWide Try.prog W .any base t v := hval0
  have hW' := hW
  obtain ⟨p, q, hA0, hV, rfl, hfz, hnd⟩ := hW
  have hA : DataW.TrodAll enc Try.prog W 0 (fun _ => true) true Try.f6.params.toList args.toList ds p := hA0
  rw [Try.params6] at hA hval
  obtain ⟨v0, vs0, d0, ds0, p0, q0, hargs, rfl, rfl, h0, r0⟩ := trodAll_cons hA
  obtain ⟨rfl, rfl, rfl⟩ := trodAll_nil r0
  obtain rfl : args = #[v0] := by cases args; simp_all
  obtain ⟨rfl, rfl⟩ := trodVars_none hV
  obtain ⟨a0, rfl, rfl, rfl, w0⟩ := open_string Try.underlying9 (hval 0 9 v0 rfl rfl) h0
  clear hA0 hval0
  simp only [List.append_nil] at hW'
  refine (walk a0 w0 W).mono fun e W' ⟨he, hg⟩ => ?_
  subst he
  exact ⟨_, rfl, post_of_same (pa := []) (pv := []) hW' (fun _ _ _ => (trodAll_cons_mk (shut_bool Try.underlying4 _) trodAll_mk0)) (fun sp _ => (trodAll_cons_mk (shut_string Try.underlying9 w0) trodAll_mk0)) (fun _ _ => rfl) rfl
    (hg.frame _) hg.2.1 (ok_one (by kernel_rfl) rfl (okWide_bool_mk Try.underlying4 _))⟩

theorem over : Rows.fnCornerRow.holds Try.pinned (OpenSpec.ofChange Rows.fnCornerSpec) :=
  OpenClaim.holds_of_wide 6 Try.f6 rfl rfl rfl rfl rfl rfl rfl ⟨rfl, rfl, rfl, rfl, rfl⟩ rfl rfl rfl rfl rfl (by kernel_rfl) Try.func6 (by kernel_rfl)
    (of_decide_eq_true (by kernel_rfl)) (by unfold Func.isWrapper; first | (rw [if_pos (by decide +kernel)]; kernel_rfl) | (rw [if_neg (by decide +kernel)]; exact ⟨rfl, rfl⟩))
    (fun os started H enc _ => lifted os started H enc)

theorem proved : Rows.FnCornerSaid :=
  over
#print axioms proved
end Go.Proofs.Ytonadaoehhlafaa.fnCorner
