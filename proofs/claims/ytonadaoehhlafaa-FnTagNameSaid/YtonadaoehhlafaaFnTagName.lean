/- FnTagName returns true for every string and every place: the name of a tag is a letter with letters, digits and hyphens behind it. Condition: none beyond what a Go string and an int can be. The frame below is as the kit's shell writes it. -/
import Derived.Test.YtonadaoehhlafaaRows
import Derived.Test.YtonadaoehhlafaaTag
import Derived.WalkKit
import Derived.ProofKit
import Derived.OpenShut
import Derived.ShutString
namespace Go.Proofs.Ytonadaoehhlafaa.fnTagName
open Go.ChangeShapes Go.WideShapes Go.ChangeAt Go.RowKit
open Go.ChangeMaps (open_string shut_string)
open Go.PlainAid W
set_option linter.unusedVariables false

theorem own : ownKnob Try.prog.godebug = none := by kernel_rfl

theorem walk (a0 : ByteArray) (a1 : Int) (w0 : a0.size ≤ maxLen) (w1 : (Lit.int .i64 a1).wf = true) (w : World) :
    Calls Try.prog 7 #[.string a0, .int .i64 a1] w fun e w' => e = .returned (.bool true) ∧ Grown w w' := by
  have hs0 := w0
  have hs := w0
  unfold maxLen at hs
  have hb := get_bt a0
  by_cases h : (decide (0 ≤ a1) && decide (a1 ≤ a0.size) && linedB a0 300) = true
  · have h' := h
    simp only [Bool.and_eq_true, decide_eq_true_eq] at h
    obtain ⟨⟨h0, h1⟩, h2⟩ := h
    obtain ⟨n, rfl⟩ := Int.eq_ofNat_of_zero_le h0
    have hn : n ≤ a0.size := by omega
    have hsz : (a0.size : Int) ≤ 300 := ((linedB_iff a0 300).1 h2).1
    by_cases hy : n < a0.size ∧ letB (bt a0 n) = true
    · obtain ⟨hy1, hy2⟩ := hy
      have hge := runEnd_ge ldhB a0 (n + 1)
      have hle := runEnd_le ldhB a0 (i := n + 1) (by omega)
      go_enter Try.func7, Try.ntmps7
      go_wp2_with (first | (go_at_call 21; refine (inside_c _ _ _ hs0 _).mono ?_; rintro e w1 ⟨rfl, rfl⟩) | (go_at_call 22; refine (tagName_yes_i _ _ hs0 hy1 hy2 _).mono ?_; rintro e w1 ⟨rfl, rfl⟩))
      go_loop [8] (fun j => ∃ k : Nat, n ≤ k ∧ k ≤ a0.size ∧ j = .int .i64 k ∧ Hid (k = n ∨ n < k ∧ runEnd ldhB a0 k = runEnd ldhB a0 (n + 1))) (fun j => a0.size - (intOf j).toNat)
      case atStart => exact ⟨n, by omega, by omega, by go_num, .inl rfl⟩
      case round =>
        obtain ⟨k, hik, hk, rfl, hR⟩ := hrel
        by_cases hgo : k < a0.size ∧ (k = n ∨ ldhB (bt a0 k) = true)
        · obtain ⟨hlt, hgo⟩ := hgo
          have hnext : Hid (k + 1 = n ∨ n < k + 1 ∧ runEnd ldhB a0 (k + 1) = runEnd ldhB a0 (n + 1)) := by
            refine .inr ⟨by omega, ?_⟩
            rcases hgo with e | e
            · rw [e]
            · rcases hR.out with f | ⟨_, f⟩
              · rw [f]
              · rw [runEnd_step hlt e, f]
          by_cases hkn : k = n
          · subst hkn
            clear hgo
            go_wp2_with (first | (go_at_call 14; refine (IsLetter_c _ _).mono ?_; rintro e w1 ⟨rfl, rfl⟩) | (go_at_call 15; refine (IsDigit_c _ _).mono ?_; rintro e w1 ⟨rfl, rfl⟩))
            go_round
            case rel => exact ⟨k + 1, by omega, by omega, by go_num, .inr ⟨by omega, rfl⟩⟩
            case measure => simp [intOf]; omega
          · have hnk : n < k := by omega
            have hc : Hid (ldhB (bt a0 k) = true) := hgo.resolve_left hkn
            clear hgo
            go_wp2_with (first | (go_at_call 14; refine (IsLetter_c _ _).mono ?_; rintro e w1 ⟨rfl, rfl⟩) | (go_at_call 15; refine (IsDigit_c _ _).mono ?_; rintro e w1 ⟨rfl, rfl⟩))
            all_goals first
              | (go_round
                 case rel => exact ⟨k + 1, by omega, by omega, by go_num, hnext⟩
                 case measure => simp [intOf]; omega)
              | (exfalso; have hc := hc.out; simp [ldhB, letB, digB] at *; omega)
        · have hkR : k = runEnd ldhB a0 (n + 1) := by
            rcases hR.out with f | ⟨_, f⟩
            · exact absurd ⟨by omega, .inl f⟩ hgo
            · by_cases hlt : k < a0.size
              · have : ldhB (bt a0 k) = false := by
                  by_cases c : ldhB (bt a0 k) = true
                  · exact absurd ⟨hlt, .inr c⟩ hgo
                  · simpa using c
                rw [← f, runEnd_stop this]
              · rw [← f, runEnd_end (by omega)]
          subst hkR
          have hne : ((runEnd ldhB a0 (n + 1) : Int) == n) = false := by simp; omega
          by_cases hlt : runEnd ldhB a0 (n + 1) < a0.size
          · have hc := runEnd_at (p := ldhB) (by omega) hlt
            have hc1 : letB (bt a0 (runEnd ldhB a0 (n + 1))) = false := by simp [ldhB, letB] at *; omega
            have hc2 : digB (bt a0 (runEnd ldhB a0 (n + 1))) = false := by simp [ldhB, digB] at *; omega
            have hc3 : (bt a0 (runEnd ldhB a0 (n + 1)) == 45) = false := by simp [ldhB] at *; omega
            clear hgo hR hc
            go_wp2_with (first | (go_at_call 14; refine (IsLetter_c _ _).mono ?_; rintro e w1 ⟨rfl, rfl⟩) | (go_at_call 15; refine (IsDigit_c _ _).mono ?_; rintro e w1 ⟨rfl, rfl⟩))
            all_goals (go_ret; exact ⟨rfl, Grown.refl _⟩)
          · clear hgo hR
            go_wp2
            all_goals (go_ret; exact ⟨rfl, Grown.refl _⟩)
    · have hno : a0.size ≤ n ∨ n < a0.size ∧ letB (bt a0 n) = false := by
        by_cases c : n < a0.size
        · refine .inr ⟨c, ?_⟩
          by_cases d : letB (bt a0 n) = true
          · exact absurd ⟨c, d⟩ hy
          · simpa using d
        · exact .inl (by omega)
      have hno' := Lib.hid hno
      clear hy
      rcases hno with hno | ⟨hno, hno1⟩
      all_goals
        go_enter Try.func7, Try.ntmps7
        go_wp2_with (first | (go_at_call 21; refine (inside_c _ _ _ hs0 _).mono ?_; rintro e w1 ⟨rfl, rfl⟩) | (go_at_call 22; refine (tagName_no_i _ _ hs0 hno'.out _).mono ?_; rintro e w1 ⟨rfl, rfl⟩))
        refine Go.wp_loop_rounds 1 ?_
        rw [rounds_succ]
        go_wp2_with (first | (go_at_call 14; refine (IsLetter_c _ _).mono ?_; rintro e w1 ⟨rfl, rfl⟩) | (go_at_call 15; refine (IsDigit_c _ _).mono ?_; rintro e w1 ⟨rfl, rfl⟩))
        go_ret
        exact ⟨rfl, Grown.refl _⟩
  · have h' : (decide (0 ≤ a1) && decide (a1 ≤ a0.size) && linedB a0 300) = false := by simpa using h
    clear h
    go_enter Try.func7, Try.ntmps7
    go_wp2_with (go_at_call 21; refine (inside_c _ _ _ hs0 _).mono ?_; rintro e w1 ⟨rfl, rfl⟩; rw [h'])
    all_goals (go_ret; exact ⟨rfl, Grown.refl _⟩)

set_option maxRecDepth 100000 in
theorem lifted (os : Os) (started : os.Started) (H : Type) (enc : TypeId × Value → H) :
    ReturnsInHanded {} Try.checked os 7 .any (Rows.fnTagNameSpec.pre6 enc Try.prog Try.f7 Rows.fnTagNameRow.domain false) (Rows.fnTagNameSpec.post enc Try.prog Try.f7 false true false false) := by
  refine returnsInHanded_of_change (C := Try.checked) own started (by kernel_rfl) Try.func7
    (ChangeSpec.witness6 (enc := enc) (C := Try.checked) false ⟨#[], #[.string ByteArray.empty, .int .i64 0], []⟩ 8 (by kernel_rfl) (by kernel_rfl) (by kernel_rfl) (by kernel_rfl)) ?_
  intro W base args ds gs before hval0 hW hcnd _
  have hval : ∀ (j : Nat) t v, Try.f7.params[j]? = some t → args[j]? = some v → Value.okWide Try.prog W .any base t v := hval0
  have hW' := hW
  obtain ⟨p, q, hA0, hV, rfl, hfz, hnd⟩ := hW
  have hA : DataW.TrodAll enc Try.prog W 0 (fun _ => true) true Try.f7.params.toList args.toList ds p := hA0
  rw [Try.params7] at hA hval
  obtain ⟨v0, vs0, d0, ds0, p0, q0, hargs, rfl, rfl, h0, r0⟩ := trodAll_cons hA
  obtain ⟨v1, vs1, d1, ds1, p1, q1, rfl, rfl, rfl, h1, r1⟩ := trodAll_cons r0
  obtain ⟨rfl, rfl, rfl⟩ := trodAll_nil r1
  obtain rfl : args = #[v0, v1] := by cases args; simp_all
  obtain ⟨rfl, rfl⟩ := trodVars_none hV
  obtain ⟨a0, rfl, rfl, rfl, w0⟩ := open_string Try.underlying9 (hval 0 9 v0 rfl rfl) h0
  obtain ⟨a1, rfl, rfl, rfl, w1⟩ := open_int Try.underlying3 (hval 1 3 v1 rfl rfl) h1
  clear hA0 hval0
  simp only [List.append_nil] at hW'
  refine (walk a0 a1 w0 w1 W).mono fun e W' ⟨he, hg⟩ => ?_
  subst he
  exact ⟨_, rfl, post_of_same (pa := []) (pv := []) hW' (fun _ _ _ => (trodAll_cons_mk (shut_bool Try.underlying4 _) trodAll_mk0)) (fun sp _ => (trodAll_cons_mk (shut_string Try.underlying9 w0) (trodAll_cons_mk (shut_int Try.underlying3 w1) trodAll_mk0))) (fun _ _ => rfl) rfl
    (hg.frame _) hg.2.1 (ok_one (by kernel_rfl) rfl (okWide_bool_mk Try.underlying4 _))⟩

theorem over : Rows.fnTagNameRow.holds Try.pinned (OpenSpec.ofChange Rows.fnTagNameSpec) :=
  OpenClaim.holds_of_wide 7 Try.f7 rfl rfl rfl rfl rfl rfl rfl ⟨rfl, rfl, rfl, rfl, rfl⟩ rfl rfl rfl rfl rfl (by kernel_rfl) Try.func7 (by kernel_rfl)
    (of_decide_eq_true (by kernel_rfl)) (by unfold Func.isWrapper; first | (rw [if_pos (by decide +kernel)]; kernel_rfl) | (rw [if_neg (by decide +kernel)]; exact ⟨rfl, rfl⟩))
    (fun os started H enc _ => lifted os started H enc)

theorem proved : Rows.FnTagNameSaid :=
  over
#print axioms proved
end Go.Proofs.Ytonadaoehhlafaa.fnTagName
