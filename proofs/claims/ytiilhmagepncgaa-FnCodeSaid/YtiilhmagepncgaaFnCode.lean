/- FnCode returns true for all strings and every place: a code span that begins at a place is read as the standard says it. Condition: none beyond what Go strings and an int can be. The frame below is as the kit's shell writes it. -/
import Derived.Test.YtiilhmagepncgaaRows
import Derived.Test.YtiilhmagepncgaaCSpan
import Derived.Test.YtiilhmagepncgaaSpanGe
import Derived.WalkKit
import Derived.ProofKit
import Derived.OpenShut
import Derived.ShutString
import Derived.ChangeOld
import Derived.Below
namespace Go.Proofs.Ytiilhmagepncgaa.fnCode
open Go.ChangeShapes Go.WideShapes Go.ChangeAt Go.RowKit
open Go.ChangeMaps (open_string shut_string)
open Go.PlainAid W
set_option linter.unusedVariables false

theorem own : ownKnob Try.prog.godebug = none := by kernel_rfl

set_option maxHeartbeats 4000000 in
set_option maxRecDepth 100000 in
theorem walk (a0 : ByteArray) (a1 : Int) (w0 : a0.size ≤ maxLen) (w1 : (Lit.int .i64 a1).wf = true) (w : World) :
    Calls Try.prog 4 #[.string a0, .int .i64 a1] w fun e w' => e = .returned (.bool true) ∧ Below w.heap.size w w' := by
  have hs0 := w0
  have hb := get_bt a0
  cases hin : (decide (0 ≤ a1) && decide (a1 ≤ a0.size) && linedB a0 200)
  · go_enter Try.func4, Try.ntmps4
    go_wp2_with (first | (go_at_call 6; refine (inside_c _ _ _ hs0 _).mono ?_; rintro e w1 ⟨rfl, rfl⟩; rw [hin]))
    all_goals (go_ret; exact ⟨rfl, Below.refl _ _⟩)
  · have hin' := Lib.hid hin
    simp only [Bool.and_eq_true, decide_eq_true_eq] at hin
    obtain ⟨⟨h0, h1⟩, hl⟩ := hin
    obtain ⟨z200, hl2⟩ := (linedB_iff a0 200).1 hl
    obtain ⟨n, rfl⟩ := Int.eq_ofNat_of_zero_le h0
    have hn : n ≤ a0.size := by omega
    have h9 : Hid (∀ k, k < a0.size → bt a0 k ≠ 9) := fun k hk => by rcases hl2 k hk with h | h <;> omega
    have hz : a0.size ≤ 200 := by omega
    clear hl hl2 z200
    by_cases hend : n = a0.size
    · subst hend
      go_enter Try.func4, Try.ntmps4
      go_wp2_with (first | (go_at_call 6; refine (inside_c _ _ _ hs0 _).mono ?_; rintro e w1 ⟨rfl, rfl⟩; rw [hin'.out]))
      all_goals (go_ret; exact ⟨rfl, Below.refl _ _⟩)
    · have hlt : n < a0.size := by omega
      clear hend
      by_cases h96 : bt a0 n = 96
      · have t1 : (bt a0 n == 96) = true := by simp [h96]
        have hpre : (0 < n ∧ bt a0 (n - 1) = 96) ∨ ((n : Int) ≤ 0 ∧ decide ((0 : Int) < (n : Int)) = false) ∨ (0 < n ∧ bt a0 (n - 1) ≠ 96) := by simp only [decide_eq_false_iff_not]; omega
        obtain ⟨m, hm⟩ : ∃ m, runEnd tickB a0 n = n + m := ⟨runEnd tickB a0 n - n, by have := runEnd_ge tickB a0 n; omega⟩
        have hgt := tick_gt hlt h96
        rw [hm] at hgt
        have hle := runEnd_le tickB a0 hn
        rw [hm] at hle
        have c12 : Hid (∀ w, Calls Try.prog 12 #[.string a0, .int .i64 n, .int .u8 96] w fun e w1 => e = .returned (.int .i64 m) ∧ w = w1) := fun w => by
          have c := runLength_c a0 n (by omega) hn w
          rw [hm, Nat.add_sub_cancel_left] at c
          exact c
        have h96' := Lib.hid h96
        have hm' := Lib.hid hm
        clear h96 hm
        rcases hpre with ⟨hp, hp2⟩ | hpre
        · have t2 : (bt a0 (n - 1) == 96) = true := by simp [hp2]
          clear hp2 c12
          go_enter Try.func4, Try.ntmps4
          go_wp2_with (first | (go_at_call 6; refine (inside_c _ _ _ hs0 _).mono ?_; rintro e w1 ⟨rfl, rfl⟩; rw [hin'.out]))
          all_goals (go_ret; exact ⟨rfl, Below.refl _ _⟩)
        by_cases h80 : 80 < m
        · have t80 : decide ((80 : Int) < (m : Int)) = true := by simp only [decide_eq_true_eq]; omega
          rcases hpre with ⟨hn0, tn0⟩ | ⟨hp, hp2⟩
          · go_enter Try.func4, Try.ntmps4
            go_wp2_with (first | (go_at_call 6; refine (inside_c _ _ _ hs0 _).mono ?_; rintro e w1 ⟨rfl, rfl⟩; rw [hin'.out]) | (go_at_call 12; refine (c12.out _).mono ?_; rintro e w1 ⟨rfl, rfl⟩))
            all_goals (go_ret; exact ⟨rfl, Below.refl _ _⟩)
          · have t2 : (bt a0 (n - 1) == 96) = false := by simp [hp2]
            clear hp2
            go_enter Try.func4, Try.ntmps4
            go_wp2_with (first | (go_at_call 6; refine (inside_c _ _ _ hs0 _).mono ?_; rintro e w1 ⟨rfl, rfl⟩; rw [hin'.out]) | (go_at_call 12; refine (c12.out _).mono ?_; rintro e w1 ⟨rfl, rfl⟩))
            all_goals (go_ret; exact ⟨rfl, Below.refl _ _⟩)
        have h80' : m ≤ 80 := by omega
        have t80 : decide ((80 : Int) < (m : Int)) = false := by simp only [decide_eq_false_iff_not]; omega
        have c14 := fun w => readSpan_c a0 n (by omega) hlt h96'.out w
        rw [hm'.out, Nat.add_sub_cancel_left] at c14
        cases hsp : spanFrom a0 m (n + m) with
        | none =>
          rw [hsp] at c14
          have c13 := Lib.hid (fun w => codeSpan_plain a0 n m (by omega) hlt h96'.out hm'.out h80' h9.out hsp w)
          replace c14 := Lib.hid c14
          clear hsp h80
          rcases hpre with ⟨hn0, tn0⟩ | ⟨hp, hp2⟩
          · go_enter Try.func4, Try.ntmps4
            go_wp2_with (first | (go_at_call 6; refine (inside_c _ _ _ hs0 _).mono ?_; rintro e w1 ⟨rfl, rfl⟩; rw [hin'.out]) | (go_at_call 12; refine (c12.out _).mono ?_; rintro e w1 ⟨rfl, rfl⟩) | (go_at_call 13; refine (c13.out _).mono ?_; rintro e w1 ⟨t, rfl, hB⟩) | (go_at_call 14; refine (c14.out _).mono ?_; rintro e w2 ⟨rfl, rfl⟩))
            go_ret
            exact ⟨by simp, hB.alloc hB.size _⟩
          · have t2 : (bt a0 (n - 1) == 96) = false := by simp [hp2]
            clear hp2
            go_enter Try.func4, Try.ntmps4
            go_wp2_with (first | (go_at_call 6; refine (inside_c _ _ _ hs0 _).mono ?_; rintro e w1 ⟨rfl, rfl⟩; rw [hin'.out]) | (go_at_call 12; refine (c12.out _).mono ?_; rintro e w1 ⟨rfl, rfl⟩) | (go_at_call 13; refine (c13.out _).mono ?_; rintro e w1 ⟨t, rfl, hB⟩) | (go_at_call 14; refine (c14.out _).mono ?_; rintro e w2 ⟨rfl, rfl⟩))
            go_ret
            exact ⟨by simp, hB.alloc hB.size _⟩
        | some p =>
          have hp := spanFrom_ge a0.size (n + m) p (by omega) hsp
          obtain ⟨k, hk⟩ : ∃ k, p + m = n + k := ⟨p + m - n, by omega⟩
          have hk1 : 0 < k := by omega
          rw [hsp] at c14
          have c13 := fun w => codeSpan_code a0 n m (by omega) hlt h96'.out hm'.out h80' h9.out p hsp w
          have hk2 : n + k ≤ 300 := by omega
          dsimp only at c14
          rw [hk, Nat.add_sub_cancel_left] at c14
          rw [hk] at c13
          generalize meantS (a0.extract (n + m) p) = y at c13 c14
          replace c13 := Lib.hid c13
          replace c14 := Lib.hid c14
          clear hsp h80 hk hp
          rcases hpre with ⟨hn0, tn0⟩ | ⟨hp, hp2⟩
          · go_enter Try.func4, Try.ntmps4
            go_wp2_with (first | (go_at_call 6; refine (inside_c _ _ _ hs0 _).mono ?_; rintro e w1 ⟨rfl, rfl⟩; rw [hin'.out]) | (go_at_call 12; refine (c12.out _).mono ?_; rintro e w1 ⟨rfl, rfl⟩) | (go_at_call 13; refine (c13.out _).mono ?_; rintro e w1 ⟨rfl, hB⟩) | (go_at_call 14; refine (c14.out _).mono ?_; rintro e w2 ⟨rfl, rfl⟩))
            go_ret
            exact ⟨by simp, hB.alloc hB.size _⟩
          · have t2 : (bt a0 (n - 1) == 96) = false := by simp [hp2]
            clear hp2
            go_enter Try.func4, Try.ntmps4
            go_wp2_with (first | (go_at_call 6; refine (inside_c _ _ _ hs0 _).mono ?_; rintro e w1 ⟨rfl, rfl⟩; rw [hin'.out]) | (go_at_call 12; refine (c12.out _).mono ?_; rintro e w1 ⟨rfl, rfl⟩) | (go_at_call 13; refine (c13.out _).mono ?_; rintro e w1 ⟨rfl, hB⟩) | (go_at_call 14; refine (c14.out _).mono ?_; rintro e w2 ⟨rfl, rfl⟩))
            go_ret
            exact ⟨by simp, hB.alloc hB.size _⟩
      · have t1 : (bt a0 n == 96) = false := by simp [h96]
        have t9 : (bt a0 n != 96) = true := by simp [h96]
        have tn : ((n : Int) == (a0.size : Int)) = false := by simp only [beq_eq_false_iff_ne]; omega
        go_enter Try.func4, Try.ntmps4
        go_wp2_with (first | (go_at_call 6; refine (inside_c _ _ _ hs0 _).mono ?_; rintro e w1 ⟨rfl, rfl⟩; rw [hin'.out]))
        all_goals (go_ret; exact ⟨rfl, Below.refl _ _⟩)

set_option maxRecDepth 100000 in
theorem lifted (os : Os) (started : os.Started) (H : Type) (enc : TypeId × Value → H) :
    ReturnsInHanded {} Try.checked os 4 .any (Rows.fnCodeSpec.pre6 enc Try.prog Try.f4 Rows.fnCodeRow.domain false) (Rows.fnCodeSpec.post enc Try.prog Try.f4 false true false false) := by
  refine returnsInHanded_of_change (C := Try.checked) own started (by kernel_rfl) Try.func4
    (ChangeSpec.witness6 (enc := enc) (C := Try.checked) false ⟨#[], #[.string ByteArray.empty, .int .i64 0], []⟩ 8 (by kernel_rfl) (by kernel_rfl) (by kernel_rfl) (by kernel_rfl)) ?_
  intro W base args ds gs before hval0 hW hcnd _
  have hval : ∀ (j : Nat) t v, Try.f4.params[j]? = some t → args[j]? = some v → Value.okWide Try.prog W .any base t v := hval0
  have hW' := hW
  obtain ⟨p, q, hA0, hV, rfl, hfz, hnd⟩ := hW
  have hA : DataW.TrodAll enc Try.prog W 0 (fun _ => true) true Try.f4.params.toList args.toList ds p := hA0
  rw [Try.params4] at hA hval
  obtain ⟨v0, vs0, d0, ds0, p0, q0, hargs, rfl, rfl, h0, r0⟩ := trodAll_cons hA
  obtain ⟨v1, vs1, d1, ds1, p1, q1, rfl, rfl, rfl, h1, r1⟩ := trodAll_cons r0
  obtain ⟨rfl, rfl, rfl⟩ := trodAll_nil r1
  obtain rfl : args = #[v0, v1] := by cases args; simp_all
  obtain ⟨rfl, rfl⟩ := trodVars_none hV
  obtain ⟨a0, rfl, rfl, rfl, w0⟩ := open_string Try.underlying9 (hval 0 9 v0 rfl rfl) h0
  obtain ⟨a1, rfl, rfl, rfl, w1⟩ := open_int Try.underlying3 (hval 1 3 v1 rfl rfl) h1
  clear hA0 hval0
  refine (walk a0 a1 w0 w1 W).mono fun e W' ⟨he, hg⟩ => ?_
  subst he
  exact ⟨_, rfl, _, _, _, [], _, [], hW', trodAll_mk1 (shut_bool Try.underlying4 _), (trodAll_cons_mk (shut_string Try.underlying9 w0) (trodAll_cons_mk (shut_int Try.underlying3 w1) trodAll_mk0)), rfl, hg.frame _, fun h => by cases h⟩

theorem over : Rows.fnCodeRow.holds Try.pinned (OpenSpec.ofChange Rows.fnCodeSpec) :=
  OpenClaim.holds_of_wide 4 Try.f4 rfl rfl rfl rfl rfl rfl rfl ⟨rfl, rfl, rfl, rfl, rfl⟩ rfl rfl rfl rfl rfl (by kernel_rfl) Try.func4 (by kernel_rfl)
    (of_decide_eq_true (by kernel_rfl)) (by unfold Func.isWrapper; first | (rw [if_pos (by decide +kernel)]; kernel_rfl) | (rw [if_neg (by decide +kernel)]; exact ⟨rfl, rfl⟩))
    (fun os started H enc _ => lifted os started H enc)

theorem proved : Rows.FnCodeSaid :=
  over
#print axioms proved
end Go.Proofs.Ytiilhmagepncgaa.fnCode
