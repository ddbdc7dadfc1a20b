/- FnMarker returns true for all strings and every place: what begins with a text ends with the first other text behind it. Condition: none beyond what Go strings and an int can be. The frame below is as the kit's shell writes it. -/
import Derived.Test.YtiilhmagepncgaaRows
import Derived.Test.YtiilhmagepncgaaMarker2
import Derived.WalkKit
import Derived.ProofKit
import Derived.OpenShut
import Derived.ShutString
import Derived.ChangeOld
import Derived.Below
namespace Go.Proofs.Ytiilhmagepncgaa.fnMarker
open Go.ChangeShapes Go.WideShapes Go.ChangeAt Go.RowKit
open Go.ChangeMaps (open_string shut_string)
open Go.PlainAid W
set_option linter.unusedVariables false

theorem own : ownKnob Try.prog.godebug = none := by kernel_rfl

set_option maxHeartbeats 4000000 in
set_option maxRecDepth 100000 in
theorem walk (a0 : ByteArray) (a1 : Int) (a2 : ByteArray) (a3 : ByteArray) (w0 : a0.size ≤ maxLen) (w1 : (Lit.int .i64 a1).wf = true) (w2 : a2.size ≤ maxLen) (w3 : a3.size ≤ maxLen) (w : World) :
    Calls Try.prog 3 #[.string a0, .int .i64 a1, .string a2, .string a3] w fun e w' => e = .returned (.bool true) ∧ Below w.heap.size w w' := by
  have hs0 := w0
  have hp0 := w2
  have hf0 := w3
  by_cases hz : a0.size ≤ 300 ∧ a2.size ≤ 10 ∧ a3.size ≤ 10
  · obtain ⟨z0, z2, z3⟩ := hz
    cases hin : (decide (0 ≤ a1) && decide (a1 ≤ a0.size) && linedB a0 300)
    · go_enter Try.func3, Try.ntmps3
      go_wp2_with (first | (go_at_call 6; refine (inside_c _ _ _ hs0 _).mono ?_; rintro e w1 ⟨rfl, rfl⟩; rw [hin]))
      all_goals (go_ret; exact ⟨rfl, Below.refl _ _⟩)
    · have hin' := Lib.hid hin
      simp only [Bool.and_eq_true, decide_eq_true_eq] at hin
      obtain ⟨⟨h0, h1⟩, _⟩ := hin
      obtain ⟨n, rfl⟩ := Int.eq_ofNat_of_zero_le h0
      have hn : n ≤ a0.size := by omega
      have zx : Hid ((a0.extract n a0.size).size ≤ 2147483647) := by show (a0.extract n a0.size).size ≤ 2147483647; rw [size_extract]; omega
      by_cases hh : AtS a0 a2 n
      · have hx : Hid (AtS (a0.extract n a0.size) a2 0) := (atS_tail hn).2 hh
        have hz1 := hh.1
        by_cases e3 : a3.size = 0
        · have e3' : a3 = ByteArray.empty := str_ext (by rw [e3]; rfl) (fun k hk => by omega)
          subst e3'
          clear hh
          go_enter Try.func3, Try.ntmps3
          go_wp2_with (first | (go_at_call 6; refine (inside_c _ _ _ hs0 _).mono ?_; rintro e w1 ⟨rfl, rfl⟩; rw [hin'.out]) | (go_at_call 7; refine (printable_c _ _ (by assumption) _).mono ?_; rintro e w1 ⟨rfl, rfl⟩) | (go_at_call 8; refine (headed_yes _ _ zx.out (by omega) hx.out _).mono ?_; rintro e w1 ⟨rfl, rfl⟩))
          all_goals (go_ret; exact ⟨rfl, Below.refl _ _⟩)
        rcases atS_first a0 a3 (n + a2.size) with hno | ⟨o, ho1, ho2, ho3⟩
        · have hu2 : Hid (∀ j, a2.size ≤ j → ¬ AtS (a0.extract n a0.size) a3 j) := fun j hj1 hat => hno (n + j) (by omega) ((atS_tail hn).1 hat)
          replace hno := Lib.hid hno
          replace hh := Lib.hid hh
          go_enter Try.func3, Try.ntmps3
          go_wp2_with (first | (go_at_call 6; refine (inside_c _ _ _ hs0 _).mono ?_; rintro e w1 ⟨rfl, rfl⟩; rw [hin'.out]) | (go_at_call 7; refine (printable_c _ _ (by assumption) _).mono ?_; rintro e w1 ⟨rfl, rfl⟩) | (go_at_call 8; refine (headed_yes _ _ zx.out (by omega) hx.out _).mono ?_; rintro e w1 ⟨rfl, rfl⟩) | (go_at_call 9; refine (marker_no_i _ _ _ n z0 z2 z3 hh.out hno.out _).mono ?_; rintro e w1 ⟨rfl, hB⟩))
          all_goals (try (go_ret; exact ⟨rfl, Below.refl _ _⟩))
          refine region_tail 11 (by kernel_rfl) (by kernel_rfl) ?_
          simp only [List.take_succ_cons, List.take_zero, List.drop_succ_cons, List.drop_zero]
          repeat still_step
          still_call ((until_no_U _ _ _ zx.out (by omega) (by omega) hx.out hu2.out _).mono fun _ _ ⟨he, hw⟩ => ⟨he, hw.symm⟩)
          refine wpStill_nil ?_
          go_wp2_with (go_at_call 10; refine (read_no a0 n _).mono ?_; rintro e w3 ⟨rfl, hB3⟩)
          go_ret
          exact ⟨rfl, (hB.trans (((Below.refl _ _).alloc hB.size _).drew)).trans (hB3.mono (by have := hB.size; simp; omega))⟩
        · replace ho2 := Lib.hid ho2
          replace ho3 := Lib.hid ho3
          replace hh := Lib.hid hh
          go_enter Try.func3, Try.ntmps3
          go_wp2_with (first | (go_at_call 6; refine (inside_c _ _ _ hs0 _).mono ?_; rintro e w1 ⟨rfl, rfl⟩; rw [hin'.out]) | (go_at_call 7; refine (printable_c _ _ (by assumption) _).mono ?_; rintro e w1 ⟨rfl, rfl⟩) | (go_at_call 8; refine (headed_yes _ _ zx.out (by omega) hx.out _).mono ?_; rintro e w1 ⟨rfl, rfl⟩) | (go_at_call 9; refine (marker_yes_i _ _ _ n o z0 z2 z3 hh.out ho1 ho2.out ho3.out _).mono ?_; rintro e w1 ⟨rfl, hB⟩))
          all_goals (try (go_ret; exact ⟨rfl, Below.refl _ _⟩))
          have hu1 : Hid (AtS (a0.extract n a0.size) a3 (o - n)) := (atS_tail hn).2 (by rw [show n + (o - n) = o from by omega]; exact ho2.out)
          have hu2 : Hid (∀ j, a2.size ≤ j → j < o - n → ¬ AtS (a0.extract n a0.size) a3 j) := fun j hj1 hj2 hat => ho3.out (n + j) (by omega) (by omega) ((atS_tail hn).1 hat)
          have ho4 := ho2.out.1
          refine region_tail 11 (by kernel_rfl) (by kernel_rfl) ?_
          simp only [List.take_succ_cons, List.take_zero, List.drop_succ_cons, List.drop_zero]
          repeat still_step
          still_call ((until_yes_U _ _ _ (o - n) zx.out (by omega) (by omega) hx.out (by omega) hu1.out hu2.out _).mono fun _ _ ⟨he, hw⟩ => ⟨he, hw.symm⟩)
          refine wpStill_nil ?_
          go_wp2_with (go_at_call 10; refine (read_gen a0 n (o + a3.size) (o - n + a3.size) _ _ z0 (by omega) (by omega) (by omega) (by omega) (by omega) _).mono ?_; rintro e w3 ⟨rfl, hB3⟩)
          go_ret
          exact ⟨rfl, (hB.trans (((Below.refl _ _).alloc hB.size _).drew)).trans (hB3.mono (by have := hB.size; simp; omega))⟩
      · have hx : Hid (¬ AtS (a0.extract n a0.size) a2 0) := fun h => hh ((atS_tail hn).1 h)
        clear hh
        go_enter Try.func3, Try.ntmps3
        go_wp2_with (first | (go_at_call 6; refine (inside_c _ _ _ hs0 _).mono ?_; rintro e w1 ⟨rfl, rfl⟩; rw [hin'.out]) | (go_at_call 7; refine (printable_c _ _ (by assumption) _).mono ?_; rintro e w1 ⟨rfl, rfl⟩) | (go_at_call 8; refine (headed_no _ _ zx.out (by omega) hx.out _).mono ?_; rintro e w1 ⟨rfl, rfl⟩))
        all_goals (go_ret; exact ⟨rfl, Below.refl _ _⟩)
  · cases hin : (decide (0 ≤ a1) && decide (a1 ≤ a0.size) && linedB a0 300)
    · go_enter Try.func3, Try.ntmps3
      go_wp2_with (first | (go_at_call 6; refine (inside_c _ _ _ hs0 _).mono ?_; rintro e w1 ⟨rfl, rfl⟩; rw [hin]))
      all_goals (go_ret; exact ⟨rfl, Below.refl _ _⟩)
    · have z0 : (a0.size : Int) ≤ 300 := by
        simp only [Bool.and_eq_true, decide_eq_true_eq] at hin
        exact ((linedB_iff a0 300).1 hin.2).1
      have hp : Hid (printB a2 10 = false ∨ printB a3 10 = false) := by
        show printB a2 10 = false ∨ printB a3 10 = false
        by_cases c : 10 < (a2.size : Int)
        · exact .inl (printB_long c)
        · exact .inr (printB_long (by omega))
      have hin' := Lib.hid hin
      clear hin hz
      rcases hp.out with hp1 | hp1
      all_goals
        go_enter Try.func3, Try.ntmps3
        go_wp2_with (first | (go_at_call 6; refine (inside_c _ _ _ hs0 _).mono ?_; rintro e w1 ⟨rfl, rfl⟩; rw [hin'.out]) | (go_at_call 7; refine (printable_c _ _ (by assumption) _).mono ?_; rintro e w1 ⟨rfl, rfl⟩))
        all_goals (go_ret; exact ⟨rfl, Below.refl _ _⟩)

set_option maxRecDepth 100000 in
theorem lifted (os : Os) (started : os.Started) (H : Type) (enc : TypeId × Value → H) :
    ReturnsInHanded {} Try.checked os 3 .any (Rows.fnMarkerSpec.pre6 enc Try.prog Try.f3 Rows.fnMarkerRow.domain false) (Rows.fnMarkerSpec.post enc Try.prog Try.f3 false true false false) := by
  refine returnsInHanded_of_change (C := Try.checked) own started (by kernel_rfl) Try.func3
    (ChangeSpec.witness6 (enc := enc) (C := Try.checked) false ⟨#[], #[.string ByteArray.empty, .int .i64 0, .string ByteArray.empty, .string ByteArray.empty], []⟩ 8 (by kernel_rfl) (by kernel_rfl) (by kernel_rfl) (by kernel_rfl)) ?_
  intro W base args ds gs before hval0 hW hcnd _
  have hval : ∀ (j : Nat) t v, Try.f3.params[j]? = some t → args[j]? = some v → Value.okWide Try.prog W .any base t v := hval0
  have hW' := hW
  obtain ⟨p, q, hA0, hV, rfl, hfz, hnd⟩ := hW
  have hA : DataW.TrodAll enc Try.prog W 0 (fun _ => true) true Try.f3.params.toList args.toList ds p := hA0
  rw [Try.params3] at hA hval
  obtain ⟨v0, vs0, d0, ds0, p0, q0, hargs, rfl, rfl, h0, r0⟩ := trodAll_cons hA
  obtain ⟨v1, vs1, d1, ds1, p1, q1, rfl, rfl, rfl, h1, r1⟩ := trodAll_cons r0
  obtain ⟨v2, vs2, d2, ds2, p2, q2, rfl, rfl, rfl, h2, r2⟩ := trodAll_cons r1
  obtain ⟨v3, vs3, d3, ds3, p3, q3, rfl, rfl, rfl, h3, r3⟩ := trodAll_cons r2
  obtain ⟨rfl, rfl, rfl⟩ := trodAll_nil r3
  obtain rfl : args = #[v0, v1, v2, v3] := by cases args; simp_all
  obtain ⟨rfl, rfl⟩ := trodVars_none hV
  obtain ⟨a0, rfl, rfl, rfl, w0⟩ := open_string Try.underlying9 (hval 0 9 v0 rfl rfl) h0
  obtain ⟨a1, rfl, rfl, rfl, w1⟩ := open_int Try.underlying3 (hval 1 3 v1 rfl rfl) h1
  obtain ⟨a2, rfl, rfl, rfl, w2⟩ := open_string Try.underlying9 (hval 2 9 v2 rfl rfl) h2
  obtain ⟨a3, rfl, rfl, rfl, w3⟩ := open_string Try.underlying9 (hval 3 9 v3 rfl rfl) h3
  clear hA0 hval0
  refine (walk a0 a1 a2 a3 w0 w1 w2 w3 W).mono fun e W' ⟨he, hg⟩ => ?_
  subst he
  exact ⟨_, rfl, _, _, _, [], _, [], hW', trodAll_mk1 (shut_bool Try.underlying4 _), (trodAll_cons_mk (shut_string Try.underlying9 w0) (trodAll_cons_mk (shut_int Try.underlying3 w1) (trodAll_cons_mk (shut_string Try.underlying9 w2) (trodAll_cons_mk (shut_string Try.underlying9 w3) trodAll_mk0)))), rfl, hg.frame _, fun h => by cases h⟩

theorem over : Rows.fnMarkerRow.holds Try.pinned (OpenSpec.ofChange Rows.fnMarkerSpec) :=
  OpenClaim.holds_of_wide 3 Try.f3 rfl rfl rfl rfl rfl rfl rfl ⟨rfl, rfl, rfl, rfl, rfl⟩ rfl rfl rfl rfl rfl (by kernel_rfl) Try.func3 (by kernel_rfl)
    (of_decide_eq_true (by kernel_rfl)) (by unfold Func.isWrapper; first | (rw [if_pos (by decide +kernel)]; kernel_rfl) | (rw [if_neg (by decide +kernel)]; exact ⟨rfl, rfl⟩))
    (fun os started H enc _ => lifted os started H enc)

theorem proved : Rows.FnMarkerSaid :=
  over
#print axioms proved
end Go.Proofs.Ytiilhmagepncgaa.fnMarker
