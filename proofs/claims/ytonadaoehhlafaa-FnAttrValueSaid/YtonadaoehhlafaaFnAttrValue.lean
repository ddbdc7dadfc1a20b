/- FnAttrValue returns true for every string and every place: the value of an attribute stands in quotation marks, in single ones, or has none of the characters that end it. Condition: none beyond what a Go string and an int can be. The frame below is as the kit's shell writes it. -/
import Derived.Test.YtonadaoehhlafaaRows
import Derived.Test.YtonadaoehhlafaaAttr
import Derived.WalkKit
import Derived.ProofKit
import Derived.OpenShut
import Derived.ShutString
namespace Go.Proofs.Ytonadaoehhlafaa.fnAttrValue
open Go.ChangeShapes Go.WideShapes Go.ChangeAt Go.RowKit
open Go.ChangeMaps (open_string shut_string)
open Go.PlainAid W
set_option linter.unusedVariables false

theorem own : ownKnob Try.prog.godebug = none := by kernel_rfl

theorem walk (a0 : ByteArray) (a1 : Int) (w0 : a0.size ≤ maxLen) (w1 : (Lit.int .i64 a1).wf = true) (w : World) :
    Calls Try.prog 10 #[.string a0, .int .i64 a1] w fun e w' => e = .returned (.bool true) ∧ Grown w w' := by
  have hs0 := w0
  have hb := get_bt a0
  by_cases h : (decide (0 ≤ a1) && decide (a1 ≤ a0.size) && linedB a0 300) = true
  · have h' := h
    simp only [Bool.and_eq_true, decide_eq_true_eq] at h
    obtain ⟨⟨h0, h1⟩, h2⟩ := h
    obtain ⟨n, rfl⟩ := Int.eq_ofNat_of_zero_le h0
    obtain ⟨hsz, hL⟩ := (linedB_iff a0 300).1 h2
    have hs : a0.size ≤ 2147483647 := by omega
    have hL := Lib.hid hL
    clear h0
    by_cases hn : n < a0.size
    · have hne : ((n : Int) == a0.size) = false := by simp; omega
      cases hbl : blankB (bt a0 n)
      · have hq0 : (bt a0 n = 39 ∨ bt a0 n = 34) ∨ ¬ (bt a0 n = 39 ∨ bt a0 n = 34) := Classical.em _
        rcases hq0 with hq | hq
        · have k0 := runEnd_ge (fun b => b != bt a0 n) a0 (n + 1)
          have k1 := runEnd_le (fun b => b != bt a0 n) a0 (i := n + 1) (by omega)
          have kl : ∀ t, n < t → t < runEnd (fun b => b != bt a0 n) a0 (n + 1) → bt a0 t ≠ bt a0 n := fun t ht1 ht2 => by
            have := runEnd_in (p := fun b => b != bt a0 n) (s := a0) (i := n + 1) (j := t) (by omega) ht2
            simpa using this
          have hq := Lib.hid hq
          by_cases kk : runEnd (fun b => b != bt a0 n) a0 (n + 1) < a0.size
          · have ke := runEnd_at (p := fun b => b != bt a0 n) (s := a0) (i := n + 1) (by omega) kk
            simp only [bne_eq_false_iff_eq] at ke
            generalize runEnd (fun b => b != bt a0 n) a0 (n + 1) = k at *
            have ke := Lib.hid ke
            have kl := Lib.hid kl
            go_enter Try.func10, Try.ntmps10
            go_wp2_with (first | (go_at_call 21; refine (inside_c _ _ _ hs0 _).mono ?_; rintro e w1 ⟨rfl, rfl⟩) | (go_at_call 28; refine (IsBlank_c _ _).mono ?_; rintro e w1 ⟨rfl, rfl⟩) | (go_at_call 29; refine (attrValue_quoted_i _ _ k hs hq.out (by omega) kk ke.out kl.out _).mono ?_; rintro e w1 ⟨rfl, m, rfl⟩) | (go_at_call 30; refine (specValue_quoted_a _ _ k hs hq.out (by omega) kk ke.out kl.out _).mono ?_; rintro e w1 ⟨rfl, m2, rfl⟩))
            all_goals (go_ret; exact ⟨rfl, grownN (Grown.refl _) _⟩)
          · have kl' : ∀ t, n < t → t < a0.size → bt a0 t ≠ bt a0 n := fun t ht1 ht2 => kl t ht1 (by omega)
            generalize runEnd (fun b => b != bt a0 n) a0 (n + 1) = k at *
            have kl' := Lib.hid kl'
            clear kl
            go_enter Try.func10, Try.ntmps10
            go_wp2_with (first | (go_at_call 21; refine (inside_c _ _ _ hs0 _).mono ?_; rintro e w1 ⟨rfl, rfl⟩) | (go_at_call 28; refine (IsBlank_c _ _).mono ?_; rintro e w1 ⟨rfl, rfl⟩) | (go_at_call 29; refine (attrValue_open_i _ _ hs hn hq.out kl'.out _).mono ?_; rintro e w1 ⟨rfl, m, rfl⟩) | (go_at_call 30; refine (specValue_open_a _ _ hs hn hq.out kl'.out _).mono ?_; rintro e w1 ⟨rfl, m2, rfl⟩))
            all_goals (go_ret; exact ⟨rfl, grownN (Grown.refl _) _⟩)
        · have k0 := runEnd_ge unqB a0 n
          have k1 := runEnd_le unqB a0 (i := n) (by omega)
          have ev := unq_same hL.out n
          have hq := Lib.hid hq
          by_cases kn : n < runEnd unqB a0 n
          · have ev' : Hid (specVal n (runEnd unq2B a0 n) = (runEnd unqB a0 n : Int)) := by
              show specVal n (runEnd unq2B a0 n) = (runEnd unqB a0 n : Int)
              rw [ev, specVal, if_pos kn]
            clear ev
            go_enter Try.func10, Try.ntmps10
            go_wp2_with (first | (go_at_call 21; refine (inside_c _ _ _ hs0 _).mono ?_; rintro e w1 ⟨rfl, rfl⟩) | (go_at_call 28; refine (IsBlank_c _ _).mono ?_; rintro e w1 ⟨rfl, rfl⟩) | (go_at_call 29; refine (attrValue_some_i _ _ hs hn hq.out kn _).mono ?_; rintro e w1 ⟨rfl, m, rfl⟩) | (go_at_call 30; refine (specValue_bare_a _ _ hs hn hq.out _).mono ?_; rintro e w1 ⟨rfl, m2, rfl⟩; rw [ev'.out]))
            all_goals (go_ret; exact ⟨rfl, grownN (Grown.refl _) _⟩)
          · have ev' : Hid (specVal n (runEnd unq2B a0 n) = -1) := by
              show specVal n (runEnd unq2B a0 n) = -1
              rw [ev, specVal, if_neg kn]
            clear ev
            go_enter Try.func10, Try.ntmps10
            go_wp2_with (first | (go_at_call 21; refine (inside_c _ _ _ hs0 _).mono ?_; rintro e w1 ⟨rfl, rfl⟩) | (go_at_call 28; refine (IsBlank_c _ _).mono ?_; rintro e w1 ⟨rfl, rfl⟩) | (go_at_call 29; refine (attrValue_none_i _ _ hs hn hq.out kn _).mono ?_; rintro e w1 ⟨rfl, m, rfl⟩) | (go_at_call 30; refine (specValue_bare_a _ _ hs hn hq.out _).mono ?_; rintro e w1 ⟨rfl, m2, rfl⟩; rw [ev'.out]))
            all_goals (go_ret; exact ⟨rfl, grownN (Grown.refl _) _⟩)
      · go_enter Try.func10, Try.ntmps10
        go_wp2_with (first | (go_at_call 21; refine (inside_c _ _ _ hs0 _).mono ?_; rintro e w1 ⟨rfl, rfl⟩) | (go_at_call 28; refine (IsBlank_c _ _).mono ?_; rintro e w1 ⟨rfl, rfl⟩))
        all_goals (go_ret; exact ⟨rfl, Grown.refl _⟩)
    · have hne : ((n : Int) == a0.size) = true := by simp; omega
      go_enter Try.func10, Try.ntmps10
      go_wp2_with (first | (go_at_call 21; refine (inside_c _ _ _ hs0 _).mono ?_; rintro e w1 ⟨rfl, rfl⟩) | (go_at_call 28; refine (IsBlank_c _ _).mono ?_; rintro e w1 ⟨rfl, rfl⟩))
      all_goals (go_ret; exact ⟨rfl, Grown.refl _⟩)
  · have h' : (decide (0 ≤ a1) && decide (a1 ≤ a0.size) && linedB a0 300) = false := by simpa using h
    clear h
    go_enter Try.func10, Try.ntmps10
    go_wp2_with (go_at_call 21; refine (inside_c _ _ _ hs0 _).mono ?_; rintro e w1 ⟨rfl, rfl⟩; rw [h'])
    all_goals (go_ret; exact ⟨rfl, Grown.refl _⟩)

set_option maxRecDepth 100000 in
theorem lifted (os : Os) (started : os.Started) (H : Type) (enc : TypeId × Value → H) :
    ReturnsInHanded {} Try.checked os 10 .any (Rows.fnAttrValueSpec.pre6 enc Try.prog Try.f10 Rows.fnAttrValueRow.domain false) (Rows.fnAttrValueSpec.post enc Try.prog Try.f10 false true false false) := by
  refine returnsInHanded_of_change (C := Try.checked) own started (by kernel_rfl) Try.func10
    (ChangeSpec.witness6 (enc := enc) (C := Try.checked) false ⟨#[], #[.string ByteArray.empty, .int .i64 0], []⟩ 8 (by kernel_rfl) (by kernel_rfl) (by kernel_rfl) (by kernel_rfl)) ?_
  intro W base args ds gs before hval0 hW hcnd _
  have hval : ∀ (j : Nat) t v, Try.f10.params[j]? = some t → args[j]? = some v → Value.okWide Try.prog W .any base t v := hval0
  have hW' := hW
  obtain ⟨p, q, hA0, hV, rfl, hfz, hnd⟩ := hW
  have hA : DataW.TrodAll enc Try.prog W 0 (fun _ => true) true Try.f10.params.toList args.toList ds p := hA0
  rw [Try.params10] at hA hval
  obtain ⟨v0, vs0, d0, ds0, p0, q0, hargs, rfl, rfl, h0, r0⟩ := trodAll_cons hA
  obtain ⟨v1, vs1, d1, ds1, p1, q1, rfl, rfl, rfl, h1, r1⟩ := trodAll_cons r0
  obtain ⟨rfl, rfl, rfl⟩ := trodAll_nil r1
  obtain rfl : args = #[v0, v1] := by cases args; simp_all
  obtain ⟨rfl, rfl⟩ := trodVars_none hV
  obtain ⟨a0, rfl, rfl, rfl, w0⟩ := open_string Try.underlying9 (hval 0 9 v0 rfl rfl) h0
  obtain ⟨a1, rfl, rfl, rfl, w1⟩ := open_int Try.underlying3 (hval 1 3 v1 rfl rfl) h1
  clear hA0 hval0
  simp only [List.append_nil] at hW'
  refine (walk a0 a1 w0 w1 W).mono fun e W' ⟨he, hg⟩ => ?_
  subst he
  exact ⟨_, rfl, post_of_same (pa := []) (pv := []) hW' (fun _ _ _ => (trodAll_cons_mk (shut_bool Try.underlying4 _) trodAll_mk0)) (fun sp _ => (trodAll_cons_mk (shut_string Try.underlying9 w0) (trodAll_cons_mk (shut_int Try.underlying3 w1) trodAll_mk0))) (fun _ _ => rfl) rfl
    (hg.frame _) hg.2.1 (ok_one (by kernel_rfl) rfl (okWide_bool_mk Try.underlying4 _))⟩

theorem over : Rows.fnAttrValueRow.holds Try.pinned (OpenSpec.ofChange Rows.fnAttrValueSpec) :=
  OpenClaim.holds_of_wide 10 Try.f10 rfl rfl rfl rfl rfl rfl rfl ⟨rfl, rfl, rfl, rfl, rfl⟩ rfl rfl rfl rfl rfl (by kernel_rfl) Try.func10 (by kernel_rfl)
    (of_decide_eq_true (by kernel_rfl)) (by unfold Func.isWrapper; first | (rw [if_pos (by decide +kernel)]; kernel_rfl) | (rw [if_neg (by decide +kernel)]; exact ⟨rfl, rfl⟩))
    (fun os started H enc _ => lifted os started H enc)

theorem proved : Rows.FnAttrValueSaid :=
  over
#print axioms proved
end Go.Proofs.Ytonadaoehhlafaa.fnAttrValue
