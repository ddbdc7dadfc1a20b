/- Proves FnFold: what normalizing gives is the reference's fold of the label; it is idempotent, and sees neither letters' case nor blanks at the ends. Condition: the row's own, that the listed variables read as told; the walk does not meet them. The frame below is as the kit's shell writes it. -/
import Derived.Test.YtonadaoehhlafaaDoorRows
import Derived.Test.YtonadaoehhlafaaDoorCards
import Derived.Test.YtonadaoehhlafaaDoorTie
import Derived.SevenTiedAt
import Derived.LaidMore
import Derived.Lay
import Derived.Stop.Joined
import Derived.Test.YtonadaoehhlafaaDoorFoldLaw
import Derived.Test.YtonadaoehhlafaaDoorIdx
import Derived.WalkKit
import Derived.ProofKit
import Derived.OpenShut
import Derived.ShutString
import Derived.ChangeOld
import Derived.Below
namespace Go.Proofs.YtonadaoehhlafaaDoor.fnFold
open Go.ChangeShapes Go.WideShapes Go.ChangeAt Go.RowKit
open Go.ChangeMaps (open_string shut_string)
open Go.PlainAid W
set_option linter.unusedVariables false

theorem own : ownKnob Tryd.prog.godebug = none := by kernel_rfl

set_option maxHeartbeats 4000000 in
set_option maxRecDepth 100000 in
theorem walk (a0 : ByteArray) (w0 : a0.size ≤ maxLen) (w : World) :
    Calls Tryd.prog 3 #[.string a0] w fun e w' => e = .returned (.bool true) ∧ Below w.heap.size w w' := by
  by_cases hm : 2147483647 < a0.size
  · go_enter Tryd.func3, Tryd.ntmps3
    go_wp2
    go_ret
    exact ⟨rfl, Below.refl _ _⟩
  · have hs1 : a0.size ≤ 2147483647 := by omega
    cases hl : linedB a0 300
    · replace hl := Lib.hid hl
      go_enter Tryd.func3, Tryd.ntmps3
      go_wp2_with (go_at_call 5; refine (lined_c _ _ w0 _).mono ?_; rintro e w1 ⟨rfl, rfl⟩; rw [hl.out])
      go_ret
      exact ⟨rfl, Below.refl _ _⟩
    · obtain ⟨hs3, hL⟩ := (linedB_iff a0 300).1 hl
      have hs2 : a0.size ≤ 300 := by omega
      replace hl := Lib.hid hl
      replace hL := Lib.hid hL
      have cI : ∀ c : Int, 0 ≤ c → c ≤ 255 → (∀ w, Calls Tryd.prog 7 #[.string a0, .int .u8 c] w fun e w1 => ∃ n : Int, e = .returned (.int .i64 n) ∧ 0 ≤ n ∧ w = w1) ∨ ((∀ k, k < a0.size → bt a0 k ≠ c) ∧ ∀ w, Calls Tryd.prog 7 #[.string a0, .int .u8 c] w fun e w1 => ∃ n : Int, e = .returned (.int .i64 n) ∧ n < 0 ∧ w = w1) := by
        intro c h0 h1
        rcases first_or_none (fun j => bt a0 j = c) 0 a0.size with h | ⟨o, _, h2, h3, h4⟩
        · exact .inr ⟨fun k hk => h k (Nat.zero_le _) (by omega), fun w => (idx_no a0 c h0 h1 (fun k hk => h k (Nat.zero_le _) (by omega)) w).mono fun _ _ ⟨he, hw⟩ => ⟨_, he, by omega, hw.symm⟩⟩
        · exact .inl fun w => (idx_yes a0 c o h0 h1 (by omega) h3 (fun k hk => h4 k (Nat.zero_le _) hk) w).mono fun _ _ ⟨he, hw⟩ => ⟨_, he, by omega, hw.symm⟩
      obtain ⟨T, cS⟩ : ∃ T, ∀ w, Calls Tryd.prog 6 #[.string a0] w fun e w1 => e = .returned (.string T) ∧ w = w1 := ⟨shornS a0, fun w => shorn_c a0 hs1 w⟩
      have ht : T.toList.isEmpty = true ∨ T.toList.isEmpty = false := by cases T.toList.isEmpty <;> simp
      rcases ht with ht | ht
      · go_enter Tryd.func3, Tryd.ntmps3
        go_wp2_with (first | (go_at_call 5; refine (lined_c _ _ w0 _).mono ?_; rintro e w1 ⟨rfl, rfl⟩; rw [hl.out]) | (go_at_call 6; refine (cS _).mono ?_; rintro e w1 ⟨rfl, rfl⟩))
        go_ret
        exact ⟨rfl, Below.refl _ _⟩
      · rcases cI 91 (by omega) (by omega) with c91 | ⟨n91, c91⟩
        · go_enter Tryd.func3, Tryd.ntmps3
          go_wp2_with (first | (go_at_call 5; refine (lined_c _ _ w0 _).mono ?_; rintro e w1 ⟨rfl, rfl⟩; rw [hl.out]) | (go_at_call 6; refine (cS _).mono ?_; rintro e w1 ⟨rfl, rfl⟩) | (go_at_call 7; refine (c91 _).mono ?_; rintro e w1 ⟨n, rfl, hn, rfl⟩))
          go_ret
          exact ⟨rfl, Below.refl _ _⟩
        · rcases cI 93 (by omega) (by omega) with c93 | ⟨n93, c93⟩
          · clear n91
            go_enter Tryd.func3, Tryd.ntmps3
            go_wp2_with (first | (go_at_call 5; refine (lined_c _ _ w0 _).mono ?_; rintro e w1 ⟨rfl, rfl⟩; rw [hl.out]) | (go_at_call 6; refine (cS _).mono ?_; rintro e w1 ⟨rfl, rfl⟩) | (go_at_call 7; refine (c91 _).mono ?_; rintro e w1 ⟨n, rfl, hn, rfl⟩) | (go_at_call 7; refine (c93 _).mono ?_; rintro e w1 ⟨n2, rfl, hn2, rfl⟩))
            go_ret
            exact ⟨rfl, Below.refl _ _⟩
          · rcases cI 92 (by omega) (by omega) with c92 | ⟨n92, c92⟩
            · clear n91 n93
              go_enter Tryd.func3, Tryd.ntmps3
              go_wp2_with (first | (go_at_call 5; refine (lined_c _ _ w0 _).mono ?_; rintro e w1 ⟨rfl, rfl⟩; rw [hl.out]) | (go_at_call 6; refine (cS _).mono ?_; rintro e w1 ⟨rfl, rfl⟩) | (go_at_call 7; refine (c91 _).mono ?_; rintro e w1 ⟨n, rfl, hn, rfl⟩) | (go_at_call 7; refine (c93 _).mono ?_; rintro e w1 ⟨n2, rfl, hn2, rfl⟩) | (go_at_call 7; refine (c92 _).mono ?_; rintro e w1 ⟨n3, rfl, hn3, rfl⟩))
              go_ret
              exact ⟨rfl, Below.refl _ _⟩
            · clear n92
              have hok : ∀ k, k < a0.size → (bt a0 k = 10 ∨ 32 ≤ bt a0 k ∧ bt a0 k ≤ 126) ∧ bt a0 k ≠ 91 ∧ bt a0 k ≠ 93 := fun k hk => ⟨hL.out k hk, n91 k hk, n93 k hk⟩
              clear n91 n93
              have h127 : ∀ k, bt a0 k ≤ 127 := by
                intro k
                by_cases hk : k < a0.size
                · have := (hok k hk).1; omega
                · rw [bt_end a0 (by omega)]; decide
              obtain ⟨x, hx⟩ : ∃ x : ByteArray, x = ⟨(F (bt a0) a0.size).1.toArray⟩ := ⟨_, rfl⟩
              have hxz : x.size ≤ 2000 := by
                have := F_len (bt a0) a0.size
                rw [hx]; show (F (bt a0) a0.size).1.length ≤ 2000; omega
              have N1 : ∀ w, Calls Tryd.prog 8 #[.string a0] w fun e w1 => e = .returned (.string x) ∧ Below w.heap.size w w1 := by
                rw [hx]; exact fun w => normalize_i a0 (by omega) (fun k hk => by have := hok k hk; omega) w
              have N2 : ∀ w, Calls Tryd.prog 8 #[.string x] w fun e w1 => e = .returned (.string x) ∧ Below w.heap.size w w1 := fun w =>
                (normalize_i x hxz (by rw [hx]; exact fold_ok a0 hok) w).mono fun _ _ ⟨he, hw⟩ => ⟨by rw [he, hx, F_twice a0 h127], hw⟩
              have N3 : ∀ w, Calls Tryd.prog 8 #[.string (⟨#[32]⟩ ++ ⟨(upL a0).toArray⟩ ++ ⟨#[10, 32]⟩)] w fun e w1 => e = .returned (.string x) ∧ Below w.heap.size w w1 := fun w =>
                (normalize_i (padS a0) (by rw [size_padS]; omega) (padS_ok a0 hok) w).mono fun _ _ ⟨he, hw⟩ => ⟨by rw [he, hx, F_padS], hw⟩
              have cF : ∀ w, Calls Tryd.prog 9 #[.string a0] w fun e w1 => e = .returned (.string x) ∧ w = w1 := by
                rw [hx]; exact fun w => fold_c a0 (by omega) (fun k hk => by have := hok k hk; omega) w
              have cU := fun w => upper_c a0 (by omega) w
              have hUz : (upL a0).length ≤ 300 := by have : (upL a0).length = a0.size := by simp [upL]
                                                     omega
              clear hok h127 hx
              go_enter Tryd.func3, Tryd.ntmps3
              go_wp2_with (first | (go_at_call 5; refine (lined_c _ _ w0 _).mono ?_; rintro e w1 ⟨rfl, rfl⟩; rw [hl.out]) | (go_at_call 6; refine (cS _).mono ?_; rintro e w1 ⟨rfl, rfl⟩) | (go_at_call 7; refine (c91 _).mono ?_; rintro e w1 ⟨n, rfl, hn, rfl⟩) | (go_at_call 7; refine (c93 _).mono ?_; rintro e w1 ⟨n2, rfl, hn2, rfl⟩) | (go_at_call 7; refine (c92 _).mono ?_; rintro e w1 ⟨n3, rfl, hn3, rfl⟩) | (go_at_call 8; refine (N1 _).mono ?_; rintro e w1 ⟨rfl, B1⟩) | (go_at_call 9; refine (cF _).mono ?_; rintro e w2 ⟨rfl, rfl⟩) | (go_at_call 8; refine (N2 _).mono ?_; rintro e w2 ⟨rfl, B2⟩) | (go_at_call 10; refine (cU _).mono ?_; rintro e w3 ⟨rfl, B3⟩) | (go_at_call 8; refine (N3 _).mono ?_; rintro e w4 ⟨rfl, B4⟩))
              go_ret
              exact ⟨by simp, B1.trans ((B2.trans ((B3.trans (B4.mono B3.size)).mono B2.size)).mono B1.size)⟩

set_option maxRecDepth 100000 in
theorem lifted (os : Os) (started : os.Started) (H : Type) (enc : TypeId × Value → H) :
    ReturnsInHanded {} Tryd.checked os 3 .any (fun w args => (Rows.fnFoldSpec.pre enc Tryd.prog Tryd.f3 Rows.fnFoldRow.domain false w args ∧ laidMetH Tryd.prog Rows.fnFoldRow.laid w) ∧ sizedMet enc Tryd.prog Tryd.f3 (OpenSpec.ofChange Rows.fnFoldSpec) false w args)
      (Rows.fnFoldSpec.post enc Tryd.prog Tryd.f3 false true false false) := by
  refine returnsInHanded_of_change_and (C := Tryd.checked) (X := fun w _ => laidMetH Tryd.prog Rows.fnFoldRow.laid w) (fun _ _ _ hh h => h.of_heap hh) own started (by kernel_rfl) Tryd.func3
    (ChangeSpec.witness_shaped (enc := enc) (C := Tryd.checked) (os := os) (X := fun w _ => laidMetH Tryd.prog Rows.fnFoldRow.laid w) false (World.laidAll Tryd.prog os Rows.fnFoldRow.laid) #[.string ByteArray.empty] 8 (World.laidAll_os _ _ _) (World.shaped_of_ZipB (by kernel_rfl) (by kernel_rfl)) (by kernel_rfl) (by kernel_rfl) (by kernel_rfl) (by rw [MakeChecks.laidMetH_plain _ _ _ (by kernel_rfl)]; exact laidMet_laidAll _ (by kernel_rfl) (by kernel_rfl))) ?_
  intro W base args ds gs before hval0 hW _ _ hL _
  have hval : ∀ (j : Nat) t v, Tryd.f3.params[j]? = some t → args[j]? = some v → Value.okWide Tryd.prog W .any base t v := hval0
  have hW' := hW
  obtain ⟨p, q, hA0, hV, rfl, hfz, hnd⟩ := hW
  have hA : DataW.TrodAll enc Tryd.prog W 0 (fun _ => true) true Tryd.f3.params.toList args.toList ds p := hA0
  rw [Tryd.params3] at hA hval
  obtain ⟨v0, vs0, d0, ds0, p0, q0, hargs, rfl, rfl, h0, r0⟩ := trodAll_cons hA
  obtain ⟨rfl, rfl, rfl⟩ := trodAll_nil r0
  obtain rfl : args = #[v0] := by cases args; simp_all
  obtain ⟨rfl, rfl⟩ := trodVars_none hV
  obtain ⟨a0, rfl, rfl, rfl, w0⟩ := open_string Tryd.underlying9 (hval 0 9 v0 rfl rfl) h0
  clear hA0 hval0
  refine (walk a0 w0 W).mono fun e W' ⟨he, hg⟩ => ?_
  subst he
  exact ⟨_, rfl, _, _, _, [], _, [], hW', trodAll_mk1 (shut_bool Tryd.underlying4 _), (trodAll_cons_mk (shut_string Tryd.underlying9 w0) trodAll_mk0), rfl, hg.frame _, fun h => by cases h⟩

theorem over : Rows.fnFoldRow.holds Tryd.pinned (OpenSpec.ofChange Rows.fnFoldSpec) :=
  OpenClaim.holds_of_wide 3 Tryd.f3 rfl rfl rfl rfl rfl rfl rfl ⟨rfl, rfl, rfl, rfl, rfl⟩ rfl rfl rfl rfl rfl (by kernel_rfl) Tryd.func3 (by kernel_rfl)
    (of_decide_eq_true (by kernel_rfl)) (by unfold Func.isWrapper; first | (rw [if_pos (by decide +kernel)]; kernel_rfl) | (rw [if_neg (by decide +kernel)]; exact ⟨rfl, rfl⟩))
    (fun os started H enc _ => lifted os started H enc)

theorem proved : Rows.FnFoldCardSaid :=
  Claim7.holds_tied_plain_at .later [] [.data, .pinned] true (true, "f4702db3b0b27697a2b76a47f30720d16805d04eac70bb9cca45c958674eb366") false
    over (fun _ h => by cases h) (by kernel_rfl) (fun _ h => by cases h) fnFold_row_tie rfl ⟨rfl, rfl⟩ (by kernel_rfl) rfl
    (fun f fn hf hfn => by
      obtain rfl : f = 3 := Option.some.inj ((show Tryd.prog.funcNamed "pub-paratext/laws.FnFold" = some 3 by kernel_rfl).symm.trans hf) |>.symm
      obtain rfl : fn = Tryd.f3 := (Option.some.inj (Tryd.func3.symm.trans hfn)).symm
      exact ⟨by kernel_rfl, fun j t ht => by
        rw [Tryd.params3] at ht
        have hm : t ∈ [9] := by simpa using Array.mem_of_getElem? ht
        have hall : ([9].all fun u => !Tryd.prog.wantsStandIn u) = true := by kernel_rfl
        exact (show Tryd.prog.wantsStandIn t = false by simpa using List.all_eq_true.1 hall t hm)⟩)
    (by kernel_rfl)
#print axioms proved
end Go.Proofs.YtonadaoehhlafaaDoor.fnFold
