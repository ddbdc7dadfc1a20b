/- FnTableStart returns true for all four numbers: a header of n cells and a delimiter row of m cells begin a table just if n is m. Condition: the row's own, that the listed variables read as told; the walk does not meet them. The frame below is as the kit's shell writes it. -/
import Derived.Test.YtdbnfginhipcaaaDoorRows
import Derived.Test.YtdbnfginhipcaaaDoorCards
import Derived.Test.YtdbnfginhipcaaaDoorTie
import Derived.SevenTiedAt
import Derived.LaidMore
import Derived.Lay
import Derived.Stop.Joined
import Derived.Test.YtdbnfginhipcaaaDoorTRange
import Derived.WalkKit
import Derived.ProofKit
import Derived.OpenShut
import Derived.ShutString
namespace Go.Proofs.YtdbnfginhipcaaaDoor.fnTableStart
open Go.ChangeShapes Go.WideShapes Go.ChangeAt Go.RowKit
open Go.ChangeMaps (open_string shut_string)
open Go.PlainAid W
set_option linter.unusedVariables false

theorem own : ownKnob Tryd.prog.godebug = none := by kernel_rfl

set_option maxHeartbeats 4000000 in
set_option maxRecDepth 100000 in
theorem walk (a0 : Int) (a1 : Int) (a2 : Int) (a3 : Int) (w0 : (Lit.int .u8 a0).wf = true) (w1 : (Lit.int .u8 a1).wf = true) (w2 : (Lit.int .u8 a2).wf = true) (w3 : (Lit.int .u8 a3).wf = true) (w : World) :
    Calls Tryd.prog 3 #[.int .u8 a0, .int .u8 a1, .int .u8 a2, .int .u8 a3] w fun e w' => e = .returned (.bool true) ∧ Grown w w' := by
  have b0 : 0 ≤ a0 ∧ a0 ≤ 255 := byteRange w0
  have b1 : 0 ≤ a1 ∧ a1 ≤ 255 := byteRange w1
  have b2 : 0 ≤ a2 ∧ a2 ≤ 255 := byteRange w2
  have b3 : 0 ≤ a3 ∧ a3 ≤ 255 := byteRange w3
  obtain ⟨N, hN⟩ : ∃ N : Nat, (N : Int) = a0 % 40 + 1 := ⟨(a0 % 40 + 1).toNat, by omega⟩
  obtain ⟨M, hM⟩ : ∃ M : Nat, (M : Int) = a1 % 40 + 1 := ⟨(a1 % 40 + 1).toNat, by omega⟩
  obtain ⟨A, hA⟩ : ∃ A : Nat, (A : Int) = a2 % 4 := ⟨(a2 % 4).toNat, by omega⟩
  obtain ⟨G, hG⟩ : ∃ G : Nat, (G : Int) = a3 % 20 + 1 := ⟨(a3 % 20 + 1).toNat, by omega⟩
  have cD : Hid (∀ w, Calls Tryd.prog 4 #[.int .i64 (a2 % 4), .int .i64 (a3 % 20 + 1)] w fun e w1 => e = .returned (.string (delimS A G)) ∧ w = w1) := fun w => by
    rw [← hA, ← hG]; exact delimiter_c A G (by omega) (by omega) w
  obtain ⟨p, q, hc⟩ := dcell A G
  have zc := hc.size
  rw [size_cellD] at zc
  have hp1 := hc.p1
  have hq1 := hc.q1
  have c7 : Hid (∀ w, Calls Tryd.prog 7 #[.string (rowS cellA N), .string (rowS (cellD (delimS A G)) M)] w fun e w1 => e = .returned (.bool ((M : Int) == (N : Int))) ∧ w = w1) := fun w =>
    isTableStart_c N M p G q _ (by omega) (by omega) (by omega) (by omega) hc (by omega) (by omega) w
  have zD : (delimS A G).size ≤ 22 := by omega
  generalize delimS A G = D at *
  have n1 : (N : Int) ≤ a0 % 40 + 1 := by omega
  have n2 : a0 % 40 + 1 ≤ (N : Int) := by omega
  have m1 : (M : Int) ≤ a1 % 40 + 1 := by omega
  have m2 : a1 % 40 + 1 ≤ (M : Int) := by omega
  have n40 : N ≤ 40 := by omega
  have m40 : M ≤ 40 := by omega
  have hfin : Hid ((((M : Int) == (N : Int)) == ((a0 % 40 + 1) == (a1 % 40 + 1))) = true) := by
    show (((M : Int) == (N : Int)) == ((a0 % 40 + 1) == (a1 % 40 + 1))) = true
    rw [← hN, ← hM]
    by_cases e : (M : Int) = (N : Int)
    · simp [e]
    · have e2 : ¬ (N : Int) = (M : Int) := fun h => e h.symm
      have t1 : ((M : Int) == (N : Int)) = false := beq_eq_false_iff_ne.2 e
      have t2 : ((N : Int) == (M : Int)) = false := beq_eq_false_iff_ne.2 e2
      rw [t1, t2]; rfl
  clear hN hM hA hG hc zc hp1 hq1
  go_enter Tryd.func3, Tryd.ntmps3
  go_wp2
  go_loop [11, 22] (fun h v => ∃ (k : Nat) (x : ByteArray), k ≤ N ∧ x.size ≤ 1 + k * 4 ∧ v = .int .i64 k ∧ h = .string x ∧ Hid (x = rowS cellA k)) (fun _ v => N - (intOf v).toNat)
  case atStart => exact ⟨0, _, by omega, by decide, rfl, rfl, rfl⟩
  case round =>
    obtain ⟨k, x, hk, hxz, rfl, rfl, hx⟩ := hrel
    by_cases hlt : k < N
    · go_wp2
      go_round
      case rel => exact ⟨k + 1, _, by omega, by rw [size_app]; show x.size + 4 ≤ _; omega, by go_num, rfl, by rw [hx.out]; rfl⟩
      case measure => simp [intOf]; omega
    · have hkN : k = N := by omega
      have hge : N ≤ k := by omega
      have hx2 : Hid (x = rowS cellA N) := by rw [← hkN]; exact hx
      have hxz2 : x.size ≤ 161 := by omega
      clear hkN hx hxz
      go_wp2
      go_loop [12, 28] (fun h v => ∃ (j : Nat) (y : ByteArray), j ≤ M ∧ y.size ≤ 1 + j * 25 ∧ v = .int .i64 j ∧ h = .string y ∧ Hid (y = rowS (cellD D) j)) (fun _ v => M - (intOf v).toNat)
      case atStart => exact ⟨0, _, by omega, by decide, rfl, rfl, rfl⟩
      case round =>
        obtain ⟨j, y, hj, hyz, rfl, rfl, hy⟩ := hrel
        by_cases hlt2 : j < M
        · go_wp2_with (first | (go_at_call 4; refine (cD.out _).mono ?_; rintro e w1 ⟨rfl, rfl⟩))
          go_round
          case rel => exact ⟨j + 1, _, by omega, by simp only [size_app]; show y.size + (1 + D.size + 2) ≤ _; omega, by go_num, rfl, by rw [hy.out]; rfl⟩
          case measure => simp [intOf]; omega
        · have hjM : j = M := by omega
          have hge2 : M ≤ j := by omega
          have c7b : Hid (∀ w, Calls Tryd.prog 7 #[.string x, .string y] w fun e w1 => e = .returned (.bool ((M : Int) == (N : Int))) ∧ w = w1) := by
            rw [hx2.out, hy.out, hjM]; exact c7.out
          have c5b := Lib.hid (door5 x y _ (door6 x y _ c7b.out))
          clear hjM
          go_wp2_with (first | (go_at_call 5; refine (c5b.out _).mono ?_; rintro e w1 ⟨rfl, rfl⟩))
          go_ret
          exact ⟨retBool hfin.out, Grown.refl _⟩

set_option maxRecDepth 100000 in
theorem lifted (os : Os) (started : os.Started) (H : Type) (enc : TypeId × Value → H) :
    ReturnsInHanded {} Tryd.checked os 3 .any (fun w args => (Rows.fnTableStartSpec.pre enc Tryd.prog Tryd.f3 Rows.fnTableStartRow.domain false w args ∧ laidMetH Tryd.prog Rows.fnTableStartRow.laid w) ∧ sizedMet enc Tryd.prog Tryd.f3 (OpenSpec.ofChange Rows.fnTableStartSpec) false w args)
      (Rows.fnTableStartSpec.post enc Tryd.prog Tryd.f3 false true false false) := by
  refine returnsInHanded_of_change_and (C := Tryd.checked) (X := fun w _ => laidMetH Tryd.prog Rows.fnTableStartRow.laid w) (fun _ _ _ hh h => h.of_heap hh) own started (by kernel_rfl) Tryd.func3
    (ChangeSpec.witness_shaped (enc := enc) (C := Tryd.checked) (os := os) (X := fun w _ => laidMetH Tryd.prog Rows.fnTableStartRow.laid w) false (World.laidAll Tryd.prog os Rows.fnTableStartRow.laid) #[.int .u8 0, .int .u8 0, .int .u8 0, .int .u8 0] 8 (World.laidAll_os _ _ _) (World.shaped_of_ZipB (by kernel_rfl) (by kernel_rfl)) (by kernel_rfl) (by kernel_rfl) (by kernel_rfl) (by rw [MakeChecks.laidMetH_plain _ _ _ (by kernel_rfl)]; exact laidMet_laidAll _ (by kernel_rfl) (by kernel_rfl))) ?_
  intro W base args ds gs before hval0 hW _ _ hL _
  have hval : ∀ (j : Nat) t v, Tryd.f3.params[j]? = some t → args[j]? = some v → Value.okWide Tryd.prog W .any base t v := hval0
  have hW' := hW
  obtain ⟨p, q, hA0, hV, rfl, hfz, hnd⟩ := hW
  have hA : DataW.TrodAll enc Tryd.prog W 0 (fun _ => true) true Tryd.f3.params.toList args.toList ds p := hA0
  rw [Tryd.params3] at hA hval
  obtain ⟨v0, vs0, d0, ds0, p0, q0, hargs, rfl, rfl, h0, r0⟩ := trodAll_cons hA
  obtain ⟨v1, vs1, d1, ds1, p1, q1, rfl, rfl, rfl, h1, r1⟩ := trodAll_cons r0
  obtain ⟨v2, vs2, d2, ds2, p2, q2, rfl, rfl, rfl, h2, r2⟩ := trodAll_cons r1
  obtain ⟨v3, vs3, d3, ds3, p3, q3, rfl, rfl, rfl, h3, r3⟩ := trodAll_cons r2
  obtain ⟨rfl, rfl, rfl⟩ := trodAll_nil r3
  obtain rfl : args = #[v0, v1, v2, v3] := by cases args; simp_all
  obtain ⟨rfl, rfl⟩ := trodVars_none hV
  obtain ⟨a0, rfl, rfl, rfl, w0⟩ := open_int Tryd.underlying5 (hval 0 5 v0 rfl rfl) h0
  obtain ⟨a1, rfl, rfl, rfl, w1⟩ := open_int Tryd.underlying5 (hval 1 5 v1 rfl rfl) h1
  obtain ⟨a2, rfl, rfl, rfl, w2⟩ := open_int Tryd.underlying5 (hval 2 5 v2 rfl rfl) h2
  obtain ⟨a3, rfl, rfl, rfl, w3⟩ := open_int Tryd.underlying5 (hval 3 5 v3 rfl rfl) h3
  clear hA0 hval0
  simp only [List.append_nil] at hW'
  refine (walk a0 a1 a2 a3 w0 w1 w2 w3 W).mono fun e W' ⟨he, hg⟩ => ?_
  subst he
  exact ⟨_, rfl, post_of_same (pa := []) (pv := []) hW' (fun _ _ _ => (trodAll_cons_mk (shut_bool Tryd.underlying4 _) trodAll_mk0)) (fun sp _ => (trodAll_cons_mk (shut_int Tryd.underlying5 w0) (trodAll_cons_mk (shut_int Tryd.underlying5 w1) (trodAll_cons_mk (shut_int Tryd.underlying5 w2) (trodAll_cons_mk (shut_int Tryd.underlying5 w3) trodAll_mk0))))) (fun _ _ => rfl) rfl
    (hg.frame _) hg.2.1 (ok_one (by kernel_rfl) rfl (okWide_bool_mk Tryd.underlying4 _))⟩

theorem over : Rows.fnTableStartRow.holds Tryd.pinned (OpenSpec.ofChange Rows.fnTableStartSpec) :=
  OpenClaim.holds_of_wide 3 Tryd.f3 rfl rfl rfl rfl rfl rfl rfl ⟨rfl, rfl, rfl, rfl, rfl⟩ rfl rfl rfl rfl rfl (by kernel_rfl) Tryd.func3 (by kernel_rfl)
    (of_decide_eq_true (by kernel_rfl)) (by unfold Func.isWrapper; first | (rw [if_pos (by decide +kernel)]; kernel_rfl) | (rw [if_neg (by decide +kernel)]; exact ⟨rfl, rfl⟩))
    (fun os started H enc _ => lifted os started H enc)

theorem proved : Rows.FnTableStartCardSaid :=
  Claim7.holds_tied_plain_at .later [] [.data, .pinned] true (true, "0c544a35dacada24080b3fa249c71cc3c10773ea63d0294639f5482d093dbbe8") false
    over (fun _ h => by cases h) (by kernel_rfl) (fun _ h => by cases h) fnTableStart_row_tie rfl ⟨rfl, rfl⟩ (by kernel_rfl) rfl
    (fun f fn hf hfn => by
      obtain rfl : f = 3 := Option.some.inj ((show Tryd.prog.funcNamed "pub-paratext/laws.FnTableStart" = some 3 by kernel_rfl).symm.trans hf) |>.symm
      obtain rfl : fn = Tryd.f3 := (Option.some.inj (Tryd.func3.symm.trans hfn)).symm
      exact ⟨by kernel_rfl, fun j t ht => by
        rw [Tryd.params3] at ht
        have hm : t ∈ [5, 5, 5, 5] := by simpa using Array.mem_of_getElem? ht
        have hall : ([5, 5, 5, 5].all fun u => !Tryd.prog.wantsStandIn u) = true := by kernel_rfl
        exact (show Tryd.prog.wantsStandIn t = false by simpa using List.all_eq_true.1 hall t hm)⟩)
    (by kernel_rfl)
#print axioms proved
end Go.Proofs.YtdbnfginhipcaaaDoor.fnTableStart
