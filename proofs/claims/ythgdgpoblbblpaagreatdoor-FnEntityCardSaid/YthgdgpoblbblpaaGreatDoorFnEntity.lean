/- FnEntity returns true for all strings and every place: a character reference that a text begins with is read whole, where there is none, none is read. Condition: the row's own, that the table of names holds what the card tells; the other listed variables are not read. The frame below is as the kit's shell writes it. -/
import Derived.Test.YthgdgpoblbblpaaGreatDoorRows
import Derived.Test.YthgdgpoblbblpaaGreatDoorCards
import Derived.Test.YthgdgpoblbblpaaGreatDoorTie
import Derived.SevenTiedAt
import Derived.LaidMore
import Derived.Stop.Joined
import Derived.Test.YthgdgpoblbblpaaGreatDoorEntLaw
import Derived.Test.YthgdgpoblbblpaaGreatDoorEntLaid
import Derived.WalkKit
import Derived.ProofKit
import Derived.OpenShut
import Derived.ShutString
import Derived.ChangeOld
import Derived.Below
namespace Go.Proofs.YthgdgpoblbblpaaGreatDoor.fnEntity
open Go.ChangeShapes Go.WideShapes Go.ChangeAt Go.RowKit
open Go.ChangeMaps (open_string shut_string)
open Go.PlainAid W
set_option linter.unusedVariables false

theorem own : ownKnob Tryz.prog.godebug = none := by kernel_rfl

set_option maxHeartbeats 4000000 in
set_option maxRecDepth 100000 in
theorem walk (a0 : ByteArray) (a1 : Int) (w0 : a0.size ≤ maxLen) (w1 : (Lit.int .i64 a1).wf = true) (w : World) (hE : EntAt w) :
    Calls Tryz.prog 3 #[.string a0, .int .i64 a1] w fun e w' => e = .returned (.bool true) ∧ Below w.heap.size w w' := by
  have hb := get_bt a0
  cases hin : (decide (0 ≤ a1) && decide (a1 ≤ a0.size) && linedB a0 200)
  · go_enter Tryz.func3, Tryz.ntmps3
    go_wp2_with (first | (go_at_call 4; refine (inside_c _ _ _ w0 _).mono ?_; rintro e w1 ⟨rfl, rfl⟩; rw [hin]))
    all_goals (go_ret; exact ⟨rfl, Below.refl _ _⟩)
  have hin' := Lib.hid hin
  simp only [Bool.and_eq_true, decide_eq_true_eq] at hin
  obtain ⟨⟨h0, h1⟩, hl⟩ := hin
  obtain ⟨z200, _⟩ := (linedB_iff a0 200).1 hl
  obtain ⟨i, rfl⟩ := Int.eq_ofNat_of_zero_le h0
  have hi : i ≤ a0.size := by omega
  have hz : a0.size ≤ 200 := by omega
  have hE' := Lib.hid hE
  clear hl z200 hE
  by_cases hend : i = a0.size
  · subst hend
    go_enter Tryz.func3, Tryz.ntmps3
    go_wp2_with (first | (go_at_call 4; refine (inside_c _ _ _ w0 _).mono ?_; rintro e w1 ⟨rfl, rfl⟩; rw [hin'.out]))
    all_goals (go_ret; exact ⟨rfl, Below.refl _ _⟩)
  have hlt : i < a0.size := by omega
  have tn : ((i : Int) == (a0.size : Int)) = false := by simp only [beq_eq_false_iff_ne]; omega
  clear hend
  by_cases h38 : bt a0 i = 38
  · have t38 : (bt a0 i != 38) = false := by simp [h38]
    have hboth : Hid (NoOther a0 → BothYes a0 i ∨ BothNo a0 i) := fun hN => ent_both a0 i hz hlt h38 hN
    clear h38
    go_enter Tryz.func3, Tryz.ntmps3
    go_wp2_with (first | (go_at_call 4; refine (inside_c _ _ _ w0 _).mono ?_; rintro e w1 ⟨rfl, rfl⟩; rw [hin'.out]))
    refine (other_c a0 (by omega) _).mono ?_
    rintro e w1 ⟨b, rfl, hN, rfl⟩
    cases b
    · rcases hboth.out (hN.out rfl) with ⟨text, n, n0, n1, cI, cS⟩ | ⟨cI, cS⟩
      · have m1 : i + n ≤ 200 := by omega
        replace cI := Lib.hid cI
        replace cS := Lib.hid cS
        go_wp2_with (first | (go_at_call 6; refine (cI.out _ hE'.out).mono ?_; rintro e w2 ⟨rfl, hB⟩) | (go_at_call 7; refine (cS.out _).mono ?_; rintro e w3 ⟨rfl, rfl⟩))
        go_ret
        exact ⟨by simp, hB.alloc hB.size _⟩
      · replace cI := Lib.hid cI
        replace cS := Lib.hid cS
        go_wp2_with (first | (go_at_call 6; refine (cI.out _ hE'.out).mono ?_; rintro e w2 ⟨rfl, hB⟩) | (go_at_call 7; refine (cS.out _).mono ?_; rintro e w3 ⟨rfl, rfl⟩))
        go_ret
        exact ⟨by simp, hB.alloc hB.size _⟩
    · go_wp2_with fail
      go_ret
      exact ⟨rfl, Below.refl _ _⟩
  · have t38 : (bt a0 i != 38) = true := by simp [h38]
    go_enter Tryz.func3, Tryz.ntmps3
    go_wp2_with (first | (go_at_call 4; refine (inside_c _ _ _ w0 _).mono ?_; rintro e w1 ⟨rfl, rfl⟩; rw [hin'.out]))
    all_goals (go_ret; exact ⟨rfl, Below.refl _ _⟩)

/-- the door's own heap meets the condition: three closed facts -/
theorem door_met (os : Os) (args : Array Value) : laidMetH Tryz.prog Rows.fnEntityRow.laid ((World.doorLaid Tryz.prog 79 os).forCall (fun _ _ => 0) ⟨#[], args, []⟩).memory :=
  laidMetH_of_parts3 (fuel := 8) (laidMet_of_run' 8 (by kernel_rfl) (by kernel_rfl)) (by kernel_rfl) (by kernel_rfl)

set_option maxRecDepth 100000 in
theorem lifted (os : Os) (started : os.Started) (H : Type) (enc : TypeId × Value → H) :
    ReturnsInHanded {} Tryz.checked os 3 .any (fun w args => (Rows.fnEntitySpec.pre enc Tryz.prog Tryz.f3 Rows.fnEntityRow.domain false w args ∧ laidMetH Tryz.prog Rows.fnEntityRow.laid w) ∧ sizedMet enc Tryz.prog Tryz.f3 (OpenSpec.ofChange Rows.fnEntitySpec) false w args)
      (Rows.fnEntitySpec.post enc Tryz.prog Tryz.f3 false true false false) := by
  refine returnsInHanded_of_change_and (C := Tryz.checked) (X := fun w _ => laidMetH Tryz.prog Rows.fnEntityRow.laid w) (fun _ _ _ hh h => h.of_heap hh) own started (by kernel_rfl) Tryz.func3
    (ChangeSpec.witness_shaped (enc := enc) (C := Tryz.checked) (os := os) (X := fun w _ => laidMetH Tryz.prog Rows.fnEntityRow.laid w) false (World.doorLaid Tryz.prog 79 os) #[.string ByteArray.empty, .int .i64 0] 8 rfl (World.shaped_of_RefB (by kernel_rfl) (by kernel_rfl)) (by kernel_rfl) (by kernel_rfl) (by kernel_rfl) (door_met os _)) ?_
  intro W base args ds gs before hval0 hW _ _ hL _
  have hval : ∀ (j : Nat) t v, Tryz.f3.params[j]? = some t → args[j]? = some v → Value.okWide Tryz.prog W .any base t v := hval0
  have hW' := hW
  obtain ⟨p, q, hA0, hV, rfl, hfz, hnd⟩ := hW
  have hA : DataW.TrodAll enc Tryz.prog W 0 (fun _ => true) true Tryz.f3.params.toList args.toList ds p := hA0
  rw [Tryz.params3] at hA hval
  obtain ⟨v0, vs0, d0, ds0, p0, q0, hargs, rfl, rfl, h0, r0⟩ := trodAll_cons hA
  obtain ⟨v1, vs1, d1, ds1, p1, q1, rfl, rfl, rfl, h1, r1⟩ := trodAll_cons r0
  obtain ⟨rfl, rfl, rfl⟩ := trodAll_nil r1
  obtain rfl : args = #[v0, v1] := by cases args; simp_all
  obtain ⟨rfl, rfl⟩ := trodVars_none hV
  obtain ⟨a0, rfl, rfl, rfl, w0⟩ := open_string Tryz.underlying9 (hval 0 9 v0 rfl rfl) h0
  obtain ⟨a1, rfl, rfl, rfl, w1⟩ := open_int Tryz.underlying3 (hval 1 3 v1 rfl rfl) h1
  clear hA0 hval0
  refine (walk a0 a1 w0 w1 W (entAt_of_laid hL)).mono fun e W' ⟨he, hg⟩ => ?_
  subst he
  exact ⟨_, rfl, _, _, _, [], _, [], hW', trodAll_mk1 (shut_bool Tryz.underlying4 _), (trodAll_cons_mk (shut_string Tryz.underlying9 w0) (trodAll_cons_mk (shut_int Tryz.underlying3 w1) trodAll_mk0)), rfl, hg.frame _, fun h => by cases h⟩

theorem over : Rows.fnEntityRow.holds Tryz.pinned (OpenSpec.ofChange Rows.fnEntitySpec) :=
  OpenClaim.holds_of_wide 3 Tryz.f3 rfl rfl rfl rfl rfl rfl rfl ⟨rfl, rfl, rfl, rfl, rfl⟩ rfl rfl rfl rfl rfl (by kernel_rfl) Tryz.func3 (by kernel_rfl)
    (of_decide_eq_true (by kernel_rfl)) (by unfold Func.isWrapper; first | (rw [if_pos (by decide +kernel)]; kernel_rfl) | (rw [if_neg (by decide +kernel)]; exact ⟨rfl, rfl⟩))
    (fun os started H enc _ => lifted os started H enc)

theorem proved : Rows.FnEntityCardSaid :=
  Claim7.holds_tied_plain_at .later [] [.data, .data, .data, .sentinel, .sentinel, .data] true (true, "3e51b8345f78d0607c5724530ba721f20fdf7b491afe51441b49d8fc4738ae88") true
    over (fun _ h => by cases h) (by kernel_rfl) (fun _ h => by cases h) fnEntity_row_tie rfl ⟨rfl, rfl⟩ (by kernel_rfl) rfl
    (fun f fn hf hfn => by
      obtain rfl : f = 3 := Option.some.inj ((show Tryz.prog.funcNamed "pub-paratext/laws.FnEntity" = some 3 by kernel_rfl).symm.trans hf) |>.symm
      obtain rfl : fn = Tryz.f3 := (Option.some.inj (Tryz.func3.symm.trans hfn)).symm
      exact ⟨by kernel_rfl, fun j t ht => by
        rw [Tryz.params3] at ht
        have hm : t ∈ [9, 3] := by simpa using Array.mem_of_getElem? ht
        have hall : ([9, 3].all fun u => !Tryz.prog.wantsStandIn u) = true := by kernel_rfl
        exact (show Tryz.prog.wantsStandIn t = false by simpa using List.all_eq_true.1 hall t hm)⟩)
    (by kernel_rfl)
#print axioms proved
end Go.Proofs.YthgdgpoblbblpaaGreatDoor.fnEntity
