/- Proves FnEscapeQuote: what the quoting escaper makes has no quotation mark, is not shorter, and is what the plain escaper makes. Condition: the row's own, that the listed variable reads as told; the walk does not meet it. The frame below is as the kit's shell writes it. -/
import Derived.Test.YtiilhmagepncgaaDoorRows
import Derived.Test.YtiilhmagepncgaaDoorCards
import Derived.Test.YtiilhmagepncgaaDoorTie
import Derived.SevenTiedAt
import Derived.LaidMore
import Derived.Stop.Joined
import Derived.Test.YtiilhmagepncgaaDoorEsc
import Derived.Test.YtiilhmagepncgaaDoorIdx
import Derived.WalkKit
import Derived.ProofKit
import Derived.OpenShut
import Derived.ShutString
import Derived.ChangeOld
import Derived.Below
namespace Go.Proofs.YtiilhmagepncgaaDoor.fnEscapeQuote
open Go.ChangeShapes Go.WideShapes Go.ChangeAt Go.RowKit
open Go.ChangeMaps (open_string shut_string)
open Go.PlainAid W
set_option linter.unusedVariables false

theorem own : ownKnob Tryd.prog.godebug = none := by kernel_rfl

set_option maxHeartbeats 4000000 in
set_option maxRecDepth 100000 in
theorem walk (a0 : ByteArray) (w0 : a0.size ≤ maxLen) (w : World) :
    Calls Tryd.prog 3 #[.string a0] w fun e w' => e = .returned (.bool true) ∧ Below w.heap.size w w' := by
  by_cases hs : a0.size ≤ 2000
  · obtain ⟨E, hE⟩ : ∃ E : ByteArray, E = ⟨(escTo a0 a0.size).toArray⟩ := ⟨_, rfl⟩
    obtain ⟨f1, f2, f3⟩ := escTo_facts a0 a0.size
    have hz : E.size = (escTo a0 a0.size).length := by rw [hE]; rfl
    have hno : ∀ k, k < E.size → bt E k ≠ 34 := by
      intro k hk
      rw [hz] at hk
      rw [hE, bt_toArray, List.getD_eq_getElem?_getD, List.getElem?_eq_getElem hk]
      have := f3 _ (List.getElem_mem hk)
      intro h
      refine this (UInt8.toNat_inj.1 ?_)
      have h2 : (((escTo a0 a0.size)[k].toNat : Nat) : Int) = 34 := by simpa using h
      show (escTo a0 a0.size)[k].toNat = 34
      omega
    have cQ : ∀ w, Calls Tryd.prog 4 #[.string a0] w fun e w1 => e = .returned (.string E) ∧ Below w.heap.size w w1 := by rw [hE]; exact EscapeQuote_c a0 hs
    have cH : ∀ w, Calls Tryd.prog 6 #[.string a0] w fun e w1 => e = .returned (.string E) ∧ Below w.heap.size w w1 := by rw [hE]; exact EscapeHTML_c a0 hs
    have z1 : a0.size ≤ E.size := by omega
    have z2 : E.size ≤ 12000 := by omega
    clear hE hz f1 f2 f3
    replace hno := Lib.hid hno
    have hq : (∀ w, Calls Tryd.prog 5 #[.string a0, .int .u8 34] w fun e w1 => ∃ n : Int, e = .returned (.int .i64 n) ∧ 0 ≤ n ∧ w = w1) ∨ (∀ w, Calls Tryd.prog 5 #[.string a0, .int .u8 34] w fun e w1 => ∃ n : Int, e = .returned (.int .i64 n) ∧ n < 0 ∧ w = w1) := by
      cases hi : inB a0 34
      · exact .inr fun w => (idx_in a0 34 w).mono fun _ _ ⟨n, he, hn, hw⟩ => ⟨n, he, by have := hn.out; rw [hi] at this; simpa using this, hw⟩
      · exact .inl fun w => (idx_in a0 34 w).mono fun _ _ ⟨n, he, hn, hw⟩ => ⟨n, he, by have := hn.out; rw [hi] at this; simpa using this, hw⟩
    rcases hq with hq | hq
    · go_enter Tryd.func3, Tryd.ntmps3
      go_wp2_with (first | (go_at_call 4; refine (cQ _).mono ?_; rintro e w1 ⟨rfl, hB⟩) | (go_at_call 5; refine (idx_no E 34 (by omega) (by omega) hno.out _).mono ?_; rintro e w1 ⟨rfl, rfl⟩) | (go_at_call 5; refine (hq _).mono ?_; rintro e w1 ⟨n, rfl, hn, rfl⟩) | (go_at_call 6; refine (cH _).mono ?_; rintro e w1 ⟨rfl, hB2⟩))
      go_ret
      exact ⟨rfl, hB⟩
    · go_enter Tryd.func3, Tryd.ntmps3
      go_wp2_with (first | (go_at_call 4; refine (cQ _).mono ?_; rintro e w1 ⟨rfl, hB⟩) | (go_at_call 5; refine (idx_no E 34 (by omega) (by omega) hno.out _).mono ?_; rintro e w1 ⟨rfl, rfl⟩) | (go_at_call 5; refine (hq _).mono ?_; rintro e w1 ⟨n, rfl, hn, rfl⟩) | (go_at_call 6; refine (cH _).mono ?_; rintro e w1 ⟨rfl, hB2⟩))
      go_ret
      exact ⟨by simp, hB.trans (hB2.mono hB.size)⟩
  · have hs2 : 2000 < a0.size := by omega
    by_cases hm : 2147483647 < a0.size
    all_goals
      go_enter Tryd.func3, Tryd.ntmps3
      go_wp2
      go_ret
      exact ⟨rfl, Below.refl _ _⟩

/-- the door's own heap meets the condition: three closed facts -/
theorem door_met (os : Os) (args : Array Value) : laidMetH Tryd.prog Rows.fnEscapeQuoteRow.laid ((World.doorLaid Tryd.prog 28 os).forCall (fun _ _ => 0) ⟨#[], args, []⟩).memory :=
  laidMetH_of_parts3 (fuel := 8) (laidMet_of_run' 8 (by kernel_rfl) (by kernel_rfl)) (by kernel_rfl) (by kernel_rfl)

set_option maxRecDepth 100000 in
theorem lifted (os : Os) (started : os.Started) (H : Type) (enc : TypeId × Value → H) :
    ReturnsInHanded {} Tryd.checked os 3 .any (fun w args => (Rows.fnEscapeQuoteSpec.pre enc Tryd.prog Tryd.f3 Rows.fnEscapeQuoteRow.domain false w args ∧ laidMetH Tryd.prog Rows.fnEscapeQuoteRow.laid w) ∧ sizedMet enc Tryd.prog Tryd.f3 (OpenSpec.ofChange Rows.fnEscapeQuoteSpec) false w args)
      (Rows.fnEscapeQuoteSpec.post enc Tryd.prog Tryd.f3 false true false false) := by
  refine returnsInHanded_of_change_and (C := Tryd.checked) (X := fun w _ => laidMetH Tryd.prog Rows.fnEscapeQuoteRow.laid w) (fun _ _ _ hh h => h.of_heap hh) own started (by kernel_rfl) Tryd.func3
    (ChangeSpec.witness_shaped (enc := enc) (C := Tryd.checked) (os := os) (X := fun w _ => laidMetH Tryd.prog Rows.fnEscapeQuoteRow.laid w) false (World.doorLaid Tryd.prog 28 os) #[.string ByteArray.empty] 8 rfl (World.shaped_of_RefB (by kernel_rfl) (by kernel_rfl)) (by kernel_rfl) (by kernel_rfl) (by kernel_rfl) (door_met os _)) ?_
  intro W base args ds gs before hval0 hW _ _ hL _
  have hval : ∀ (j : Nat) t v, Tryd.f3.params[j]? = some t → args[j]? = some v → Value.okWide Tryd.prog W .any base t v := hval0
  have hW' := hW
  obtain ⟨p, q, hA0, hV, rfl, hfz, hnd⟩ := hW
  have hA : DataW.TrodAll enc Tryd.prog W 0 (fun _ => true) true Tryd.f3.params.toList args.toList ds p := hA0
  rw [Tryd.params3] at hA hval
  obtain ⟨v0, vs0, d0, ds0, p0, q0, hargs, rfl, rfl, h0, r0⟩ := trodAll_cons hA
  obtain ⟨rfl, rfl, rfl⟩ := trodAll_nil r0
  obtain rfl : args = #[v0] := by cases args; simp_all
  obtain ⟨rfl, rfl⟩ := trodVars_none hV
  obtain ⟨a0, rfl, rfl, rfl, w0⟩ := open_string Tryd.underlying9 (hval 0 9 v0 rfl rfl) h0
  clear hA0 hval0
  refine (walk a0 w0 W).mono fun e W' ⟨he, hg⟩ => ?_
  subst he
  exact ⟨_, rfl, _, _, _, [], _, [], hW', trodAll_mk1 (shut_bool Tryd.underlying4 _), (trodAll_cons_mk (shut_string Tryd.underlying9 w0) trodAll_mk0), rfl, hg.frame _, fun h => by cases h⟩

theorem over : Rows.fnEscapeQuoteRow.holds Tryd.pinned (OpenSpec.ofChange Rows.fnEscapeQuoteSpec) :=
  OpenClaim.holds_of_wide 3 Tryd.f3 rfl rfl rfl rfl rfl rfl rfl ⟨rfl, rfl, rfl, rfl, rfl⟩ rfl rfl rfl rfl rfl (by kernel_rfl) Tryd.func3 (by kernel_rfl)
    (of_decide_eq_true (by kernel_rfl)) (by unfold Func.isWrapper; first | (rw [if_pos (by decide +kernel)]; kernel_rfl) | (rw [if_neg (by decide +kernel)]; exact ⟨rfl, rfl⟩))
    (fun os started H enc _ => lifted os started H enc)

theorem proved : Rows.FnEscapeQuoteCardSaid :=
  Claim7.holds_tied_plain_at .later [] [.sentinel] true (true, "8d0d092384e285e8deefd9bd38ae80e8e2bcddc2801c98e3250e5b7a862215ca") false
    over (fun _ h => by cases h) (by kernel_rfl) (fun _ h => by cases h) fnEscapeQuote_row_tie rfl ⟨rfl, rfl⟩ (by kernel_rfl) rfl
    (fun f fn hf hfn => by
      obtain rfl : f = 3 := Option.some.inj ((show Tryd.prog.funcNamed "pub-paratext/laws.FnEscapeQuote" = some 3 by kernel_rfl).symm.trans hf) |>.symm
      obtain rfl : fn = Tryd.f3 := (Option.some.inj (Tryd.func3.symm.trans hfn)).symm
      exact ⟨by kernel_rfl, fun j t ht => by
        rw [Tryd.params3] at ht
        have hm : t ∈ [9] := by simpa using Array.mem_of_getElem? ht
        have hall : ([9].all fun u => !Tryd.prog.wantsStandIn u) = true := by kernel_rfl
        exact (show Tryd.prog.wantsStandIn t = false by simpa using List.all_eq_true.1 hall t hm)⟩)
    (by kernel_rfl)
#print axioms proved
end Go.Proofs.YtiilhmagepncgaaDoor.fnEscapeQuote
