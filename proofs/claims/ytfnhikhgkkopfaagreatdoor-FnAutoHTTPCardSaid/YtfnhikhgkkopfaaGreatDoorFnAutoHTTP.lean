/- FnAutoHTTP returns true for all strings and both flags: an address with http or https, a domain and a path of letters and slashes is one link to itself, among words. Condition: the row's own, that the listed variables read as told; the walk does not meet them. The frame below is as the kit's shell writes it. -/
import Derived.Test.YtfnhikhgkkopfaaGreatDoorRows
import Derived.Test.YtfnhikhgkkopfaaGreatDoorCards
import Derived.Test.YtfnhikhgkkopfaaGreatDoorTie
import Derived.SevenTiedAt
import Derived.LaidMore
import Derived.Lay
import Derived.Stop.Joined
import Derived.Test.YtfnhikhgkkopfaaGreatDoorWhole
import Derived.WalkKit
import Derived.ProofKit
import Derived.OpenShut
import Derived.ShutString
import Derived.ChangeOld
import Derived.Below
namespace Go.Proofs.YtfnhikhgkkopfaaGreatDoor.fnAutoHTTP
open Go.ChangeShapes Go.WideShapes Go.ChangeAt Go.RowKit
open Go.ChangeMaps (open_string shut_string)
open Go.PlainAid W
set_option linter.unusedVariables false

theorem own : ownKnob Tryz.prog.godebug = none := by kernel_rfl

set_option maxHeartbeats 4000000 in
set_option maxRecDepth 100000 in
theorem walk (a0 : ByteArray) (a1 : ByteArray) (a2 : ByteArray) (a3 : ByteArray) (a4 : ByteArray) (a5 : Bool) (w0 : a0.size ≤ maxLen) (w1 : a1.size ≤ maxLen) (w2 : a2.size ≤ maxLen) (w3 : a3.size ≤ maxLen) (w4 : a4.size ≤ maxLen) (w : World) :
    Calls Tryz.prog 3 #[.string a0, .string a1, .string a2, .string a3, .string a4, .bool a5] w fun e w' => e = .returned (.bool true) ∧ Below w.heap.size w w' := by
  cases h0 : onlyB a0 ⟨#[97, 98, 99, 32]⟩ 20
  · replace h0 := Lib.hid h0
    go_enter Tryz.func3, Tryz.ntmps3
    go_wp2_with (first | (go_at_call 4; refine (only_c _ _ _ (by assumption) _).mono ?_; rintro e u1 ⟨rfl, rfl⟩; first | rw [h0.out]))
    all_goals (go_ret; exact ⟨rfl, Below.refl _ _⟩)
  cases h4 : onlyB a4 ⟨#[97, 98, 99, 32]⟩ 20
  · replace h0 := Lib.hid h0
    replace h4 := Lib.hid h4
    go_enter Tryz.func3, Tryz.ntmps3
    go_wp2_with (first | (go_at_call 4; refine (only_c _ _ _ (by assumption) _).mono ?_; rintro e u1 ⟨rfl, rfl⟩; first | rw [h0.out] | rw [h4.out]))
    all_goals (go_ret; exact ⟨rfl, Below.refl _ _⟩)
  cases h1 : wordsB a1
  · replace h0 := Lib.hid h0
    replace h4 := Lib.hid h4
    replace h1 := Lib.hid h1
    go_enter Tryz.func3, Tryz.ntmps3
    go_wp2_with (first | (go_at_call 4; refine (only_c _ _ _ (by assumption) _).mono ?_; rintro e u1 ⟨rfl, rfl⟩; first | rw [h0.out] | rw [h4.out]) | (go_at_call 5; refine (word_c _ (by assumption) _).mono ?_; rintro e u1 ⟨rfl, rfl⟩; first | rw [h1.out]))
    all_goals (go_ret; exact ⟨rfl, Below.refl _ _⟩)
  cases h2 : wordsB a2
  · replace h0 := Lib.hid h0
    replace h4 := Lib.hid h4
    replace h1 := Lib.hid h1
    replace h2 := Lib.hid h2
    go_enter Tryz.func3, Tryz.ntmps3
    go_wp2_with (first | (go_at_call 4; refine (only_c _ _ _ (by assumption) _).mono ?_; rintro e u1 ⟨rfl, rfl⟩; first | rw [h0.out] | rw [h4.out]) | (go_at_call 5; refine (word_c _ (by assumption) _).mono ?_; rintro e u1 ⟨rfl, rfl⟩; first | rw [h1.out] | rw [h2.out]))
    all_goals (go_ret; exact ⟨rfl, Below.refl _ _⟩)
  cases h3 : onlyB a3 ⟨#[97, 98, 47]⟩ 20
  · replace h0 := Lib.hid h0
    replace h4 := Lib.hid h4
    replace h1 := Lib.hid h1
    replace h2 := Lib.hid h2
    replace h3 := Lib.hid h3
    go_enter Tryz.func3, Tryz.ntmps3
    go_wp2_with (first | (go_at_call 4; refine (only_c _ _ _ (by assumption) _).mono ?_; rintro e u1 ⟨rfl, rfl⟩; first | rw [h0.out] | rw [h4.out] | rw [h3.out]) | (go_at_call 5; refine (word_c _ (by assumption) _).mono ?_; rintro e u1 ⟨rfl, rfl⟩; first | rw [h1.out] | rw [h2.out]))
    all_goals (go_ret; exact ⟨rfl, Below.refl _ _⟩)
  have n0 : a0.size ≤ 20 := by have := ((onlyB_iff _ _ _).1 h0).1; omega
  have n4 : a4.size ≤ 20 := by have := ((onlyB_iff _ _ _).1 h4).1; omega
  have n3 : a3.size ≤ 20 := by have := ((onlyB_iff _ _ _).1 h3).1; omega
  have n1 : a1.size ≤ 20 := (wordsB_true h1).2.1
  have n2 : a2.size ≤ 20 := (wordsB_true h2).2.1
  cases a5
  · cases e3 : a3.toList.isEmpty
    · cases e0 : a0.toList.isEmpty
      · obtain ⟨n, It, m0, m3, cA, hok, hy⟩ := law_mid (A := a0) (U := ⟨#[104, 116, 116, 112, 58, 47, 47]⟩ ++ a1 ++ ⟨#[46]⟩ ++ a2 ++ (⟨#[47]⟩ ++ a3)) (B := a4) sch7 (path_c sch7 h1 h2 h3) (by decide) h0 h4
        replace h0 := Lib.hid h0
        replace h4 := Lib.hid h4
        replace h1 := Lib.hid h1
        replace h2 := Lib.hid h2
        replace h3 := Lib.hid h3
        replace cA := Lib.hid cA
        replace hok := Lib.hid hok
        replace hy := Lib.hid hy
        go_enter Tryz.func3, Tryz.ntmps3
        go_wp2_with (first | (go_at_call 4; refine (only_c _ _ _ (by assumption) _).mono ?_; rintro e u1 ⟨rfl, rfl⟩; first | rw [h0.out] | rw [h4.out] | rw [h3.out]) | (go_at_call 5; refine (word_c _ (by assumption) _).mono ?_; rintro e u1 ⟨rfl, rfl⟩; first | rw [h1.out] | rw [h2.out]) | (go_at_call 7; refine (cA.out _).mono ?_; rintro e u1 ⟨g, cap, rfl, k1, k2, k3⟩; replace k3 := Lib.hid k3) | (go_at_call 6; refine (inlinesHTML_c n m0 m3 It g cap _ k3.out k2 hok.out).mono ?_; rintro e u2 ⟨rfl, k4⟩; rw [hy.out, asked]))
        go_ret
        exact ⟨by simp, k1.trans (k4.mono k1.size)⟩
      · obtain ⟨n, It, m0, m3, cA, hok, hy⟩ := law_head (A := a0) (U := ⟨#[104, 116, 116, 112, 58, 47, 47]⟩ ++ a1 ++ ⟨#[46]⟩ ++ a2 ++ (⟨#[47]⟩ ++ a3)) (B := a4) sch7 (path_c sch7 h1 h2 h3) (by decide) e0 h4
        replace h0 := Lib.hid h0
        replace h4 := Lib.hid h4
        replace h1 := Lib.hid h1
        replace h2 := Lib.hid h2
        replace h3 := Lib.hid h3
        replace cA := Lib.hid cA
        replace hok := Lib.hid hok
        replace hy := Lib.hid hy
        go_enter Tryz.func3, Tryz.ntmps3
        go_wp2_with (first | (go_at_call 4; refine (only_c _ _ _ (by assumption) _).mono ?_; rintro e u1 ⟨rfl, rfl⟩; first | rw [h0.out] | rw [h4.out] | rw [h3.out]) | (go_at_call 5; refine (word_c _ (by assumption) _).mono ?_; rintro e u1 ⟨rfl, rfl⟩; first | rw [h1.out] | rw [h2.out]) | (go_at_call 7; refine (cA.out _).mono ?_; rintro e u1 ⟨g, cap, rfl, k1, k2, k3⟩; replace k3 := Lib.hid k3) | (go_at_call 6; refine (inlinesHTML_c n m0 m3 It g cap _ k3.out k2 hok.out).mono ?_; rintro e u2 ⟨rfl, k4⟩; rw [hy.out, asked]))
        go_ret
        exact ⟨by simp, k1.trans (k4.mono k1.size)⟩
    · cases e0 : a0.toList.isEmpty
      · obtain ⟨n, It, m0, m3, cA, hok, hy⟩ := law_mid (A := a0) (U := ⟨#[104, 116, 116, 112, 58, 47, 47]⟩ ++ a1 ++ ⟨#[46]⟩ ++ a2) (B := a4) sch7 (base_c sch7 h1 h2) (by decide) h0 h4
        replace h0 := Lib.hid h0
        replace h4 := Lib.hid h4
        replace h1 := Lib.hid h1
        replace h2 := Lib.hid h2
        replace h3 := Lib.hid h3
        replace cA := Lib.hid cA
        replace hok := Lib.hid hok
        replace hy := Lib.hid hy
        go_enter Tryz.func3, Tryz.ntmps3
        go_wp2_with (first | (go_at_call 4; refine (only_c _ _ _ (by assumption) _).mono ?_; rintro e u1 ⟨rfl, rfl⟩; first | rw [h0.out] | rw [h4.out] | rw [h3.out]) | (go_at_call 5; refine (word_c _ (by assumption) _).mono ?_; rintro e u1 ⟨rfl, rfl⟩; first | rw [h1.out] | rw [h2.out]) | (go_at_call 7; refine (cA.out _).mono ?_; rintro e u1 ⟨g, cap, rfl, k1, k2, k3⟩; replace k3 := Lib.hid k3) | (go_at_call 6; refine (inlinesHTML_c n m0 m3 It g cap _ k3.out k2 hok.out).mono ?_; rintro e u2 ⟨rfl, k4⟩; rw [hy.out, asked]))
        go_ret
        exact ⟨by simp, k1.trans (k4.mono k1.size)⟩
      · obtain ⟨n, It, m0, m3, cA, hok, hy⟩ := law_head (A := a0) (U := ⟨#[104, 116, 116, 112, 58, 47, 47]⟩ ++ a1 ++ ⟨#[46]⟩ ++ a2) (B := a4) sch7 (base_c sch7 h1 h2) (by decide) e0 h4
        replace h0 := Lib.hid h0
        replace h4 := Lib.hid h4
        replace h1 := Lib.hid h1
        replace h2 := Lib.hid h2
        replace h3 := Lib.hid h3
        replace cA := Lib.hid cA
        replace hok := Lib.hid hok
        replace hy := Lib.hid hy
        go_enter Tryz.func3, Tryz.ntmps3
        go_wp2_with (first | (go_at_call 4; refine (only_c _ _ _ (by assumption) _).mono ?_; rintro e u1 ⟨rfl, rfl⟩; first | rw [h0.out] | rw [h4.out] | rw [h3.out]) | (go_at_call 5; refine (word_c _ (by assumption) _).mono ?_; rintro e u1 ⟨rfl, rfl⟩; first | rw [h1.out] | rw [h2.out]) | (go_at_call 7; refine (cA.out _).mono ?_; rintro e u1 ⟨g, cap, rfl, k1, k2, k3⟩; replace k3 := Lib.hid k3) | (go_at_call 6; refine (inlinesHTML_c n m0 m3 It g cap _ k3.out k2 hok.out).mono ?_; rintro e u2 ⟨rfl, k4⟩; rw [hy.out, asked]))
        go_ret
        exact ⟨by simp, k1.trans (k4.mono k1.size)⟩
  · cases e3 : a3.toList.isEmpty
    · cases e0 : a0.toList.isEmpty
      · obtain ⟨n, It, m0, m3, cA, hok, hy⟩ := law_mid (A := a0) (U := ⟨#[104, 116, 116, 112, 115, 58, 47, 47]⟩ ++ a1 ++ ⟨#[46]⟩ ++ a2 ++ (⟨#[47]⟩ ++ a3)) (B := a4) sch8 (path_c sch8 h1 h2 h3) (by decide) h0 h4
        replace h0 := Lib.hid h0
        replace h4 := Lib.hid h4
        replace h1 := Lib.hid h1
        replace h2 := Lib.hid h2
        replace h3 := Lib.hid h3
        replace cA := Lib.hid cA
        replace hok := Lib.hid hok
        replace hy := Lib.hid hy
        go_enter Tryz.func3, Tryz.ntmps3
        go_wp2_with (first | (go_at_call 4; refine (only_c _ _ _ (by assumption) _).mono ?_; rintro e u1 ⟨rfl, rfl⟩; first | rw [h0.out] | rw [h4.out] | rw [h3.out]) | (go_at_call 5; refine (word_c _ (by assumption) _).mono ?_; rintro e u1 ⟨rfl, rfl⟩; first | rw [h1.out] | rw [h2.out]) | (go_at_call 7; refine (cA.out _).mono ?_; rintro e u1 ⟨g, cap, rfl, k1, k2, k3⟩; replace k3 := Lib.hid k3) | (go_at_call 6; refine (inlinesHTML_c n m0 m3 It g cap _ k3.out k2 hok.out).mono ?_; rintro e u2 ⟨rfl, k4⟩; rw [hy.out, asked]))
        go_ret
        exact ⟨by simp, k1.trans (k4.mono k1.size)⟩
      · obtain ⟨n, It, m0, m3, cA, hok, hy⟩ := law_head (A := a0) (U := ⟨#[104, 116, 116, 112, 115, 58, 47, 47]⟩ ++ a1 ++ ⟨#[46]⟩ ++ a2 ++ (⟨#[47]⟩ ++ a3)) (B := a4) sch8 (path_c sch8 h1 h2 h3) (by decide) e0 h4
        replace h0 := Lib.hid h0
        replace h4 := Lib.hid h4
        replace h1 := Lib.hid h1
        replace h2 := Lib.hid h2
        replace h3 := Lib.hid h3
        replace cA := Lib.hid cA
        replace hok := Lib.hid hok
        replace hy := Lib.hid hy
        go_enter Tryz.func3, Tryz.ntmps3
        go_wp2_with (first | (go_at_call 4; refine (only_c _ _ _ (by assumption) _).mono ?_; rintro e u1 ⟨rfl, rfl⟩; first | rw [h0.out] | rw [h4.out] | rw [h3.out]) | (go_at_call 5; refine (word_c _ (by assumption) _).mono ?_; rintro e u1 ⟨rfl, rfl⟩; first | rw [h1.out] | rw [h2.out]) | (go_at_call 7; refine (cA.out _).mono ?_; rintro e u1 ⟨g, cap, rfl, k1, k2, k3⟩; replace k3 := Lib.hid k3) | (go_at_call 6; refine (inlinesHTML_c n m0 m3 It g cap _ k3.out k2 hok.out).mono ?_; rintro e u2 ⟨rfl, k4⟩; rw [hy.out, asked]))
        go_ret
        exact ⟨by simp, k1.trans (k4.mono k1.size)⟩
    · cases e0 : a0.toList.isEmpty
      · obtain ⟨n, It, m0, m3, cA, hok, hy⟩ := law_mid (A := a0) (U := ⟨#[104, 116, 116, 112, 115, 58, 47, 47]⟩ ++ a1 ++ ⟨#[46]⟩ ++ a2) (B := a4) sch8 (base_c sch8 h1 h2) (by decide) h0 h4
        replace h0 := Lib.hid h0
        replace h4 := Lib.hid h4
        replace h1 := Lib.hid h1
        replace h2 := Lib.hid h2
        replace h3 := Lib.hid h3
        replace cA := Lib.hid cA
        replace hok := Lib.hid hok
        replace hy := Lib.hid hy
        go_enter Tryz.func3, Tryz.ntmps3
        go_wp2_with (first | (go_at_call 4; refine (only_c _ _ _ (by assumption) _).mono ?_; rintro e u1 ⟨rfl, rfl⟩; first | rw [h0.out] | rw [h4.out] | rw [h3.out]) | (go_at_call 5; refine (word_c _ (by assumption) _).mono ?_; rintro e u1 ⟨rfl, rfl⟩; first | rw [h1.out] | rw [h2.out]) | (go_at_call 7; refine (cA.out _).mono ?_; rintro e u1 ⟨g, cap, rfl, k1, k2, k3⟩; replace k3 := Lib.hid k3) | (go_at_call 6; refine (inlinesHTML_c n m0 m3 It g cap _ k3.out k2 hok.out).mono ?_; rintro e u2 ⟨rfl, k4⟩; rw [hy.out, asked]))
        go_ret
        exact ⟨by simp, k1.trans (k4.mono k1.size)⟩
      · obtain ⟨n, It, m0, m3, cA, hok, hy⟩ := law_head (A := a0) (U := ⟨#[104, 116, 116, 112, 115, 58, 47, 47]⟩ ++ a1 ++ ⟨#[46]⟩ ++ a2) (B := a4) sch8 (base_c sch8 h1 h2) (by decide) e0 h4
        replace h0 := Lib.hid h0
        replace h4 := Lib.hid h4
        replace h1 := Lib.hid h1
        replace h2 := Lib.hid h2
        replace h3 := Lib.hid h3
        replace cA := Lib.hid cA
        replace hok := Lib.hid hok
        replace hy := Lib.hid hy
        go_enter Tryz.func3, Tryz.ntmps3
        go_wp2_with (first | (go_at_call 4; refine (only_c _ _ _ (by assumption) _).mono ?_; rintro e u1 ⟨rfl, rfl⟩; first | rw [h0.out] | rw [h4.out] | rw [h3.out]) | (go_at_call 5; refine (word_c _ (by assumption) _).mono ?_; rintro e u1 ⟨rfl, rfl⟩; first | rw [h1.out] | rw [h2.out]) | (go_at_call 7; refine (cA.out _).mono ?_; rintro e u1 ⟨g, cap, rfl, k1, k2, k3⟩; replace k3 := Lib.hid k3) | (go_at_call 6; refine (inlinesHTML_c n m0 m3 It g cap _ k3.out k2 hok.out).mono ?_; rintro e u2 ⟨rfl, k4⟩; rw [hy.out, asked]))
        go_ret
        exact ⟨by simp, k1.trans (k4.mono k1.size)⟩

set_option maxRecDepth 100000 in
theorem lifted (os : Os) (started : os.Started) (H : Type) (enc : TypeId × Value → H) :
    ReturnsInHanded {} Tryz.checked os 3 .any (fun w args => (Rows.fnAutoHTTPSpec.pre enc Tryz.prog Tryz.f3 Rows.fnAutoHTTPRow.domain false w args ∧ laidMetH Tryz.prog Rows.fnAutoHTTPRow.laid w) ∧ sizedMet enc Tryz.prog Tryz.f3 (OpenSpec.ofChange Rows.fnAutoHTTPSpec) false w args)
      (Rows.fnAutoHTTPSpec.post enc Tryz.prog Tryz.f3 false true false false) := by
  refine returnsInHanded_of_change_and (C := Tryz.checked) (X := fun w _ => laidMetH Tryz.prog Rows.fnAutoHTTPRow.laid w) (fun _ _ _ hh h => h.of_heap hh) own started (by kernel_rfl) Tryz.func3
    (ChangeSpec.witness_shaped (enc := enc) (C := Tryz.checked) (os := os) (X := fun w _ => laidMetH Tryz.prog Rows.fnAutoHTTPRow.laid w) false (World.laidAll Tryz.prog os Rows.fnAutoHTTPRow.laid) #[.string ByteArray.empty, .string ByteArray.empty, .string ByteArray.empty, .string ByteArray.empty, .string ByteArray.empty, .bool false] 8 (World.laidAll_os _ _ _) (World.shaped_of_ZipB (by kernel_rfl) (by kernel_rfl)) (by kernel_rfl) (by kernel_rfl) (by kernel_rfl) (by rw [MakeChecks.laidMetH_plain _ _ _ (by kernel_rfl)]; exact laidMet_laidAll _ (by kernel_rfl) (by kernel_rfl))) ?_
  intro W base args ds gs before hval0 hW _ _ hL _
  have hval : ∀ (j : Nat) t v, Tryz.f3.params[j]? = some t → args[j]? = some v → Value.okWide Tryz.prog W .any base t v := hval0
  have hW' := hW
  obtain ⟨p, q, hA0, hV, rfl, hfz, hnd⟩ := hW
  have hA : DataW.TrodAll enc Tryz.prog W 0 (fun _ => true) true Tryz.f3.params.toList args.toList ds p := hA0
  rw [Tryz.params3] at hA hval
  obtain ⟨v0, vs0, d0, ds0, p0, q0, hargs, rfl, rfl, h0, r0⟩ := trodAll_cons hA
  obtain ⟨v1, vs1, d1, ds1, p1, q1, rfl, rfl, rfl, h1, r1⟩ := trodAll_cons r0
  obtain ⟨v2, vs2, d2, ds2, p2, q2, rfl, rfl, rfl, h2, r2⟩ := trodAll_cons r1
  obtain ⟨v3, vs3, d3, ds3, p3, q3, rfl, rfl, rfl, h3, r3⟩ := trodAll_cons r2
  obtain ⟨v4, vs4, d4, ds4, p4, q4, rfl, rfl, rfl, h4, r4⟩ := trodAll_cons r3
  obtain ⟨v5, vs5, d5, ds5, p5, q5, rfl, rfl, rfl, h5, r5⟩ := trodAll_cons r4
  obtain ⟨rfl, rfl, rfl⟩ := trodAll_nil r5
  obtain rfl : args = #[v0, v1, v2, v3, v4, v5] := by cases args; simp_all
  obtain ⟨rfl, rfl⟩ := trodVars_none hV
  obtain ⟨a0, rfl, rfl, rfl, w0⟩ := open_string Tryz.underlying9 (hval 0 9 v0 rfl rfl) h0
  obtain ⟨a1, rfl, rfl, rfl, w1⟩ := open_string Tryz.underlying9 (hval 1 9 v1 rfl rfl) h1
  obtain ⟨a2, rfl, rfl, rfl, w2⟩ := open_string Tryz.underlying9 (hval 2 9 v2 rfl rfl) h2
  obtain ⟨a3, rfl, rfl, rfl, w3⟩ := open_string Tryz.underlying9 (hval 3 9 v3 rfl rfl) h3
  obtain ⟨a4, rfl, rfl, rfl, w4⟩ := open_string Tryz.underlying9 (hval 4 9 v4 rfl rfl) h4
  obtain ⟨a5, rfl, rfl, rfl⟩ := open_bool Tryz.underlying4 (hval 5 4 v5 rfl rfl) h5
  clear hA0 hval0
  refine (walk a0 a1 a2 a3 a4 a5 w0 w1 w2 w3 w4 W).mono fun e W' ⟨he, hg⟩ => ?_
  subst he
  exact ⟨_, rfl, _, _, _, [], _, [], hW', trodAll_mk1 (shut_bool Tryz.underlying4 _), (trodAll_cons_mk (shut_string Tryz.underlying9 w0) (trodAll_cons_mk (shut_string Tryz.underlying9 w1) (trodAll_cons_mk (shut_string Tryz.underlying9 w2) (trodAll_cons_mk (shut_string Tryz.underlying9 w3) (trodAll_cons_mk (shut_string Tryz.underlying9 w4) (trodAll_cons_mk (shut_bool Tryz.underlying4 _) trodAll_mk0)))))), rfl, hg.frame _, fun h => by cases h⟩

theorem over : Rows.fnAutoHTTPRow.holds Tryz.pinned (OpenSpec.ofChange Rows.fnAutoHTTPSpec) :=
  OpenClaim.holds_of_wide 3 Tryz.f3 rfl rfl rfl rfl rfl rfl rfl ⟨rfl, rfl, rfl, rfl, rfl⟩ rfl rfl rfl rfl rfl (by kernel_rfl) Tryz.func3 (by kernel_rfl)
    (of_decide_eq_true (by kernel_rfl)) (by unfold Func.isWrapper; first | (rw [if_pos (by decide +kernel)]; kernel_rfl) | (rw [if_neg (by decide +kernel)]; exact ⟨rfl, rfl⟩))
    (fun os started H enc _ => lifted os started H enc)

theorem proved : Rows.FnAutoHTTPCardSaid :=
  Claim7.holds_tied_plain_at .later [] [.data, .pinned] true (true, "26d24d2c9fc30eab418ed1b58f053a63ace2f465e403e6576f04edc098a5e84a") true
    over (fun _ h => by cases h) (by kernel_rfl) (fun _ h => by cases h) fnAutoHTTP_row_tie rfl ⟨rfl, rfl⟩ (by kernel_rfl) rfl
    (fun f fn hf hfn => by
      obtain rfl : f = 3 := Option.some.inj ((show Tryz.prog.funcNamed "pub-paratext/laws.FnAutoHTTP" = some 3 by kernel_rfl).symm.trans hf) |>.symm
      obtain rfl : fn = Tryz.f3 := (Option.some.inj (Tryz.func3.symm.trans hfn)).symm
      exact ⟨by kernel_rfl, fun j t ht => by
        rw [Tryz.params3] at ht
        have hm : t ∈ [9, 9, 9, 9, 9, 4] := by simpa using Array.mem_of_getElem? ht
        have hall : ([9, 9, 9, 9, 9, 4].all fun u => !Tryz.prog.wantsStandIn u) = true := by kernel_rfl
        exact (show Tryz.prog.wantsStandIn t = false by simpa using List.all_eq_true.1 hall t hm)⟩)
    (by kernel_rfl)
#print axioms proved
end Go.Proofs.YtfnhikhgkkopfaaGreatDoor.fnAutoHTTP
