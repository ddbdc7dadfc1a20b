/- Walks of parseAutoHTTP at an address with its scheme. Condition: the text has at most 300 bytes. -/
import Derived.Test.YtfnhikhgkkopfaaGreatDoorUrl
import Derived.Test.YtfnhikhgkkopfaaGreatDoorItem
import Derived.RegionTactic
import Derived.ChangeAlike
import Derived.BigRegion
import Derived.Deep.QuietTactic
import Derived.BigQuiet
import Derived.WalkMore
import Derived.Deep.LoopGhost
namespace Go.Proofs.YtfnhikhgkkopfaaGreatDoor.W
open Go.RowKit Go.PlainAid
set_option linter.unusedVariables false

def AutoSaid (s : ByteArray) (p E : Nat) (w : World) (e : Ending) (w1 : World) : Prop :=
  ∃ lb, e = .returned (.tuple #[.pointer (some ⟨lb, 0, none⟩), .string (s.extract E s.size), .bool true]) ∧ Below w.heap.size w w1 ∧ InlAt w1 w.heap.size w1.heap.size (.iface 70 (.pointer (some ⟨lb, 0, none⟩))) (.link (s.extract p E))
theorem link_below (w : World) (A B C : Obj) (n : Nat) : Below w.heap.size w ((((w.alloc A).alloc B).alloc C).drew.drewN n) := by
  have h := (((Below.refl w.heap.size w).alloc (Nat.le_refl _) A).alloc (by simp) B).alloc (by simp <;> omega) C
  exact ⟨h.os, h.tape, h.output, h.size, h.block⟩
theorem link_made (w : World) (url : ByteArray) (n : Nat) (t1 t2 : TypeId) : InlAt ((((w.alloc (.cells #[.string url] t1)).alloc (.cells #[.iface 88 (.pointer (some ⟨w.heap.size, 0, none⟩))] t2)).alloc (.cells #[.slice (some ⟨w.heap.size + 1, 0, none⟩) 1 1, .string url, .string ⟨#[]⟩, .int .u8 0, .bool false] 73)).drew.drewN n) w.heap.size ((((w.alloc (.cells #[.string url] t1)).alloc (.cells #[.iface 88 (.pointer (some ⟨w.heap.size, 0, none⟩))] t2)).alloc (.cells #[.slice (some ⟨w.heap.size + 1, 0, none⟩) 1 1, .string url, .string ⟨#[]⟩, .int .u8 0, .bool false] 73)).drew.drewN n).heap.size (.iface 70 (.pointer (some ⟨w.heap.size + 2, 0, none⟩))) (.link url) := by
  have hz : ∀ W : World, (W.drew.drewN n).heap = W.heap := fun W => rfl
  refine ⟨w.heap.size + 2, w.heap.size + 1, w.heap.size, 1, by omega, by rw [hz]; simp, by omega, by rw [hz]; simp <;> omega, by omega, by rw [hz]; simp <;> omega, rfl, ?_, ?_, ?_, ?_, ?_, ?_⟩
  · show (World.alloc _ _).cell? _ = _
    rw [World.cell?_alloc_at _ _ _ _ (by simp)]; rfl
  · show (World.alloc _ _).cell? _ = _
    rw [World.cell?_alloc_at _ _ _ _ (by simp)]; rfl
  · show (World.alloc _ _).cell? _ = _
    rw [World.cell?_alloc_at _ _ _ _ (by simp)]; rfl
  · show (World.alloc _ _).cell? _ = _
    rw [World.cell?_alloc_at _ _ _ _ (by simp)]; rfl
  · show (World.alloc (World.alloc _ _) _).cell? _ = _
    rw [World.cell?_alloc_past _ _ _ (by simp), World.cell?_alloc_at _ _ _ _ (by simp)]; rfl
  · show (World.alloc (World.alloc (World.alloc _ _) _) _).cell? _ = _
    rw [World.cell?_alloc_past _ _ _ (by simp; omega), World.cell?_alloc_past _ _ _ (by simp), World.cell?_alloc_at _ _ _ _ rfl]; rfl
theorem decode_at (s : ByteArray) (k : Nat) (hk : k < s.size) (h1 : bt s k < 128) (w : World) :
    Calls Tryz.prog 36 #[.string (s.extract k s.size)] w fun e w1 => e = .returned (.tuple #[.int .i32 (bt s k), .int .i64 1]) ∧ w = w1 := by
  have e := bt_extract s (a := k) (b := s.size) (k := 0) (by omega) (Nat.le_refl _)
  rw [Nat.add_zero] at e
  have c := decode_ascii (s.extract k s.size) (by rw [size_extract]; omega) (by rw [e]; exact h1) w
  rw [e] at c
  exact c
set_option maxHeartbeats 1000000 in
set_option maxRecDepth 100000 in
theorem parseAutoHTTP7 (s : ByteArray) (p d E vb : Nat) (c : Int) (pv : Value) (w : World) (hs : s.size ≤ 300) (hU : Url s p 7 d E)
    (hc0 : w.cell? ⟨vb, 0, none⟩ = some (.string s)) (hc1 : w.cell? ⟨vb, 1, none⟩ = some (.int .i64 c)) (hc : c ≤ 0) :
    Calls Tryz.prog 30 #[pv, .string (s.extract p (p + 7)), .string s, .int .i64 p, .int .i64 ((p : Int) + 7), .int .i64 ((p : Int) + 7 + 1), .pointer (some ⟨vb, 0, none⟩)] w (AutoSaid s p E w) := by
  have hb := get_bt s
  obtain ⟨_, z0, z1, z2, hdom, hstop, hpath, hsp, hlast⟩ := hU
  have cV : Hid (∀ w, w.cell? ⟨vb, 0, none⟩ = some (.string s) → w.cell? ⟨vb, 1, none⟩ = some (.int .i64 c) → Calls Tryz.prog 35 #[.pointer (some ⟨vb, 0, none⟩), .int .i64 ((p : Int) + 7)] w fun e w1 => e = .returned (.tuple #[.int .i64 ((d : Int) - (p + 7)), .bool true]) ∧ w = w1) := fun w h0 h1 => by
    have c := validDomain_c s (p + 7) (d - (p + 7)) vb c w hs (by omega) (by omega) (fun k h1 h2 => hdom k h1 (by omega)) (by rw [show p + 7 + (d - (p + 7)) = d from by omega]; exact hstop) h0 h1 (by omega)
    rw [show ((p + 7 : Nat) : Int) = (p : Int) + 7 from by omega, show ((d - (p + 7) : Nat) : Int) = (d : Int) - (p + 7) from by omega] at c
    exact c
  have hL := hlast
  rw [letB_iff, digB_iff] at hL
  have x0 : (bt s (E - 1) == 63) = false := by rw [beq_eq_false_iff_ne]; omega
  have x1 : (bt s (E - 1) == 33) = false := by rw [beq_eq_false_iff_ne]; omega
  have x2 : (bt s (E - 1) == 46) = false := by rw [beq_eq_false_iff_ne]; omega
  have x3 : (bt s (E - 1) == 44) = false := by rw [beq_eq_false_iff_ne]; omega
  have x4 : (bt s (E - 1) == 58) = false := by rw [beq_eq_false_iff_ne]; omega
  have x5 : (bt s (E - 1) == 64) = false := by rw [beq_eq_false_iff_ne]; omega
  have x6 : (bt s (E - 1) == 95) = false := by rw [beq_eq_false_iff_ne]; omega
  have x7 : (bt s (E - 1) == 126) = false := by rw [beq_eq_false_iff_ne]; omega
  have x8 : (bt s (E - 1) == 41) = false := by rw [beq_eq_false_iff_ne]; omega
  have x9 : (bt s (E - 1) == 59) = false := by rw [beq_eq_false_iff_ne]; omega
  replace hpath := Lib.hid hpath
  clear hdom hstop hlast hL
  go_enter Tryz.func30, Tryz.ntmps30
  go_wp2_with (go_at_call 35; refine (cV.out _ hc0 hc1).mono ?_; rintro e w1 ⟨rfl, rfl⟩)
  go_step3
  go_wp2_with (go_at_call 35; refine (cV.out _ hc0 hc1).mono ?_; rintro e w1 ⟨rfl, rfl⟩)
  go_loop [19, 21] (fun u v => ∃ k : Nat, d ≤ k ∧ k ≤ E ∧ u = .int .i64 k ∧ v = .int .i64 0) (fun u _ => s.size - (intOf u).toNat)
  case atStart => exact ⟨d, by omega, by omega, by go_num, rfl⟩
  case round =>
    obtain ⟨k, hk1, hk2, rfl, rfl⟩ := hrel
    by_cases hlt : k < E
    · have hp := hpath.out k hk1 hlt
      have cd := Lib.hid (fun w => decode_at s k (by omega) (by omega) w)
      have y0 : uspB (bt s k) = false := by rw [Bool.eq_false_iff, Ne, uspB_iff]; omega
      have y1 : (bt s k == 60) = false := by rw [beq_eq_false_iff_ne]; omega
      have y2 : (bt s k == 40) = false := by rw [beq_eq_false_iff_ne]; omega
      have y3 : (bt s k == 41) = false := by rw [beq_eq_false_iff_ne]; omega
      have q0 : 0 ≤ bt s k := by omega
      have q1 : bt s k < 128 := by omega
      clear hp
      go_wp2_with (first | (go_at_call 36; refine (cd.out _).mono ?_; rintro e w1 ⟨rfl, rfl⟩) | (go_at_call 37; refine (isUnicodeSpace_c _ q0 q1 _).mono ?_; rintro e w1 ⟨rfl, rfl⟩; rw [y0]))
      go_round
      case rel => exact ⟨k + 1, by omega, by omega, by go_num, rfl⟩
      case measure => simp [intOf]; omega
    · obtain rfl : k = E := by omega
      have cd := Lib.hid (fun w => decode_at s k (by omega) (by omega) w)
      have y0 : uspB (bt s k) = true := by rw [uspB_iff]; omega
      have q0 : 0 ≤ bt s k := by omega
      have q1 : bt s k < 128 := by omega
      clear hsp
      go_wp2_with (first | (go_at_call 36; refine (cd.out _).mono ?_; rintro e w1 ⟨rfl, rfl⟩) | (go_at_call 37; refine (isUnicodeSpace_c _ q0 q1 _).mono ?_; rintro e w1 ⟨rfl, rfl⟩; rw [y0]))
      go_step3
      go_wp2_with fail
      refine wp_loop_rounds 1 ?_
      rw [rounds_succ]
      go_wp2_with fail
      go_region
      go_wp2_with fail
      go_quiet (fail)
      go_wp2_with fail
      go_ret3
      rw [show max (p + 7) k = k from by omega]
      exact ⟨w.heap.size + 2, rfl, link_below w _ _ _ _, link_made w _ _ _ _⟩

set_option maxHeartbeats 1000000 in
set_option maxRecDepth 100000 in
theorem parseAutoHTTP8 (s : ByteArray) (p d E vb : Nat) (c : Int) (pv : Value) (w : World) (hs : s.size ≤ 300) (hU : Url s p 8 d E)
    (hc0 : w.cell? ⟨vb, 0, none⟩ = some (.string s)) (hc1 : w.cell? ⟨vb, 1, none⟩ = some (.int .i64 c)) (hc : c ≤ 0) :
    Calls Tryz.prog 30 #[pv, .string (s.extract p (p + 8)), .string s, .int .i64 p, .int .i64 ((p : Int) + 8), .int .i64 ((p : Int) + 8 + 1), .pointer (some ⟨vb, 0, none⟩)] w (AutoSaid s p E w) := by
  have hb := get_bt s
  obtain ⟨_, z0, z1, z2, hdom, hstop, hpath, hsp, hlast⟩ := hU
  have cV : Hid (∀ w, w.cell? ⟨vb, 0, none⟩ = some (.string s) → w.cell? ⟨vb, 1, none⟩ = some (.int .i64 c) → Calls Tryz.prog 35 #[.pointer (some ⟨vb, 0, none⟩), .int .i64 ((p : Int) + 8)] w fun e w1 => e = .returned (.tuple #[.int .i64 ((d : Int) - (p + 8)), .bool true]) ∧ w = w1) := fun w h0 h1 => by
    have c := validDomain_c s (p + 8) (d - (p + 8)) vb c w hs (by omega) (by omega) (fun k h1 h2 => hdom k h1 (by omega)) (by rw [show p + 8 + (d - (p + 8)) = d from by omega]; exact hstop) h0 h1 (by omega)
    rw [show ((p + 8 : Nat) : Int) = (p : Int) + 8 from by omega, show ((d - (p + 8) : Nat) : Int) = (d : Int) - (p + 8) from by omega] at c
    exact c
  have hL := hlast
  rw [letB_iff, digB_iff] at hL
  have x0 : (bt s (E - 1) == 63) = false := by rw [beq_eq_false_iff_ne]; omega
  have x1 : (bt s (E - 1) == 33) = false := by rw [beq_eq_false_iff_ne]; omega
  have x2 : (bt s (E - 1) == 46) = false := by rw [beq_eq_false_iff_ne]; omega
  have x3 : (bt s (E - 1) == 44) = false := by rw [beq_eq_false_iff_ne]; omega
  have x4 : (bt s (E - 1) == 58) = false := by rw [beq_eq_false_iff_ne]; omega
  have x5 : (bt s (E - 1) == 64) = false := by rw [beq_eq_false_iff_ne]; omega
  have x6 : (bt s (E - 1) == 95) = false := by rw [beq_eq_false_iff_ne]; omega
  have x7 : (bt s (E - 1) == 126) = false := by rw [beq_eq_false_iff_ne]; omega
  have x8 : (bt s (E - 1) == 41) = false := by rw [beq_eq_false_iff_ne]; omega
  have x9 : (bt s (E - 1) == 59) = false := by rw [beq_eq_false_iff_ne]; omega
  replace hpath := Lib.hid hpath
  clear hdom hstop hlast hL
  go_enter Tryz.func30, Tryz.ntmps30
  go_wp2_with (go_at_call 35; refine (cV.out _ hc0 hc1).mono ?_; rintro e w1 ⟨rfl, rfl⟩)
  go_step3
  go_wp2_with (go_at_call 35; refine (cV.out _ hc0 hc1).mono ?_; rintro e w1 ⟨rfl, rfl⟩)
  go_loop [19, 21] (fun u v => ∃ k : Nat, d ≤ k ∧ k ≤ E ∧ u = .int .i64 k ∧ v = .int .i64 0) (fun u _ => s.size - (intOf u).toNat)
  case atStart => exact ⟨d, by omega, by omega, by go_num, rfl⟩
  case round =>
    obtain ⟨k, hk1, hk2, rfl, rfl⟩ := hrel
    by_cases hlt : k < E
    · have hp := hpath.out k hk1 hlt
      have cd := Lib.hid (fun w => decode_at s k (by omega) (by omega) w)
      have y0 : uspB (bt s k) = false := by rw [Bool.eq_false_iff, Ne, uspB_iff]; omega
      have y1 : (bt s k == 60) = false := by rw [beq_eq_false_iff_ne]; omega
      have y2 : (bt s k == 40) = false := by rw [beq_eq_false_iff_ne]; omega
      have y3 : (bt s k == 41) = false := by rw [beq_eq_false_iff_ne]; omega
      have q0 : 0 ≤ bt s k := by omega
      have q1 : bt s k < 128 := by omega
      clear hp
      go_wp2_with (first | (go_at_call 36; refine (cd.out _).mono ?_; rintro e w1 ⟨rfl, rfl⟩) | (go_at_call 37; refine (isUnicodeSpace_c _ q0 q1 _).mono ?_; rintro e w1 ⟨rfl, rfl⟩; rw [y0]))
      go_round
      case rel => exact ⟨k + 1, by omega, by omega, by go_num, rfl⟩
      case measure => simp [intOf]; omega
    · obtain rfl : k = E := by omega
      have cd := Lib.hid (fun w => decode_at s k (by omega) (by omega) w)
      have y0 : uspB (bt s k) = true := by rw [uspB_iff]; omega
      have q0 : 0 ≤ bt s k := by omega
      have q1 : bt s k < 128 := by omega
      clear hsp
      go_wp2_with (first | (go_at_call 36; refine (cd.out _).mono ?_; rintro e w1 ⟨rfl, rfl⟩) | (go_at_call 37; refine (isUnicodeSpace_c _ q0 q1 _).mono ?_; rintro e w1 ⟨rfl, rfl⟩; rw [y0]))
      go_step3
      go_wp2_with fail
      refine wp_loop_rounds 1 ?_
      rw [rounds_succ]
      go_wp2_with fail
      go_region
      go_wp2_with fail
      go_quiet (fail)
      go_wp2_with fail
      go_ret3
      rw [show max (p + 8) k = k from by omega]
      exact ⟨w.heap.size + 2, rfl, link_below w _ _ _ _, link_made w _ _ _ _⟩
end Go.Proofs.YtfnhikhgkkopfaaGreatDoor.W
