/- Walks of impl.put at the Node of a plain text and at the Node of a link to itself. Condition: the link's one Node lies where it is told. -/
import Derived.Test.YtfnhikhgkkopfaaGreatDoorWr
import Derived.Test.YtfnhikhgkkopfaaGreatDoorUrl
import Derived.Deep.RegionHeld3
namespace Go.Proofs.YtfnhikhgkkopfaaGreatDoor.W
open Go.RowKit Go.PlainAid
set_option linter.unusedVariables false

theorem first0 (w : World) : Calls Tryz.prog 20 #[.string ⟨#[]⟩] w fun e w1 => e = .returned (.int .u8 0) ∧ w = w1 := by
  go_enter Tryz.func20, Tryz.ntmps20
  go_wp2
  go_ret
  exact ⟨rfl, rfl⟩
set_option maxHeartbeats 1000000 in
set_option maxRecDepth 100000 in
theorem put_plain (t : ByteArray) (w : World) : Calls Tryz.prog 15 #[.agg (nodeP t)] w (PutSaid (.plain t) w) := by
  unfold nodeP
  go_enter Tryz.func15, Tryz.ntmps15
  go_wp2_with (go_at_call 10; refine (written_nil _).mono ?_; rintro e w1 ⟨rfl, rfl⟩)
  go_ret
  refine ⟨_, rfl, ((Below.refl _ _).alloc (Nat.le_refl _) _).alloc (by simp) _, w.heap.size + 1, by omega, by simp, rfl, ?_⟩
  rw [World.cell?_alloc_at _ _ _ _ (by simp)]; rfl
def WOneSaid (u : ByteArray) (w : World) (e : Ending) (w1 : World) : Prop := ∃ g cap pb, e = .returned (.slice (some ⟨g, 0, none⟩) 1 cap) ∧ Below w.heap.size w w1 ∧ w.heap.size ≤ g ∧ g < w1.heap.size ∧ w.heap.size ≤ pb ∧ pb < w1.heap.size ∧ w1.cell? ⟨g, 0, none⟩ = some (.iface 88 (.pointer (some ⟨pb, 0, none⟩))) ∧ w1.cell? ⟨pb, 0, none⟩ = some (.string u)
theorem written_one (u : ByteArray) (nb cap : Nat) (w : World) (hnb : nb < w.heap.size) (hc : ∀ k, k < 16 → w.cell? ⟨nb, k, none⟩ = (nodeP u)[k]?) : Calls Tryz.prog 10 #[.slice (some ⟨nb, 0, none⟩) 1 cap] w (WOneSaid u w) :=
  (written_c 1 (by omega) (by omega) nb cap 0 (fun _ => .plain u) w (fun j hj => ⟨nodeP u, rfl, fun t ht => by rw [show j * 16 + t = t from by omega]; exact hc t ht⟩) hnb (Nat.zero_le _) (fun j hj cs hN w' _ => by
    have e : cs = nodeP u := hN
    rw [e]
    exact put_plain u w')).mono fun e w1 ⟨g, cap, he, hB, h1, h2, h3⟩ => by
      obtain ⟨v, ⟨b, b1, b2, b3, b4⟩, hv⟩ := h3 0 (by omega)
      exact ⟨g, cap, b, he, hB, h1, h2, b1, b2, by rw [hv, b3], b4⟩
theorem put_end {w w1 : World} {O : Obj} {u : ByteArray} {g2 cap2 pb : Nat} {T : TypeId} (hB : Below (w.alloc O).heap.size (w.alloc O) w1) (h1 : (w.alloc O).heap.size ≤ g2) (h2 : g2 < w1.heap.size) (h3 : (w.alloc O).heap.size ≤ pb) (h4 : pb < w1.heap.size)
    (h5 : w1.cell? ⟨g2, 0, none⟩ = some (.iface 88 (.pointer (some ⟨pb, 0, none⟩)))) (h6 : w1.cell? ⟨pb, 0, none⟩ = some (.string u)) :
    PutSaid (.link u) w (.returned (.iface 70 (.pointer (some ⟨w1.heap.size, 0, none⟩)))) (w1.alloc (.cells #[.slice (some ⟨g2, 0, none⟩) 1 cap2, .string u, .string ⟨#[]⟩, .int .u8 0, .bool false] T)).drew := by
  have hz := hB.size
  simp only [World.size_alloc] at h1 h3 hz
  have hb := (((Below.refl w.heap.size w).alloc (Nat.le_refl _) O).trans (hB.mono (by simp))).alloc (by omega) (.cells #[.slice (some ⟨g2, 0, none⟩) 1 cap2, .string u, .string ⟨#[]⟩, .int .u8 0, .bool false] T)
  refine ⟨_, rfl, ⟨hb.os, hb.tape, hb.output, hb.size, hb.block⟩, w1.heap.size, g2, pb, cap2, by omega, ?_, by omega, ?_, by omega, ?_, rfl, ?_, ?_, ?_, ?_, ?_, ?_⟩
  · show w1.heap.size < (w1.alloc _).heap.size; simp
  · show g2 < (w1.alloc _).heap.size; simp; omega
  · show pb < (w1.alloc _).heap.size; simp; omega
  · show (World.alloc _ _).cell? _ = _
    rw [World.cell?_alloc_at _ _ _ _ rfl]; rfl
  · show (World.alloc _ _).cell? _ = _
    rw [World.cell?_alloc_at _ _ _ _ rfl]; rfl
  · show (World.alloc _ _).cell? _ = _
    rw [World.cell?_alloc_at _ _ _ _ rfl]; rfl
  · show (World.alloc _ _).cell? _ = _
    rw [World.cell?_alloc_at _ _ _ _ rfl]; rfl
  · show (World.alloc _ _).cell? _ = _
    rw [World.cell?_alloc_past _ _ _ h2]; exact h5
  · show (World.alloc _ _).cell? _ = _
    rw [World.cell?_alloc_past _ _ _ h4]; exact h6
set_option maxHeartbeats 1000000 in
set_option maxRecDepth 100000 in
theorem put_link (u : ByteArray) (nb cap : Nat) (w : World) (hnb : nb < w.heap.size) (hc : ∀ k, k < 16 → w.cell? ⟨nb, k, none⟩ = (nodeP u)[k]?) : Calls Tryz.prog 15 #[.agg (nodeL u nb cap)] w (PutSaid (.link u) w) := by
  unfold nodeL
  have cW := Lib.hid (fun w => written_one u nb cap w)
  replace hc := Lib.hid hc
  go_enter Tryz.func15, Tryz.ntmps15
  go_wp2_with fail
  refine (cW.out _ ?_ ?_).mono ?_
  · simp <;> omega
  · exact fun k hk => (World.cell?_alloc_past _ _ _ hnb).trans (hc.out k hk)
  rintro e w1 ⟨g2, cap2, pb, rfl, hB, h1, h2, h3, h4, h5, h6⟩
  have hvz : w.heap.size < (w.alloc (.cells #[.int .i64 27, .string u, .string ⟨#[]⟩, .int .i64 0, .string ⟨#[]⟩, .bool false, .slice none 0 0, .slice (some ⟨nb, 0, none⟩) 1 cap, .int .i64 0, .int .i64 0, .string ⟨#[]⟩, .int .i64 0, .bool false, .bool false, .bool false, .slice none 0 0] 47)).heap.size := by simp
  have z0 : w1.cell? ⟨w.heap.size, 0, none⟩ = some (.int .i64 27) := (hB.cell (p := ⟨w.heap.size, 0, none⟩) hvz).trans ((World.cell?_alloc_at _ _ _ _ rfl).trans rfl)
  have z1 : w1.cell? ⟨w.heap.size, 1, none⟩ = some (.string u) := (hB.cell (p := ⟨w.heap.size, 1, none⟩) hvz).trans ((World.cell?_alloc_at _ _ _ _ rfl).trans rfl)
  have z2 : w1.cell? ⟨w.heap.size, 2, none⟩ = some (.string ⟨#[]⟩) := (hB.cell (p := ⟨w.heap.size, 2, none⟩) hvz).trans ((World.cell?_alloc_at _ _ _ _ rfl).trans rfl)
  have z7 : w1.cell? ⟨w.heap.size, 7, none⟩ = some (.slice (some ⟨nb, 0, none⟩) 1 cap) := (hB.cell (p := ⟨w.heap.size, 7, none⟩) hvz).trans ((World.cell?_alloc_at _ _ _ _ rfl).trans rfl)
  have z10 : w1.cell? ⟨w.heap.size, 10, none⟩ = some (.string ⟨#[]⟩) := (hB.cell (p := ⟨w.heap.size, 10, none⟩) hvz).trans ((World.cell?_alloc_at _ _ _ _ rfl).trans rfl)
  have z13 : w1.cell? ⟨w.heap.size, 13, none⟩ = some (.bool false) := (hB.cell (p := ⟨w.heap.size, 13, none⟩) hvz).trans ((World.cell?_alloc_at _ _ _ _ rfl).trans rfl)
  have z14 : w1.cell? ⟨w.heap.size, 14, none⟩ = some (.bool false) := (hB.cell (p := ⟨w.heap.size, 14, none⟩) hvz).trans ((World.cell?_alloc_at _ _ _ _ rfl).trans rfl)
  go_wp2_with fail
  go_region_held3 (fun w' => w'.cell? ⟨w.heap.size, 1, none⟩ = some (.string u) ∧ w'.cell? ⟨w.heap.size, 2, none⟩ = some (.string ⟨#[]⟩) ∧ w'.cell? ⟨w.heap.size, 10, none⟩ = some (.string ⟨#[]⟩)) (go_keep)
    (first | (go_at_call 20; refine (first0 _).mono ?_; rintro e w3 ⟨rfl, rfl⟩))
  go_wp2_with fail
  go_ret
  exact put_end hB h1 h2 h3 h4 h5 h6
end Go.Proofs.YtfnhikhgkkopfaaGreatDoor.W
