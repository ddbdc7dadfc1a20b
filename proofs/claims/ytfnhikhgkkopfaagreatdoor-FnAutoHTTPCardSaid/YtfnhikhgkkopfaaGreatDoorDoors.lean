/- Walks of the doors to automatic links and to HTML: zzState, ZZAutoLinks, impl.AutoLinks, impl.InlinesHTML, over what the functions behind them are known to do. Condition: one to three inlines. -/
import Derived.Test.YtfnhikhgkkopfaaGreatDoorHtml
import Derived.Test.YtfnhikhgkkopfaaGreatDoorInlLink
import Derived.Test.YtfnhikhgkkopfaaGreatDoorPut
import Derived.Test.YtfnhikhgkkopfaaGreatDoorLinks
namespace Go.Proofs.YtfnhikhgkkopfaaGreatDoor.W
open Go.RowKit Go.PlainAid
set_option linter.unusedVariables false

theorem state_c (w : World) :
    Calls Tryz.prog 17 #[] w fun e w1 => ∃ b, e = .returned (.pointer (some ⟨b, 0, none⟩)) ∧ Below w.heap.size w w1 := by
  have hmm := @run_makeMap Tryz.prog
  go_enter Tryz.func17, Tryz.ntmps17
  go_wp2
  go_ret
  exact ⟨_, rfl, by go_grown⟩
/-- inlines behind a call's two steps -/
theorem LinksSaid.behind {n : Nat} {It : Nat → Item} {w w1 w2 : World} {v : Value} (hB : Below w.heap.size w w1) (h : LinksSaid n It w1 (.returned v) w2) : LinksSaid n It w (.returned v) w2 := by
  obtain ⟨g, cap, he, h1, h2, h3⟩ := h
  exact ⟨g, cap, he, hB.trans (h1.mono hB.size), h2, h3⟩
theorem zzAuto_c (n : Nat) (It : Nat → Item) (s : ByteArray) (cL : ∀ pv w, Calls Tryz.prog 18 #[pv, .string s] w (LinksSaid n It w)) (w : World) :
    Calls Tryz.prog 12 #[.string s] w (LinksSaid n It w) := by
  replace cL := Lib.hid cL
  go_enter Tryz.func12, Tryz.ntmps12
  go_wp2_with (first | (go_at_call 17; refine (state_c _).mono ?_; rintro e w1 ⟨b, rfl, hB⟩) | (go_at_call 18; refine (cL.out _ _).mono ?_; rintro e w2 ⟨g, cap, rfl, h1, h2, h3⟩))
  go_ret
  exact ⟨g, cap, rfl, hB.trans (h1.mono hB.size), h2, h3⟩
theorem inline_at {w : World} {v : Value} {it : Item} (h : InlAt w 0 w.heap.size v it) : ∀ w', Below w.heap.size w w' → Calls Tryz.prog 16 #[v] w' (InlineSaid it w') := fun w' hB => by
  have hz := hB.size
  cases it with
  | plain t =>
    obtain ⟨b, _, hb, rfl, hc⟩ := h
    exact inline_of t b w hb hc w' hB
  | link u =>
    obtain ⟨lb, ib, pb, cap, _, a0, _, a1, _, a2, rfl, d0, d1, d2, d3, d4, d5⟩ := h
    exact inline_link u lb ib pb cap w' (by omega) (by omega) (by omega) ((hB.cell (p := ⟨lb, 0, none⟩) a0).trans d0) ((hB.cell (p := ⟨lb, 1, none⟩) a0).trans d1) ((hB.cell (p := ⟨lb, 2, none⟩) a0).trans d2) ((hB.cell (p := ⟨lb, 3, none⟩) a0).trans d3) ((hB.cell (p := ⟨ib, 0, none⟩) a1).trans d4) ((hB.cell (p := ⟨pb, 0, none⟩) a2).trans d5)
theorem vals_of {w : World} {g n lo hi : Nat} {It : Nat → Item} (h : InlsAt w g n lo hi It) : ∃ vs : Nat → Value, ∀ j, j < n → InlAt w lo hi (vs j) (It j) ∧ w.cell? ⟨g, j, none⟩ = some (vs j) :=
  ⟨fun j => (w.cell? ⟨g, j, none⟩).getD .nilIface, fun j hj => by
    obtain ⟨v, h1, h2⟩ := h j hj
    show InlAt w lo hi ((w.cell? ⟨g, j, none⟩).getD .nilIface) (It j) ∧ w.cell? ⟨g, j, none⟩ = some ((w.cell? ⟨g, j, none⟩).getD .nilIface)
    rw [h2]
    exact ⟨h1, rfl⟩⟩
/-- what impl.AutoLinks answers: Nodes of its own -/
def AutoDone (n : Nat) (It : Nat → Item) (w : World) (e : Ending) (w1 : World) : Prop := ∃ g cap, e = .returned (.slice (some ⟨g, 0, none⟩) n cap) ∧ Below w.heap.size w w1 ∧ g < w1.heap.size ∧ NodesAt w1 g n w1.heap.size It
theorem autoLinks_c (n : Nat) (hn0 : 0 < n) (hn : n ≤ 3) (It : Nat → Item) (s : ByteArray) (cL : ∀ pv w, Calls Tryz.prog 18 #[pv, .string s] w (LinksSaid n It w)) (w : World) :
    Calls Tryz.prog 7 #[.string s] w (AutoDone n It w) := by
  have cZ := Lib.hid (fun w => zzAuto_c n It s cL w)
  clear cL
  go_enter Tryz.func7, Tryz.ntmps7
  go_wp2_with (first | (go_at_call 12; refine (cZ.out _).mono ?_; rintro e w1 ⟨g, cap, rfl, h1, h2, h3⟩; obtain ⟨vs, hvs⟩ := vals_of h3; replace hvs := Lib.hid hvs; replace h3 := Lib.hid h3) | (go_at_call 11; refine (inlines_c n hn0 hn g cap vs It _ (fun j hj => (hvs.out j hj).2) h2 (fun j hj => inline_at (hvs.out j hj).1)).mono ?_; rintro e w2 ⟨g2, cap2, rfl, k1, k2, k3, k4⟩; replace k4 := Lib.hid k4))
  go_ret
  exact ⟨g2, cap2, rfl, h1.trans (k1.mono h1.size), k3, k4.out⟩
theorem put_at {w : World} {hi : Nat} {cs : Array Value} {it : Item} (h : NodeOf w 0 hi cs it) (hh : hi ≤ w.heap.size) : ∀ w', Below w.heap.size w w' → Calls Tryz.prog 15 #[.agg cs] w' (PutSaid it w') := fun w' hB => by
  have hz := hB.size
  cases it with
  | plain t =>
    have e : cs = nodeP t := h
    rw [e]
    exact put_plain t w'
  | link u =>
    obtain ⟨nb, cap, _, h2, rfl, h4⟩ := h
    exact put_link u nb cap w' (by omega) fun k hk => (hB.cell (p := ⟨nb, k, none⟩) (by show nb < w.heap.size; omega)).trans (h4 k hk)
theorem inlinesHTML_c (n : Nat) (hn0 : 0 < n) (hn : n ≤ 3) (It : Nat → Item) (g cap : Nat) (w : World) (hg : NodesAt w g n w.heap.size It) (hgs : g < w.heap.size) (hok : ∀ j, j < n → OkItem (It j)) :
    Calls Tryz.prog 6 #[.slice (some ⟨g, 0, none⟩) n cap] w fun e w1 => e = .returned (.string ⟨(textTo It n).toArray⟩) ∧ Below w.heap.size w w1 := by
  have cW := Lib.hid (written_c n hn0 hn g cap w.heap.size It w hg hgs (Nat.le_refl _) fun j hj cs hN => put_at hN (Nat.le_refl _))
  replace hg := Lib.hid hg
  replace hok := Lib.hid hok
  go_enter Tryz.func6, Tryz.ntmps6
  go_wp2_with (first | (go_at_call 10; refine cW.out.mono ?_; rintro e w1 ⟨g2, cap2, rfl, h1, h2, h3, h4⟩; replace h4 := Lib.hid h4) | (go_at_call 9; refine (html_c n hn g2 cap2 _ _ It _ h4.out h3 (Nat.le_refl _) hok.out).mono ?_; rintro e w2 ⟨rfl, k1⟩))
  go_ret
  exact ⟨rfl, h1.trans (k1.mono h1.size)⟩
end Go.Proofs.YtfnhikhgkkopfaaGreatDoor.W
