/- The walk of parseCodeSpan over the memory of its own marks. Condition: the text has at most 300 bytes, a run of at most 80 backquotes begins at the place; no letter is a tab. -/
import Derived.Test.YtiilhmagepncgaaText
import Derived.Test.YtiilhmagepncgaaRepl
import Derived.Deep.LoopGhost
import Derived.Deep.CutRange
import Derived.Deep.CutBlock
import Derived.Deep.DeepCutAuto
import Derived.WalkMore
import Derived.Deep.QuietTactic
import Derived.BigQuiet
namespace Go.Proofs.Ytiilhmagepncgaa.W
open Go.RowKit Go.PlainAid
set_option linter.unusedVariables false

/-- the memory of a backtickParser that has not scanned to the end -/
structure Ticks (w : World) (g o : Nat) : Prop where
  lt : g < w.heap.size
  last : ∀ j, j < 80 → ∃ n : Int, w.cell? ⟨g, o + j, none⟩ = some (.int .i64 n)
  scan : w.cell? ⟨g, o + 80, none⟩ = some (.bool false)
  frozen : ∀ j, j ≤ 80 → w.frozen? ⟨g, o + j, none⟩ = false
theorem Ticks.set {w : World} {g o j : Nat} (h : Ticks w g o) (hj : j < 80) (n : Int) : Ticks (w.setCell ⟨g, o + j, none⟩ (.int .i64 n)) g o := by
  refine ⟨by simpa using h.lt, fun k hk => ?_, ?_, fun k hk => by rw [World.frozen?_setCell]; exact h.frozen k hk⟩
  · by_cases e : k = j
    · subst e
      obtain ⟨n0, h0⟩ := h.last k hk
      exact ⟨n, World.cell?_setCell_same _ _ _ h0⟩
    · obtain ⟨n0, h0⟩ := h.last k hk
      exact ⟨n0, by rw [World.cell?_setCell_other _ _ _ _ (by intro hh; injection hh with _ h2; omega)]; exact h0⟩
  · rw [World.cell?_setCell_other _ _ _ _ (by intro hh; injection hh with _ h2; omega)]; exact h.scan
theorem Ticks.alloc {w : World} {g o : Nat} (h : Ticks w g o) (x : Obj) : Ticks (w.alloc x) g o :=
  ⟨by have := h.lt; simp; omega, fun j hj => by obtain ⟨n, hn⟩ := h.last j hj; exact ⟨n, by rw [World.cell?_alloc_past _ _ _ h.lt]; exact hn⟩, by rw [World.cell?_alloc_past _ _ _ h.lt]; exact h.scan, fun j hj => by
    have := h.frozen j hj
    rw [((Below.refl w.heap.size w).alloc (Nat.le_refl _) x).frozen (p := ⟨g, o + j, none⟩) h.lt]; exact this⟩

theorem Ticks.below {w w' : World} {g o B : Nat} (h : Ticks w g o) (hb : Below B w w') (hg : g < B) : Ticks w' g o :=
  ⟨Nat.lt_of_lt_of_le h.lt hb.size, fun j hj => by obtain ⟨n, hn⟩ := h.last j hj; exact ⟨n, by rw [hb.cell (p := ⟨g, o + j, none⟩) hg]; exact hn⟩, by rw [hb.cell (p := ⟨g, o + 80, none⟩) hg]; exact h.scan, fun j hj => by rw [hb.frozen (p := ⟨g, o + j, none⟩) hg]; exact h.frozen j hj⟩

theorem results_tmp4 {fn : Func} {t u v x : Tmp} (h : fn.results = #[.tmp t, .tmp u, .tmp v, .tmp x]) (tmps : Array Value) (P : Program) (w : World) :
    (results fn tmps).run P w = .ok (.tuple #[tmps.getD t undef, tmps.getD u undef, tmps.getD v undef, tmps.getD x undef]) w := by
  simp [results, h]

theorem replaceNl_x (s x : ByteArray) (hs : s.size ≤ 300) (hx : subS s = x) (w : World) :
    Calls Try.prog 37 #[.string s, .string ⟨#[10]⟩, .string ⟨#[32]⟩] w fun e w1 => e = .returned (.string x) ∧ Below w.heap.size w w1 := by
  subst hx; exact replaceNl_c s hs w

theorem empty_of {x : ByteArray} (h : x.size = 0) : x.toList.isEmpty = true := by
  rw [ByteArray.toList_eq, List.isEmpty_iff, Array.toList_eq_nil_iff]; exact Array.eq_empty_of_size_eq_zero h
theorem full_of {x : ByteArray} (h : 0 < x.size) : x.toList.isEmpty = false := by
  rw [ByteArray.toList_eq]
  cases hd : x.data.toList with
  | nil => have h0 : x.data.size = 0 := by rw [← Array.length_toList, hd]; rfl
           have : x.size = 0 := h0
           omega
  | cons a l => rfl

/-- what a code span at i, of n backquotes, is told as -/
def SpanSaid (s : ByteArray) (i n g : Nat) (w : World) (e : Ending) (w1 : World) : Prop :=
      ∃ b, Below g w w1 ∧ b < w1.heap.size ∧ match spanFrom s n (i + n) with
        | some p => e = .returned (.tuple #[.iface 77 (.pointer (some ⟨b, 0, none⟩)), .int .i64 i, .int .i64 (p + n : Nat), .bool true]) ∧ w1.cell? ⟨b, 0, none⟩ = some (.string (meantS (s.extract (i + n) p)))
        | none => ∃ t, e = .returned (.tuple #[.iface 68 (.pointer (some ⟨b, 0, none⟩)), .int .i64 i, .int .i64 (i + n : Nat), .bool true]) ∧ w1.cell? ⟨b, 0, none⟩ = some (.string t)

theorem belowDrewN {B : Nat} {a w : World} (h : Below B a w) (n : Nat) : Below B a (w.drewN n) := ⟨h.os, h.tape, h.output, h.size, h.block⟩
theorem spanEnd {s : ByteArray} {i k q g : Nat} {w wr w1 : World} {y : ByteArray} {v : Value} {ty : TypeId} (hB : Below g w wr) (hB1 : Below wr.heap.size wr w1) (h2 : Hid (some q = spanFrom s k (i + k))) (hM : Hid (meantS (s.extract (i + k) q) = y)) (hg : g ≤ wr.heap.size)
    (hv : Ending.returned v = .returned (.tuple #[.iface 77 (.pointer (some ⟨w1.heap.size, 0, none⟩)), .int .i64 i, .int .i64 (q + k : Nat), .bool true])) :
    SpanSaid s i k g w (.returned v) (w1.alloc (.cells #[.string y] ty)) := by
  have hz := hB1.size
  refine ⟨w1.heap.size, (hB.trans (hB1.mono hg)).alloc (by omega) _, by simp, ?_⟩
  rw [← h2.out]
  refine ⟨hv, ?_⟩
  rw [World.cell?_alloc_at _ _ _ _ (by simp), hM.out]
  rfl

theorem trim2_y {s y : ByteArray} (hs : s.size ≤ 300) (hy : trim2S s = y) (w : World) :
    Calls Try.prog 38 #[.string s] w fun e w1 => e = .returned (.string y) ∧ w = w1 := by
  subst hy; exact trim2_c s (by omega) w
theorem fiveWays (n t : Nat) (a b : Int) : n < 2 ∨ (2 ≤ n ∧ a ≠ 32) ∨ (2 ≤ n ∧ a = 32 ∧ b ≠ 32) ∨ (2 ≤ n ∧ a = 32 ∧ b = 32 ∧ t = 0) ∨ (2 ≤ n ∧ a = 32 ∧ b = 32 ∧ 0 < t) := by
  by_cases h1 : n < 2
  · exact .inl h1
  · have h2 : 2 ≤ n := by omega
    by_cases h3 : a = 32
    · by_cases h4 : b = 32
      · by_cases h5 : t = 0
        · exact .inr (.inr (.inr (.inl ⟨h2, h3, h4, h5⟩)))
        · exact .inr (.inr (.inr (.inr ⟨h2, h3, h4, by omega⟩)))
      · exact .inr (.inr (.inl ⟨h2, h3, h4⟩))
    · exact .inr (.inl ⟨h2, h3⟩)
theorem meant_yes {T x : ByteArray} (hx : subS T = x) (h9 : ∀ k, k < T.size → bt T k ≠ 9) (h2 : 2 ≤ x.size) (h0 : bt x 0 = 32) (h1 : bt x (x.size - 1) = 32) (ht : 0 < (trim2S x).size) :
    meantS T = x.extract 1 (x.size - 1) := by
  subst hx
  rw [size_subS] at h2 h1 ⊢
  unfold meantS
  rw [if_pos ⟨(filled_trim T h9).1 ht, h2, h0, h1⟩]
theorem meant_no {T x : ByteArray} (hx : subS T = x) (h9 : ∀ k, k < T.size → bt T k ≠ 9) (h : ¬(2 ≤ x.size ∧ bt x 0 = 32 ∧ bt x (x.size - 1) = 32 ∧ 0 < (trim2S x).size)) :
    meantS T = x := by
  subst hx
  rw [size_subS] at h
  unfold meantS
  rw [if_neg]
  rintro ⟨h3, h4, h5, h6⟩
  exact h ⟨h4, h5, h6, (filled_trim T h9).2 h3⟩

set_option maxHeartbeats 4000000 in
set_option maxRecDepth 100000 in
theorem parseSpan_c (s : ByteArray) (i n g o : Nat) (pv : Value) (hs : s.size ≤ 300) (hi : i < s.size) (h96 : bt s i = 96) (hn : runEnd tickB s i = i + n) (hn80 : n ≤ 80) (h9 : ∀ k, k < s.size → bt s k ≠ 9) (w : World) (hTk : Ticks w g o) :
    Calls Try.prog 29 #[.pointer (some ⟨g, o, none⟩), pv, .string s, .int .i64 i] w fun e w1 =>
      SpanSaid s i n g w e w1 := by
  have hb := get_bt s
  have hgt := tick_gt hi h96
  have hle := runEnd_le tickB s (i := i) (by omega)
  have hin := fun j (h : i ≤ j) (h1 : j < runEnd tickB s i) => runEnd_in (p := tickB) (s := s) h h1
  have hat := fun (h : runEnd tickB s i < s.size) => runEnd_at (p := tickB) (s := s) (i := i) (by omega) h
  rw [hn] at hgt hle hin hat
  have hn1 : 1 ≤ n := by omega
  obtain ⟨q0, hq0⟩ := hTk.last (n - 1) (by omega)
  have hsc := hTk.scan
  replace hin := Lib.hid hin
  replace hat := Lib.hid hat
  replace h96 := Lib.hid h96
  replace hn := Lib.hid hn
  replace h9 := Lib.hid h9
  go_enter Try.func29, Try.ntmps29
  go_wp2_with fail
  go_step3
  go_wp2_with fail
  go_loop [13] (fun v => ∃ k : Nat, 1 ≤ k ∧ k ≤ n ∧ v = .int .i64 k) (fun v => s.size - (intOf v).toNat)
  case atStart => exact ⟨1, by omega, by omega, rfl⟩
  case round =>
    obtain ⟨k, hk1, hk2, rfl⟩ := hrel
    by_cases hlt : k < n
    · have hx := hin.out (i + k) (by omega) (by omega)
      have t : (bt s (i + k) == 96) = true := hx
      clear hx
      have hlt2 : i + k < s.size := by omega
      go_wp2_with fail
      go_round
      case rel => exact ⟨k + 1, by omega, by omega, by go_num⟩
      case measure => simp [intOf]; omega
    · obtain rfl : k = n := by omega
      have hex : (i + k < s.size ∧ (bt s (i + k) == 96) = false) ∨ i + k = s.size := by
        by_cases h : i + k < s.size
        · exact .inl ⟨h, hat.out h⟩
        · exact .inr (by omega)
      clear hat hin
      rcases hex with ⟨hlt2, t⟩ | hlt2
      · go_wp2_with fail
        clear t
        go_loopg [14] (s.size - (i + k)) (fun gg v wr => ∃ q : Nat, i + k ≤ q ∧ q + gg = s.size ∧ v = .int .i64 q ∧ Hid (spanFrom s k q = spanFrom s k (i + k)) ∧ Ticks wr g o ∧ Below g w wr)
        case atStart => exact ⟨i + k, by omega, by omega, by go_num, rfl, hTk, Below.refl _ _⟩
        case round =>
          obtain ⟨q, hq1, hq2, rfl, hsp, hT, hB⟩ := hrel
          clear hTk hsc hq0
          have hzz := hB.size
          have hsc := hT.scan
          have hsf := hT.frozen 80 (Nat.le_refl _)
          have hgz := hT.lt
          cases gk with
          | zero =>
            obtain rfl : q = s.size := by omega
            have hsp2 : Hid (spanFrom s k (i + k) = none) := by rw [← hsp.out, spanFrom_end (by omega)]; rfl
            go_wp2_with fail
            go_step3
            go_wp2_with fail
            rw [Exit.noGoto_ret]
            refine bodyPost_ret (results_tmp4 rfl _ _ _) rfl ?_
            refine ⟨wr.heap.size, ?_, ?_, ?_⟩
            · exact (hB.setCell (p := ⟨g, o + 80, none⟩) (Nat.le_refl _) _).alloc (by simp; omega) _
            · simp
            · rw [hsp2.out]
              refine ⟨s.extract i (i + k), ret4 rfl rfl (intEq (by omega)) rfl, ?_⟩
              rw [World.cell?_alloc_at _ _ _ _ (by simp)]
              rfl
          | succ gg =>
            have hlt : q < s.size := by omega
            by_cases h96q : bt s q = 96
            · have t2 : (bt s q == 96) = true := by simp [h96q]
              have hgq := tick_gt hlt h96q
              have hleq := runEnd_le tickB s (i := q) (by omega)
              have hinq := fun j (h : q ≤ j) (h1 : j < runEnd tickB s q) => runEnd_in (p := tickB) (s := s) h h1
              have hatq := fun (h : runEnd tickB s q < s.size) => runEnd_at (p := tickB) (s := s) (i := q) (by omega) h
              have hhit := fun (h : runEnd tickB s q - q = k) => spanFrom_hit (n := k) hlt h96q h
              have hoth := fun (h : runEnd tickB s q - q ≠ k) => spanFrom_other (n := k) hlt h96q h
              obtain ⟨m, hm⟩ : ∃ m, runEnd tickB s q = q + m := ⟨runEnd tickB s q - q, by omega⟩
              rw [hm] at hgq hleq hinq hatq hhit hoth
              have hm1 : 1 ≤ m := by omega
              replace hinq := Lib.hid hinq
              replace hatq := Lib.hid hatq
              replace hhit := Lib.hid hhit
              replace hoth := Lib.hid hoth
              replace hm := Lib.hid hm
              replace h96q := Lib.hid h96q
              obtain ⟨wo, hwo⟩ : ∃ wo : World, wo = wr := ⟨_, rfl⟩
              go_upto_block 4 with fail
              go_cut [14] from 59 to 143 (fun s14 wx => s14 = .int .i64 (q + m : Nat) ∧ wx = wr)
              case first =>
                go_wp2_with fail
                go_loop [14] (fun v => ∃ j : Nat, j ≤ m ∧ v = .int .i64 (q + j : Nat)) (fun v => s.size - (intOf v).toNat)
                case atStart => exact ⟨0, by omega, rfl⟩
                case round =>
                  obtain ⟨j, hj, rfl⟩ := hrel
                  by_cases hjm : j < m
                  · have t3 : (bt s (q + j) == 96) = true := hinq.out (q + j) (by omega) (by omega)
                    have hjs : q + j < s.size := by omega
                    go_wp2_with fail
                    go_round
                    case rel => exact ⟨j + 1, by omega, by go_num⟩
                    case measure => simp [intOf]; omega
                  · obtain rfl : j = m := by omega
                    have hexq : (q + j < s.size ∧ (bt s (q + j) == 96) = false) ∨ s.size ≤ q + j := by
                      by_cases h : q + j < s.size
                      · exact .inl ⟨h, hatq.out h⟩
                      · exact .inr (by omega)
                    clear hatq hinq
                    rcases hexq with ⟨hqs, t3⟩ | hqs
                    · go_wp2_with fail
                      go_meet
                      exact ⟨rfl, rfl⟩
                    · go_wp2_with fail
                      go_meet
                      exact ⟨rfl, rfl⟩
              case rest =>
                obtain ⟨rfl, rfl⟩ := hcut
                have hse := fun (h : ¬ m = k) => (hoth.out (by omega)).symm.trans hsp.out
                replace hse := Lib.hid hse
                have hsk := fun (h : m = k) => (hhit.out (by omega)).symm.trans hsp.out
                replace hsk := Lib.hid hsk
                clear hoth hhit hsp hm h96q hinq hatq
                go_upto_if 93 with fail
                go_cut [] from 59 to 143 (fun wx => Ticks wx g o ∧ Below g w wx)
                case first =>
                  by_cases hj80 : m < 80
                  · obtain ⟨nl, hla⟩ := hT.last (m - 1) (by omega)
                    have hfz := hT.frozen (m - 1) (by omega)
                    go_wp2_with fail
                    go_meet
                    exact ⟨hT.set (by omega) _, hB.setCell (p := ⟨g, o + (m - 1), none⟩) (Nat.le_refl _) _⟩
                  · go_wp2_with fail
                    go_meet
                    exact ⟨hT, hB⟩
                case rest =>
                  obtain ⟨hT2, hB2⟩ := hcut
                  clear hT hB hsc hsf hgz hzz
                  have hgz := hT2.lt
                  by_cases hjk : m = k
                  · obtain rfl : k = m := by omega
                    have hsk2 := Lib.hid (hsk.out rfl)
                    clear hse hsk
                    obtain ⟨x, hx⟩ : ∃ x, Hid (subS (s.extract (i + k) q) = x) := ⟨_, rfl⟩
                    have hTz : Hid ((s.extract (i + k) q).size ≤ 300) := by show (s.extract (i + k) q).size ≤ 300; rw [size_extract]; omega
                    go_upto_region 19 with (go_at_call 37; refine (replaceNl_x (s.extract (i + k) q) x hTz.out hx.out _).mono ?_; rintro e w1 ⟨rfl, hB1⟩)
                    have hx300 : x.size ≤ 300 := by rw [← hx.out, size_subS, size_extract]; omega
                    have hbx := get_bt x
                    have h9T : Hid (∀ z, z < (s.extract (i + k) q).size → bt (s.extract (i + k) q) z ≠ 9) :=
                      fun z hz => by rw [size_extract] at hz; rw [bt_extract s (by omega) (by omega)]; exact h9.out _ (by omega)
                    have hc := fiveWays x.size (trim2S x).size (bt x 0) (bt x (x.size - 1))
                    rcases hc with c2 | ⟨c2, c3⟩ | ⟨c2, c3, c4⟩ | ⟨c2, c3, c4, c5⟩ | ⟨c2, c3, c4, c5⟩
                    · have hM := Lib.hid (meant_no hx.out h9T.out (fun h => absurd h.1 (Nat.not_le_of_lt c2)))
                      go_wp2_with fail
                      try rw [Exit.noGoto_ret]
                      refine bodyPost_ret (results_tmp4 rfl _ _ _) rfl ?_
                      exact spanEnd hB2 hB1 hsk2 hM (Nat.le_of_lt hgz) (ret4 rfl rfl (intEq (by omega)) rfl)
                    · have hM := Lib.hid (meant_no hx.out h9T.out (fun h => c3 h.2.1))
                      have t4 : (bt x 0 == 32) = false := by simp [c3]
                      replace c3 := Lib.hid c3
                      go_wp2_with fail
                      try rw [Exit.noGoto_ret]
                      refine bodyPost_ret (results_tmp4 rfl _ _ _) rfl ?_
                      exact spanEnd hB2 hB1 hsk2 hM (Nat.le_of_lt hgz) (ret4 rfl rfl (intEq (by omega)) rfl)
                    · have hM := Lib.hid (meant_no hx.out h9T.out (fun h => c4 h.2.2.1))
                      have t4 : (bt x 0 == 32) = true := by simp [c3]
                      have t5 : (bt x (x.size - 1) == 32) = false := by simp [c4]
                      replace c3 := Lib.hid c3
                      replace c4 := Lib.hid c4
                      go_wp2_with fail
                      try rw [Exit.noGoto_ret]
                      refine bodyPost_ret (results_tmp4 rfl _ _ _) rfl ?_
                      exact spanEnd hB2 hB1 hsk2 hM (Nat.le_of_lt hgz) (ret4 rfl rfl (intEq (by omega)) rfl)
                    · have hM := Lib.hid (meant_no hx.out h9T.out (fun h => absurd h.2.2.2 (by rw [c5]; exact Nat.lt_irrefl 0)))
                      have t4 : (bt x 0 == 32) = true := by simp [c3]
                      have t5 : (bt x (x.size - 1) == 32) = true := by simp [c4]
                      obtain ⟨y, hy⟩ : ∃ y, Hid (trim2S x = y) := ⟨_, rfl⟩
                      have t6 := empty_of (hy.out ▸ c5)
                      have hcy := Lib.hid (fun w => trim2_y hx300 hy.out w)
                      clear hy c5
                      replace c3 := Lib.hid c3
                      replace c4 := Lib.hid c4
                      go_wp2_with (first | (go_at_call 38; refine (hcy.out _).mono ?_; rintro e w2 ⟨rfl, rfl⟩))
                      try rw [Exit.noGoto_ret]
                      refine bodyPost_ret (results_tmp4 rfl _ _ _) rfl ?_
                      exact spanEnd hB2 hB1 hsk2 hM (Nat.le_of_lt hgz) (ret4 rfl rfl (intEq (by omega)) rfl)
                    · have hM := Lib.hid (meant_yes hx.out h9T.out c2 c3 c4 c5)
                      have t4 : (bt x 0 == 32) = true := by simp [c3]
                      have t5 : (bt x (x.size - 1) == 32) = true := by simp [c4]
                      obtain ⟨y, hy⟩ : ∃ y, Hid (trim2S x = y) := ⟨_, rfl⟩
                      have t6 := full_of (hy.out ▸ c5)
                      have hcy := Lib.hid (fun w => trim2_y hx300 hy.out w)
                      clear hy c5
                      replace c3 := Lib.hid c3
                      replace c4 := Lib.hid c4
                      go_wp2_with (first | (go_at_call 38; refine (hcy.out _).mono ?_; rintro e w2 ⟨rfl, rfl⟩))
                      try rw [Exit.noGoto_ret]
                      refine bodyPost_ret (results_tmp4 rfl _ _ _) rfl ?_
                      exact spanEnd hB2 hB1 hsk2 hM (Nat.le_of_lt hgz) (ret4 rfl rfl (intEq (by omega)) rfl)
                  · have hse2 := Lib.hid (hse.out hjk)
                    clear hse hsk
                    go_wp2_with fail
                    go_roundg (s.size - (q + m))
                    case measure => omega
                    case rel => exact ⟨q + m, by omega, by omega, by go_num, hse2, hT2, hB2⟩
            · have t2 : (bt s q == 96) = false := by simp [h96q]
              have hsp2 : Hid (spanFrom s k (q + 1) = spanFrom s k (i + k)) := by rw [← spanFrom_skip hlt h96q]; exact hsp
              clear hsp h96q
              go_wp2_with fail
              go_roundg gg
              case measure => exact Nat.lt_succ_self _
              case rel => exact ⟨q + 1, by omega, by omega, by go_num, hsp2, hT, hB⟩
      · go_wp2_with fail
        go_loopg [14] (s.size - (i + k)) (fun gg v wr => ∃ q : Nat, i + k ≤ q ∧ q + gg = s.size ∧ v = .int .i64 q ∧ Hid (spanFrom s k q = spanFrom s k (i + k)) ∧ Ticks wr g o ∧ Below g w wr)
        case atStart => exact ⟨i + k, by omega, by omega, by go_num, rfl, hTk, Below.refl _ _⟩
        case round =>
          obtain ⟨q, hq1, hq2, rfl, hsp, hT, hB⟩ := hrel
          clear hTk hsc hq0
          have hzz := hB.size
          have hsc := hT.scan
          have hsf := hT.frozen 80 (Nat.le_refl _)
          have hgz := hT.lt
          cases gk with
          | zero =>
            obtain rfl : q = s.size := by omega
            have hsp2 : Hid (spanFrom s k (i + k) = none) := by rw [← hsp.out, spanFrom_end (by omega)]; rfl
            go_wp2_with fail
            go_step3
            go_wp2_with fail
            rw [Exit.noGoto_ret]
            refine bodyPost_ret (results_tmp4 rfl _ _ _) rfl ?_
            refine ⟨wr.heap.size, ?_, ?_, ?_⟩
            · exact (hB.setCell (p := ⟨g, o + 80, none⟩) (Nat.le_refl _) _).alloc (by simp; omega) _
            · simp
            · rw [hsp2.out]
              refine ⟨s.extract i (i + k), ret4 rfl rfl (intEq (by omega)) rfl, ?_⟩
              rw [World.cell?_alloc_at _ _ _ _ (by simp)]
              rw [hlt2]
              rfl
          | succ gg => exact absurd hq2 (by omega)
end Go.Proofs.Ytiilhmagepncgaa.W
