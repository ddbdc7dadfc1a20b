/- The walk of FnTableCells over a slice of slices of bools as it was read: a row of 1 to 50 cells (of letters, and pipes behind backslashes), without pipes at its ends, has as many cells. Condition: the slice reads as a grid. -/
import Derived.Test.YtonadaoehhlafaaCount
import Derived.Test.YtonadaoehhlafaaRet
namespace Go.Proofs.Ytonadaoehhlafaa.W
open Go.RowKit Go.PlainAid

theorem tableCount_z (s : ByteArray) (hs : s.size ≤ 2147483647) (w : World) :
    Calls Try.prog 36 #[.string s] w fun e w1 => e = .returned (.int .i64 (colsTo s s.size)) ∧ w = w1 := by
  go_enter Try.func36, Try.ntmps36
  go_wp2_with (first | (go_at_call 52; refine (tableCount_c _ hs _).mono ?_; rintro e w1 ⟨rfl, rfl⟩) | go_in)
  go_ret
  exact ⟨rfl, rfl⟩
theorem tableCount_i (s : ByteArray) (hs : s.size ≤ 2147483647) (w : World) :
    Calls Try.prog 17 #[.string s] w fun e w1 => e = .returned (.int .i64 (colsTo s s.size)) ∧ w = w1 := by
  go_enter Try.func17, Try.ntmps17
  go_wp2_with (go_at_call 36; refine (tableCount_z _ hs _).mono ?_; rintro e w1 ⟨rfl, rfl⟩)
  go_ret
  exact ⟨rfl, rfl⟩

/-- what the walk is told of a slice of slices of bools -/
def IsGrid (w : World) (a : Option Addr) (len cap : Nat) (A : Nat → Option Addr) (L C : Nat → Nat) (B : Nat → Nat → Bool) : Prop :=
  (a = none ∧ len = 0 ∧ cap = 0) ∨
  ∃ x, a = some x ∧ len ≤ cap ∧ cap ≤ maxLen ∧ ∀ r, r < cap → w.cell? (x.add r) = some (.slice (A r) (L r) (C r)) ∧ L r ≤ C r ∧ C r ≤ maxLen ∧ (A r = none → C r = 0) ∧
    ∀ a', A r = some a' → ∀ c, c < C r → w.cell? (a'.add c) = some (.bool (B r c))

/-- .. opened: the cells of the rows, and of each row that is not empty -/
theorem grid_open {w : World} {x : Addr} {len cap : Nat} {A : Nat → Option Addr} {L C : Nat → Nat} {B : Nat → Nat → Bool} (h : IsGrid w (some x) len cap A L C B) (h0 : 0 < len) :
    ∃ b off, x = ⟨b, off, none⟩ ∧ ∀ r, r < len → w.cell? ⟨b, off + r, none⟩ = some (.slice (A r) (L r) (C r)) ∧ L r ≤ C r ∧ C r ≤ maxLen ∧ (0 < L r → ∃ b' off', A r = some ⟨b', off', none⟩ ∧ ∀ c, c < L r → w.cell? ⟨b', off' + c, none⟩ = some (.bool (B r c))) := by
  rcases h with ⟨h, _⟩ | ⟨y, hy, h1, h2, h3⟩
  · cases h
  cases hy
  obtain ⟨b, off, spot⟩ := x
  have hc := (h3 0 (by omega)).1
  have hspot : spot = none := by simpa [Addr.add] using World.cell?_spot hc
  subst hspot
  refine ⟨b, off, rfl, fun r hr => ?_⟩
  obtain ⟨g1, g2, g3, g4, g5⟩ := h3 r (by omega)
  have e : ∀ (b o n : Nat), (⟨b, o, none⟩ : Addr).add n = ⟨b, o + n, none⟩ := fun b o n => by unfold Addr.add; split <;> simp_all
  rw [e] at g1
  refine ⟨g1, g2, g3, fun hL => ?_⟩
  cases hA : A r with
  | none => have := g4 hA; omega
  | some a' =>
    obtain ⟨b', off', spot'⟩ := a'
    have k0 := g5 _ hA 0 (by omega)
    have hspot : spot' = none := by simpa [Addr.add] using World.cell?_spot k0
    subst hspot
    refine ⟨b', off', rfl, fun c hc => ?_⟩
    have := g5 _ hA c (by omega)
    rwa [e] at this

theorem fits_yes (b off len cap : Nat) (A : Nat → Option Addr) (L C : Nat → Nat) (w : World) (hlen : len ≤ 2147483647) (h : ∀ r, r < len → w.cell? ⟨b, off + r, none⟩ = some (.slice (A r) (L r) (C r)) ∧ L r ≤ 2147483647) :
    Calls Try.prog 16 #[.slice (some ⟨b, off, none⟩) len cap] w fun e w1 => e = .returned (.bool true) ∧ w = w1 := by
  replace h := Lib.hid h
  go_enter Try.func16, Try.ntmps16
  go_wp2
  go_loop [10] (fun i => ∃ k : Nat, k ≤ len ∧ i = .int .i64 k) (fun i => len - (intOf i).toNat)
  case atStart => exact ⟨0, Nat.zero_le _, rfl⟩
  case round =>
    obtain ⟨k, hk, rfl⟩ := hrel
    by_cases hlt : k < len
    · obtain ⟨hc, hL⟩ := h.out k hlt
      go_wp2
      go_round
      case rel => exact ⟨k + 1, by omega, by go_num⟩
      case measure => simp [intOf]; omega
    · go_wp2
      go_ret
      exact ⟨rfl, rfl⟩
theorem fits_no (b off len cap k : Nat) (A : Nat → Option Addr) (L C : Nat → Nat) (w : World) (hlen : len ≤ 2147483647) (hk : k < len) (h : ∀ r, r < len → w.cell? ⟨b, off + r, none⟩ = some (.slice (A r) (L r) (C r))) (h1 : ∀ r, r < k → L r ≤ 2147483647) (h2 : 2147483647 < L k) :
    Calls Try.prog 16 #[.slice (some ⟨b, off, none⟩) len cap] w fun e w1 => e = .returned (.bool false) ∧ w = w1 := by
  replace h := Lib.hid h
  replace h1 := Lib.hid h1
  go_enter Try.func16, Try.ntmps16
  go_wp2
  go_loop [10] (fun i => ∃ j : Nat, j ≤ k ∧ i = .int .i64 j) (fun i => len - (intOf i).toNat)
  case atStart => exact ⟨0, Nat.zero_le _, rfl⟩
  case round =>
    obtain ⟨j, hj, rfl⟩ := hrel
    by_cases hlt : j < k
    · have hc := h.out j (by omega)
      have hL := h1.out j hlt
      go_wp2
      go_round
      case rel => exact ⟨j + 1, by omega, by go_num⟩
      case measure => simp [intOf]; omega
    · have e : j = k := by omega
      subst e
      have hc := h.out j (by omega)
      go_wp2
      go_ret
      exact ⟨rfl, rfl⟩

theorem fits_none (a : Option Addr) (cap : Nat) (w : World) :
    Calls Try.prog 16 #[.slice a 0 cap] w fun e w1 => e = .returned (.bool true) ∧ w = w1 := by
  go_enter Try.func16, Try.ntmps16
  go_wp2
  refine Go.wp_loop_rounds 1 ?_
  rw [rounds_succ]
  go_wp2
  go_ret
  exact ⟨rfl, rfl⟩
theorem fits_long (a : Option Addr) (len cap : Nat) (hlen : 2147483647 < len) (w : World) :
    Calls Try.prog 16 #[.slice a len cap] w fun e w1 => e = .returned (.bool false) ∧ w = w1 := by
  go_enter Try.func16, Try.ntmps16
  go_wp2
  go_ret
  exact ⟨rfl, rfl⟩
/-- all rows are short, or there is a first long one -/
theorem all_or_first (L : Nat → Nat) (M : Nat) : ∀ n, (∀ r, r < n → L r ≤ M) ∨ ∃ k, k < n ∧ (∀ r, r < k → L r ≤ M) ∧ M < L k
  | 0 => .inl fun r hr => by omega
  | n + 1 => by
    rcases all_or_first L M n with h | ⟨k, h1, h2, h3⟩
    · by_cases e : L n ≤ M
      · refine .inl fun r hr => ?_
        by_cases f : r = n
        · subst f; exact e
        · exact h r (by omega)
      · exact .inr ⟨n, by omega, h, by omega⟩
    · exact .inr ⟨k, by omega, h2, h3⟩

/-- what is known of a row of k cells -/
def RowOk (R : ByteArray) (k : Nat) : Prop := (k = 0 → R.size = 0) ∧ (0 < k → colsTo R R.size = k ∧ prevAt R R.size = 98)
/-- .. within its cell k -/
def CellOk (R : ByteArray) (k : Nat) : Prop := colsTo R R.size = k + 1
theorem row_start {R : ByteArray} {k : Nat} (h : RowOk R k) (hk : 0 < k) : CellOk (R ++ ⟨#[124]⟩) k := by
  show colsTo (R ++ ⟨#[124]⟩) (R ++ ⟨#[124]⟩).size = k + 1
  rw [cols_one R ⟨#[124]⟩ rfl, (h.2 hk).1, (h.2 hk).2]; rfl
theorem row_first {R : ByteArray} (h : RowOk R 0) : CellOk R 0 := by
  show colsTo R R.size = 1
  rw [h.1 rfl]; rfl
theorem cell_a {R : ByteArray} {k : Nat} (h : CellOk R k) : CellOk (R ++ ⟨#[97]⟩) k := by
  show colsTo (R ++ ⟨#[97]⟩) (R ++ ⟨#[97]⟩).size = k + 1
  rw [cols_one R ⟨#[97]⟩ rfl, h]; rfl
theorem cell_pipe {R : ByteArray} {k : Nat} (h : CellOk R k) : CellOk (R ++ ⟨#[92, 124]⟩) k := by
  have e : R ++ ⟨#[92, 124]⟩ = (R ++ ⟨#[92]⟩) ++ ⟨#[124]⟩ := by
    rw [ByteArray.append_assoc]; rfl
  show colsTo (R ++ ⟨#[92, 124]⟩) (R ++ ⟨#[92, 124]⟩).size = k + 1
  rw [e, cols_one _ ⟨#[124]⟩ rfl, prev_one R ⟨#[92]⟩ rfl, cols_one R ⟨#[92]⟩ rfl, h]; rfl
theorem cell_end {R : ByteArray} {k : Nat} (h : CellOk R k) : RowOk (R ++ ⟨#[98]⟩) (k + 1) := by
  refine ⟨by omega, fun _ => ⟨?_, prev_one R ⟨#[98]⟩ rfl⟩⟩
  rw [cols_one R ⟨#[98]⟩ rfl, h]; rfl

set_option maxHeartbeats 1000000 in
theorem cells_main (b off len cap : Nat) (A : Nat → Option Addr) (L C : Nat → Nat) (B : Nat → Nat → Bool) (w : World) (h0 : 0 < len) (hlen : len ≤ 50)
    (hg : ∀ r, r < len → w.cell? ⟨b, off + r, none⟩ = some (.slice (A r) (L r) (C r)) ∧ L r ≤ 2147483647 ∧ (0 < L r → ∃ b' off', A r = some ⟨b', off', none⟩ ∧ ∀ c, c < L r → w.cell? ⟨b', off' + c, none⟩ = some (.bool (B r c)))) :
    Calls Try.prog 5 #[.slice (some ⟨b, off, none⟩) len cap] w fun e w1 => e = .returned (.bool true) ∧ w = w1 := by
  have hf : ∀ r, r < len → w.cell? ⟨b, off + r, none⟩ = some (.slice (A r) (L r) (C r)) ∧ L r ≤ 2147483647 := fun r hr => ⟨(hg r hr).1, (hg r hr).2.1⟩
  replace hf := Lib.hid hf
  replace hg := Lib.hid hg
  have hd1 : decide ((len : Int) < 1) = false := by simp; omega
  have hd2 : decide (50 < (len : Int)) = false := by simp; omega
  go_enter Try.func5, Try.ntmps5
  go_wp2_with (go_at_call 16; refine (fits_yes b off len cap A L C w (by omega) hf.out).mono ?_; rintro e w1 ⟨rfl, rfl⟩)
  go_loop [3, 21] (fun s i => ∃ (k : Nat) (R : ByteArray), k ≤ len ∧ i = .int .i64 k ∧ s = .string R ∧ R.size ≤ 102 * k ∧ Hid (RowOk R k)) (fun _ i => len - (intOf i).toNat)
  case atStart => exact ⟨0, ByteArray.empty, Nat.zero_le _, rfl, rfl, by simp, ⟨fun _ => rfl, fun h => by omega⟩⟩
  case round =>
    obtain ⟨k, R, hk, rfl, rfl, hsz, hR⟩ := hrel
    by_cases hlt : k < len
    · obtain ⟨hc, hL, hrow⟩ := hg.out k hlt
      by_cases hL0 : L k = 0
      · have e0 : ((L k : Int) == 0) = true := by simp [hL0]
        clear hrow hL0
        go_wp2
        go_ret
        exact ⟨rfl, rfl⟩
      · have e0 : ((L k : Int) == 0) = false := by simp; omega
        by_cases hL50 : 50 < L k
        · clear hrow hL0
          go_wp2
          go_ret
          exact ⟨rfl, rfl⟩
        · obtain ⟨b', off', hA, hcell⟩ := hrow (by omega)
          replace hcell := Lib.hid hcell
          rw [hA] at hc
          clear hA hrow hL0
          by_cases hk0 : k = 0
          · have hS : Hid (CellOk R k) := by
              have hR := hR.out
              rw [hk0] at hR ⊢
              exact row_first hR
            have hd3 : decide ((0 : Int) < (k : Int)) = false := by simp; omega
            have hk1 : ¬ (0 : Int) < (k : Int) := by omega
            replace hk0 := Lib.hid hk0
            go_wp2
            go_loop [3, 40] (fun s i => ∃ (c : Nat) (Q : ByteArray), c ≤ L k ∧ i = .int .i64 c ∧ s = .string Q ∧ Q.size ≤ 102 * k + 1 + 2 * c ∧ Hid (CellOk Q k)) (fun _ i => L k - (intOf i).toNat)
            case atStart => exact ⟨0, R, Nat.zero_le _, rfl, rfl, by first | omega | (rw [size_app]; show R.size + 1 ≤ _; omega), hS⟩
            case round =>
              obtain ⟨c, Q, hcl, rfl, rfl, hQ, hC⟩ := hrel
              by_cases hcc : c < L k
              · have hb := hcell.out c hcc
                cases hB : B k c
                · have hC' : Hid (CellOk (Q ++ ⟨#[97]⟩) k) := cell_a hC.out
                  go_wp2
                  go_round
                  case rel => exact ⟨c + 1, _, by omega, by go_num, rfl, by rw [size_app]; show Q.size + 1 ≤ _; omega, hC'⟩
                  case measure => simp [intOf]; omega
                · have hC' : Hid (CellOk (Q ++ ⟨#[92, 124]⟩) k) := cell_pipe hC.out
                  go_wp2
                  go_round
                  case rel => exact ⟨c + 1, _, by omega, by go_num, rfl, by rw [size_app]; show Q.size + 2 ≤ _; omega, hC'⟩
                  case measure => simp [intOf]; omega
              · have hE : Hid (RowOk (Q ++ ⟨#[98]⟩) (k + 1)) := cell_end hC.out
                go_wp2
                go_round
                case rel => exact ⟨k + 1, _, by omega, by go_num, rfl, by rw [size_app]; show Q.size + 1 ≤ _; omega, hE⟩
                case measure => simp [intOf]; omega
          · have hS : Hid (CellOk (R ++ ⟨#[124]⟩) k) := row_start hR.out (by omega)
            have hk1 : 0 < k := by omega
            clear hk0
            go_wp2
            go_loop [3, 40] (fun s i => ∃ (c : Nat) (Q : ByteArray), c ≤ L k ∧ i = .int .i64 c ∧ s = .string Q ∧ Q.size ≤ 102 * k + 1 + 2 * c ∧ Hid (CellOk Q k)) (fun _ i => L k - (intOf i).toNat)
            case atStart => exact ⟨0, R ++ ⟨#[124]⟩, Nat.zero_le _, rfl, rfl, by first | omega | (rw [size_app]; show R.size + 1 ≤ _; omega), hS⟩
            case round =>
              obtain ⟨c, Q, hcl, rfl, rfl, hQ, hC⟩ := hrel
              by_cases hcc : c < L k
              · have hb := hcell.out c hcc
                cases hB : B k c
                · have hC' : Hid (CellOk (Q ++ ⟨#[97]⟩) k) := cell_a hC.out
                  go_wp2
                  go_round
                  case rel => exact ⟨c + 1, _, by omega, by go_num, rfl, by rw [size_app]; show Q.size + 1 ≤ _; omega, hC'⟩
                  case measure => simp [intOf]; omega
                · have hC' : Hid (CellOk (Q ++ ⟨#[92, 124]⟩) k) := cell_pipe hC.out
                  go_wp2
                  go_round
                  case rel => exact ⟨c + 1, _, by omega, by go_num, rfl, by rw [size_app]; show Q.size + 2 ≤ _; omega, hC'⟩
                  case measure => simp [intOf]; omega
              · have hE : Hid (RowOk (Q ++ ⟨#[98]⟩) (k + 1)) := cell_end hC.out
                go_wp2
                go_round
                case rel => exact ⟨k + 1, _, by omega, by go_num, rfl, by rw [size_app]; show Q.size + 1 ≤ _; omega, hE⟩
                case measure => simp [intOf]; omega
    · have e : k = len := by omega
      subst e
      have hR' := (hR.out.2 h0).1
      replace hR' := Lib.hid hR'
      go_wp2_with (go_at_call 17; refine (tableCount_i R (by omega) w).mono ?_; rintro e w1 ⟨rfl, rfl⟩)
      go_ret
      exact ⟨retBool (by rw [hR'.out]; simp), rfl⟩

theorem cells_law (a : Option Addr) (len cap : Nat) (A : Nat → Option Addr) (L C : Nat → Nat) (B : Nat → Nat → Bool) (w : World) (h : IsGrid w a len cap A L C B) :
    Calls Try.prog 5 #[.slice a len cap] w fun e w1 => e = .returned (.bool true) ∧ w = w1 := by
  by_cases hl : 2147483647 < len
  · clear h
    go_enter Try.func5, Try.ntmps5
    go_wp2_with (go_at_call 16; refine (fits_long a len cap hl w).mono ?_; rintro e w1 ⟨rfl, rfl⟩)
    go_ret
    exact ⟨rfl, rfl⟩
  · by_cases h0 : len = 0
    · subst h0
      clear h
      go_enter Try.func5, Try.ntmps5
      go_wp2_with (go_at_call 16; refine (fits_none a cap w).mono ?_; rintro e w1 ⟨rfl, rfl⟩)
      go_ret
      exact ⟨rfl, rfl⟩
    · have hx : ∃ x, a = some x := by
        rcases h with ⟨_, h, _⟩ | ⟨x, h, _⟩
        · omega
        · exact ⟨x, h⟩
      obtain ⟨x, rfl⟩ := hx
      obtain ⟨b, off, rfl, hg⟩ := grid_open h (by omega)
      clear h
      rcases all_or_first L 2147483647 len with hall | ⟨k, hk, h1, h2⟩
      · by_cases h50 : 50 < len
        · have hf : ∀ r, r < len → w.cell? ⟨b, off + r, none⟩ = some (.slice (A r) (L r) (C r)) ∧ L r ≤ 2147483647 := fun r hr => ⟨(hg r hr).1, hall r hr⟩
          replace hf := Lib.hid hf
          clear hg hall
          go_enter Try.func5, Try.ntmps5
          go_wp2_with (go_at_call 16; refine (fits_yes b off len cap A L C w (by omega) hf.out).mono ?_; rintro e w1 ⟨rfl, rfl⟩)
          go_ret
          exact ⟨rfl, rfl⟩
        · exact cells_main b off len cap A L C B w (by omega) (by omega) fun r hr => ⟨(hg r hr).1, hall r hr, (hg r hr).2.2.2⟩
      · have hf : ∀ r, r < len → w.cell? ⟨b, off + r, none⟩ = some (.slice (A r) (L r) (C r)) := fun r hr => (hg r hr).1
        replace hf := Lib.hid hf
        replace h1 := Lib.hid h1
        clear hg
        go_enter Try.func5, Try.ntmps5
        go_wp2_with (go_at_call 16; refine (fits_no b off len cap k A L C w (by omega) hk hf.out h1.out h2).mono ?_; rintro e w1 ⟨rfl, rfl⟩)
        go_ret
        exact ⟨rfl, rfl⟩
end Go.Proofs.Ytonadaoehhlafaa.W
