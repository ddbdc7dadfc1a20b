/- Plain words on rows of a table: a pipe, and cells laid behind it; the delimiter cell; the cells of a header are counted. No program in sight. No conditions. -/
import Derived.Test.YtdbnfginhipcaaaDoorTRow
import Derived.Test.YtdbnfginhipcaaaDoorCount
namespace Go.Proofs.YtdbnfginhipcaaaDoor.W
open Go.RowKit Go.PlainAid
set_option linter.unusedVariables false

def rowS (cell : ByteArray) : Nat → ByteArray
  | 0 => ⟨#[124]⟩
  | k + 1 => rowS cell k ++ cell
theorem size_rowS (cell : ByteArray) : ∀ k, (rowS cell k).size = 1 + k * cell.size
  | 0 => by rw [Nat.zero_mul]; rfl
  | k + 1 => by rw [rowS, size_app, size_rowS cell k, Nat.succ_mul]; omega
theorem row_first (cell : ByteArray) : ∀ k, bt (rowS cell k) 0 = 124
  | 0 => rfl
  | k + 1 => by rw [rowS, bt_app_l _ _ (by rw [size_rowS]; omega), row_first cell k]
theorem row_at (cell : ByteArray) : ∀ k c r, c < k → r < cell.size → bt (rowS cell k) (1 + c * cell.size + r) = bt cell r
  | 0, c, r, hc, hr => by omega
  | k + 1, c, r, hc, hr => by
    rw [rowS]
    have hz := size_rowS cell k
    by_cases e : c < k
    · have h1 : (c + 1) * cell.size ≤ k * cell.size := Nat.mul_le_mul_right _ e
      rw [Nat.succ_mul] at h1
      rw [bt_app_l _ _ (by rw [hz]; omega), row_at cell k c r e hr]
    · obtain rfl : c = k := by omega
      rw [bt_app_r _ _ (by rw [hz]; omega), hz, show 1 + c * cell.size + r - (1 + c * cell.size) = r from by omega]
theorem row_last (cell : ByteArray) {k : Nat} (hk : 0 < k) (hz : 0 < cell.size) (hl : bt cell (cell.size - 1) = 124) : bt (rowS cell k) ((rowS cell k).size - 1) = 124 := by
  obtain ⟨j, rfl⟩ : ∃ j, k = j + 1 := ⟨k - 1, by omega⟩
  have h := row_at cell (j + 1) j (cell.size - 1) (by omega) (by omega)
  rw [size_rowS, Nat.succ_mul, show 1 + (j * cell.size + cell.size) - 1 = 1 + j * cell.size + (cell.size - 1) from by omega, h, hl]
/-- the row without its outer pipes -/
def innerS (cell : ByteArray) (k : Nat) : ByteArray := (rowS cell k).extract 1 ((rowS cell k).size - 1)
theorem size_inner (cell : ByteArray) (k : Nat) : (innerS cell k).size = k * cell.size - 1 := by
  unfold innerS; rw [size_extract, size_rowS]; omega
theorem inner_at (cell : ByteArray) {k c r : Nat} (hc : c < k) (hr : r < cell.size) (h : c * cell.size + r < k * cell.size - 1) : bt (innerS cell k) (c * cell.size + r) = bt cell r := by
  have hz := size_rowS cell k
  unfold innerS
  rw [bt_extract _ (by omega) (by omega), ← Nat.add_assoc, row_at cell k c r hc hr]

/-! ### the header -/
def cellA : ByteArray := ⟨#[32, 97, 32, 124]⟩
theorem bt_cellA (r : Nat) : bt cellA r = if r = 0 then 32 else if r = 1 then 97 else if r = 2 then 32 else if r = 3 then 124 else 0 := by
  match r with
  | 0 => rfl
  | 1 => rfl
  | 2 => rfl
  | 3 => rfl
  | r + 4 => 
    rw [if_neg (by omega), if_neg (by omega), if_neg (by omega), if_neg (by omega)]
    unfold bt
    rw [dif_neg]
    show ¬ r + 4 < 4
    omega
theorem pipe_inner (n k : Nat) (hk : k < n * 4 - 1) : pipeAt (innerS cellA n) k = (k % 4 == 3) := by
  have hz : cellA.size = 4 := rfl
  have hat : ∀ j, j < n * 4 - 1 → bt (innerS cellA n) j = bt cellA (j % 4) := fun j hj => by
    have h := inner_at cellA (k := n) (c := j / 4) (r := j % 4) (by omega) (by rw [hz]; omega) (by rw [hz]; omega)
    rw [hz] at h
    rw [← h, show j / 4 * 4 + j % 4 = j from by omega]
  unfold pipeAt
  rw [hat k hk, bt_cellA]
  have h4 : k % 4 < 4 := Nat.mod_lt _ (by omega)
  by_cases h3 : k % 4 = 3
  · have h2 : bt (innerS cellA n) (k - 1) = 32 := by
      rw [hat (k - 1) (by omega), show (k - 1) % 4 = 2 from by omega]; rfl
    rw [h2, h3]
    simp
  · have e : (k % 4 == 3) = false := by simpa using h3
    rw [e, Bool.and_eq_false_iff]
    left
    rw [beq_eq_false_iff_ne]
    split
    · decide
    · split
      · decide
      · split
        · decide
        · decide
theorem cols_inner (n : Nat) : ∀ k, k ≤ n * 4 - 1 → colsTo (innerS cellA n) k = 1 + k / 4
  | 0, _ => rfl
  | k + 1, h => by
    rw [colsTo, cols_inner n k (by omega), pipe_inner n k (by omega)]
    by_cases h3 : k % 4 = 3
    · rw [h3]
      show 1 + k / 4 + 1 = _
      omega
    · rw [if_neg (by simpa using h3)]; omega
theorem cols_header {n : Nat} (hn : 0 < n) : colsTo (innerS cellA n) (innerS cellA n).size = n := by
  rw [size_inner, show cellA.size = 4 from rfl, cols_inner n _ (Nat.le_refl _)]
  omega

/-! ### the delimiter -/
def dl (pre : ByteArray) : Nat → ByteArray
  | 0 => pre
  | k + 1 => dl pre k ++ ⟨#[45]⟩
theorem size_dl (pre : ByteArray) : ∀ k, (dl pre k).size = pre.size + k
  | 0 => rfl
  | k + 1 => by rw [dl, size_app, size_dl pre k]; show pre.size + k + 1 = _; omega
theorem dl_pre (pre : ByteArray) : ∀ k j, j < pre.size → bt (dl pre k) j = bt pre j
  | 0, j, h => rfl
  | k + 1, j, h => by rw [dl, bt_app_l _ _ (by rw [size_dl]; omega), dl_pre pre k j h]
theorem dl_dash (pre : ByteArray) : ∀ k j, j < k → bt (dl pre k) (pre.size + j) = 45
  | 0, j, h => by omega
  | k + 1, j, h => by
    rw [dl]
    have hz := size_dl pre k
    by_cases e : j < k
    · rw [bt_app_l _ _ (by omega), dl_dash pre k j e]
    · rw [bt_app_r _ _ (by omega), hz, show pre.size + j - (pre.size + k) = 0 from by omega]; rfl
def preS (a : Nat) : ByteArray := if a = 1 ∨ a = 2 then ⟨#[58]⟩ else ⟨#[]⟩
def delimS (a h : Nat) : ByteArray := if a = 2 ∨ a = 3 then dl (preS a) h ++ ⟨#[58]⟩ else dl (preS a) h
def cellD (D : ByteArray) : ByteArray := (⟨#[32]⟩ ++ D) ++ ⟨#[32, 124]⟩
theorem size_cellD (D : ByteArray) : (cellD D).size = D.size + 3 := by
  unfold cellD; rw [size_app, size_app]; show 1 + D.size + 2 = _; omega
theorem cellD_0 (D : ByteArray) : bt (cellD D) 0 = 32 := by
  unfold cellD
  rw [bt_app_l _ _ (by rw [size_app]; show 0 < 1 + D.size; omega), bt_app_l _ _ (by show 0 < 1; omega)]; rfl
theorem cellD_in (D : ByteArray) {j : Nat} (h : j < D.size) : bt (cellD D) (1 + j) = bt D j := by
  unfold cellD
  rw [bt_app_l _ _ (by rw [size_app]; show 1 + j < 1 + D.size; omega), bt_app_r _ _ (by show 1 ≤ 1 + j; omega)]
  rw [show 1 + j - (⟨#[32]⟩ : ByteArray).size = j from by show 1 + j - 1 = j; omega]
theorem cellD_r (D : ByteArray) (r : Nat) : bt (cellD D) (1 + D.size + r) = bt ⟨#[32, 124]⟩ r := by
  unfold cellD
  have hz : ((⟨#[32]⟩ : ByteArray) ++ D).size = 1 + D.size := by rw [size_app]; rfl
  rw [bt_app_r _ _ (by rw [hz]; omega), hz, show 1 + D.size + r - (1 + D.size) = r from by omega]
/-- what a delimiter's cell holds -/
structure DCell (c : ByteArray) (p h q : Nat) : Prop where
  size : c.size = p + h + q + 3
  p1 : p ≤ 1
  q1 : q ≤ 1
  sp : bt c 0 = 32
  col : p = 1 → bt c 1 = 58
  dash : ∀ j, j < h → bt c (1 + p + j) = 45
  col2 : q = 1 → bt c (1 + p + h) = 58
  sp2 : bt c (1 + p + h + q) = 32
  pipe : bt c (2 + p + h + q) = 124
theorem dcell (a h : Nat) : ∃ p q, DCell (cellD (delimS a h)) p h q := by
  have key : ∀ (pre post : ByteArray), (pre = ⟨#[]⟩ ∨ pre = ⟨#[58]⟩) → (post = ⟨#[]⟩ ∨ post = ⟨#[58]⟩) → DCell (cellD (dl pre h ++ post)) pre.size h post.size := by
    intro pre post h1 h2
    have hz := size_dl pre h
    have hD : (dl pre h ++ post).size = pre.size + h + post.size := by rw [size_app, hz]
    have p1 : pre.size ≤ 1 := by rcases h1 with rfl | rfl <;> decide
    have q1 : post.size ≤ 1 := by rcases h2 with rfl | rfl <;> decide
    refine ⟨by rw [size_cellD, hD], p1, q1, cellD_0 _, fun e => ?_, fun j hj => ?_, fun e => ?_, ?_, ?_⟩
    · rw [cellD_in _ (j := 0) (by omega), bt_app_l _ _ (by omega), dl_pre _ _ _ (by omega)]
      rcases h1 with rfl | rfl
      · exact absurd e (by decide)
      · rfl
    · rw [show 1 + pre.size + j = 1 + (pre.size + j) from by omega, cellD_in _ (by omega), bt_app_l _ _ (by omega), dl_dash _ _ _ hj]
    · rw [show 1 + pre.size + h = 1 + (pre.size + h) from by omega, cellD_in _ (by omega), bt_app_r _ _ (by omega), hz, Nat.sub_self]
      rcases h2 with rfl | rfl
      · exact absurd e (by decide)
      · rfl
    · have := cellD_r (dl pre h ++ post) 0
      rw [hD] at this
      rw [show 1 + pre.size + h + post.size = 1 + (pre.size + h + post.size) + 0 from by omega, this]; rfl
    · have := cellD_r (dl pre h ++ post) 1
      rw [hD] at this
      rw [show 2 + pre.size + h + post.size = 1 + (pre.size + h + post.size) + 1 from by omega, this]; rfl
  have hpre : preS a = ⟨#[]⟩ ∨ preS a = ⟨#[58]⟩ := by unfold preS; split; exact .inr rfl; exact .inl rfl
  by_cases e : a = 2 ∨ a = 3
  · refine ⟨(preS a).size, 1, ?_⟩
    rw [delimS, if_pos e]
    exact key _ ⟨#[58]⟩ hpre (.inr rfl)
  · refine ⟨(preS a).size, 0, ?_⟩
    rw [delimS, if_neg e]
    have k := key _ ⟨#[]⟩ hpre (.inl rfl)
    have e2 : dl (preS a) h ++ ⟨#[]⟩ = dl (preS a) h := by
      refine str_ext (by rw [size_app]; rfl) fun j hj => ?_
      rw [size_app] at hj
      exact bt_app_l _ _ hj
    rw [e2] at k
    exact k
end Go.Proofs.YtdbnfginhipcaaaDoor.W
