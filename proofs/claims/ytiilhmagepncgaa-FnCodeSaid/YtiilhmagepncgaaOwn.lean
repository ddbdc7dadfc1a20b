/- Words on a slice of bytes that a call has made itself: one byte more by append, and the string of it. Conditions: as each law states. -/
import Derived.Test.YtiilhmagepncgaaStr
import Derived.Test.YtiilhmagepncgaaRows
import Derived.Test.YtiilhmagepncgaaRet
import Derived.OwnWalk
import Derived.Lib.UnsafeStr
namespace Go.Proofs.Ytiilhmagepncgaa.W
open Go.RowKit Go.PlainAid

theorem infoByte : (Try.prog.info? 5).map (fun i => (i.zero, i.size, i.bytes)) = some (some (.int .u8 0), 1, 1) := by kernel_rfl

/-- v is a slice of bytes in a block from B on, and holds l -/
def OwnB (w : World) (B : Nat) (v : Value) (l : List UInt8) : Prop := w.ownsRow B 5 1 v l.length (Lib.byteCells l)

theorem OwnB.alloc {w : World} {B : Nat} {v : Value} {l : List UInt8} (h : OwnB w B v l) (o : Obj) : OwnB (w.alloc o) B v l := World.ownsRow.alloc h o
theorem OwnB.lt {w : World} {B : Nat} {v : Value} {l : List UInt8} (h : OwnB w B v l) : ∀ k, v.ownBlock = some k → B ≤ k ∧ k < w.heap.size := World.ownsRow.lt h
theorem OwnB.below {w w' : World} {B B' : Nat} {v : Value} {l : List UInt8} (h : OwnB w B v l) (hw : Below B' w w') (hv : ∀ k, v.ownBlock = some k → k < B') : OwnB w' B v l := by
  refine ⟨h.1, ?_⟩
  rcases h.2 with h2 | ⟨g, cap, cur, rfl, hb, hg, r⟩
  · exact .inl h2
  · exact .inr ⟨g, cap, cur, rfl, hb, by rw [hw.block g (hv g rfl)]; exact hg, r⟩
/-- a new block of bytes of which none counts yet -/
theorem OwnB.made {w : World} {B : Nat} (cur : Array Value) (cap : Nat) (hb : B ≤ w.heap.size) (hm : cap ≤ maxLen) (hs : cur.size = cap) :
    OwnB (w.alloc (.cells cur 5)) B (.slice (some ⟨w.heap.size, 0, none⟩) 0 cap) [] := World.ownsRow_made w cur cap hb hm (by omega)
/-- its value: a slice of as many elements -/
theorem OwnB.val {w : World} {B : Nat} {v : Value} {l : List UInt8} (h : OwnB w B v l) : ∃ a cap, v = .slice a l.length cap := by
  rcases h.2 with ⟨rfl, hn⟩ | ⟨g, cap, cur, rfl, _⟩
  · exact ⟨none, 0, by rw [hn]⟩
  · exact ⟨_, cap, rfl⟩

/-- string(v) -/
theorem OwnB.str {w : World} {B : Nat} {a : Option Addr} {cap : Nat} {l : List UInt8} (h : OwnB w B (.slice a l.length cap) l) :
    (convert 110 9 (.slice a l.length cap)).run Try.prog w = .ok (.string ⟨l.toArray⟩) w := by
  rcases h.2 with ⟨hv, hn⟩ | ⟨g, c, cur, hv, hb, hg, r⟩
  · cases l with
    | nil =>
      cases hv
      have := run_convert_bytes_string (P := Try.prog) w 110 9 5 none 0 0 Try.underlying110 Try.underlying5 Try.underlying9
      rw [show ([] : List UInt8).length = 0 from rfl, this]
      rfl
    | cons b l => simp at hn
  · cases hv
    exact run_convert_bytes_back w _ _ 5 ⟨g, 0, none⟩ _ l Try.underlying110 Try.underlying5 Try.underlying9 (fun j hj => World.ownsRow.cells h (g := g) rfl j _ (by simp [Lib.byteCells, hj]))

/-- append(v, c) -/
theorem append_byte {w : World} {ops : Array Oper} {rest : List Oper} {o : Oper} {a : Act} {Q : Exit → Act → World → Prop} (hgd : o.guard = none) (s x : Operand)
    (ho : o.op = .call { callee := .builtin .append, args := #[s, x], argTypes := #[110, 110] })
    (B : Nat) (v : Value) (l : List UInt8) (hs : a.eval s = v) (hown : OwnB w B v l) (ad : Addr) (c : Int) (h0 : 0 ≤ c) (h1 : c ≤ 255) (hx : a.eval x = .slice (some ad) 1 1)
    (hc : w.cell? ad = some (.int .u8 c)) (hl : l.length ≤ 1099511627776) (hbase : B ≤ w.heap.size)
    (h : ∀ v' w', OwnB w' B v' (l ++ [UInt8.ofNat c.toNat]) → w.grownBy w' v.ownBlock → wpList Try.prog ops Q rest (a.put o.dst v') w') : wpList Try.prog ops Q (o :: rest) a w := by
  obtain ⟨i0, hi, hz0, hz1, hz2⟩ := info_parts infoByte
  refine wpList_append_own w hgd s x 110 ho B 5 i0 (.int .u8 0) 1 1 Try.underlying110 hi hz0 hz1 hz2 rfl (by decide) v l.length (Lib.byteCells l) hs hown ad 1 1 [.int .u8 c] hx rfl ?_ ?_ ?_ ?_ hbase ?_
  · intro j u hj
    match j, hj with
    | 0, hj => simp at hj; subst hj; simpa [Addr.add] using hc
  · intro u hu; simp at hu; subst hu; rfl
  · unfold maxLen; omega
  · omega
  · intro v' w' hown' hgrow _
    refine h v' w' ?_ hgrow
    have e : Lib.byteCells (l ++ [UInt8.ofNat c.toNat]) = Lib.byteCells l ++ [.int .u8 c] := by
      simp [Lib.byteCells]; omega
    unfold OwnB
    rw [e, show (l ++ [UInt8.ofNat c.toNat]).length = l.length + 1 from by simp]
    exact hown'
end Go.Proofs.Ytiilhmagepncgaa.W
