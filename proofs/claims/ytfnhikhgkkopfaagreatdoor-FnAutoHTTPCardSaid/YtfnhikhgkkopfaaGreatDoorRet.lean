/- Small words for what a walk returns: equal parts make equal tuples. No program in sight. No conditions. -/
import Derived.WalkKit
import Derived.ProofKit
import Derived.Deep.Draws
namespace Go.Proofs.YtfnhikhgkkopfaaGreatDoor.W
open Go.RowKit
theorem strEq {a b : ByteArray} (h : a = b) : Value.string a = Value.string b := by rw [h]
theorem intEq {k : IntKind} {a b : Int} (h : a = b) : Value.int k a = Value.int k b := by rw [h]
theorem boolEq {a b : Bool} (h : a = b) : Value.bool a = Value.bool b := by rw [h]
theorem ret1 {a a' : Value} (h1 : a = a') : Ending.returned a = .returned a' := by rw [h1]
theorem ret2 {a a' b b' : Value} (h1 : a = a') (h2 : b = b') : Ending.returned (.tuple #[a, b]) = .returned (.tuple #[a', b']) := by rw [h1, h2]
theorem ret3 {a a' b b' c c' : Value} (h1 : a = a') (h2 : b = b') (h3 : c = c') : Ending.returned (.tuple #[a, b, c]) = .returned (.tuple #[a', b', c']) := by rw [h1, h2, h3]
theorem ret4 {a a' b b' c c' d d' : Value} (h1 : a = a') (h2 : b = b') (h3 : c = c') (h4 : d = d') : Ending.returned (.tuple #[a, b, c, d]) = .returned (.tuple #[a', b', c', d']) := by rw [h1, h2, h3, h4]
theorem grownN {W w : World} (h : Grown W w) (n : Nat) : Grown W (w.drewN n) := h
theorem results_tmp4 {fn : Func} {t u v x : Tmp} (h : fn.results = #[.tmp t, .tmp u, .tmp v, .tmp x]) (tmps : Array Value) (P : Program) (w : World) :
    (results fn tmps).run P w = .ok (.tuple #[tmps.getD t undef, tmps.getD u undef, tmps.getD v undef, tmps.getD x undef]) w := by
  simp [results, h]
end Go.Proofs.YtfnhikhgkkopfaaGreatDoor.W
