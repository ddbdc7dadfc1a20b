/- Walks of impl.HTMLMarker and of the statement's read. Condition: the texts have at most 300 and 10 bytes; what stands where is said. -/
import Derived.Test.YtiilhmagepncgaaMarker
import Derived.StillTailTactics
namespace Go.Proofs.Ytiilhmagepncgaa.W
open Go.RowKit Go.PlainAid
set_option linter.unusedVariables false

theorem belowN {B : Nat} {a w : World} (h : Below B a w) (n : Nat) : Below B a (w.drewN n) := ⟨h.os, h.tape, h.output, h.size, h.block⟩

set_option maxRecDepth 100000 in
theorem marker_yes_i (s b t : ByteArray) (n o : Nat) (hs : s.size ≤ 300) (hbz : b.size ≤ 10) (ht : t.size ≤ 10) (hn : AtS s b n) (hbo : n + b.size ≤ o) (ho : AtS s t o) (hl : ∀ j, n + b.size ≤ j → j < o → ¬ AtS s t j) (w : World) :
    Calls Try.prog 9 #[.string s, .int .i64 n, .string b, .string t] w fun e w1 => e = .returned (.tuple #[.agg #[.int .i64 29, .string (s.extract n (o + t.size)), .string ⟨#[]⟩, .int .i64 0, .string ⟨#[]⟩, .bool false, .slice none 0 0, .slice none 0 0, .int .i64 0, .int .i64 0, .string ⟨#[]⟩, .int .i64 0, .bool false, .bool false, .bool false, .slice none 0 0], .int .i64 (o + t.size : Nat), .bool true]) ∧ Below w.heap.size w w1 := by
  replace hn := Lib.hid hn
  replace ho := Lib.hid ho
  replace hl := Lib.hid hl
  go_enter Try.func9, Try.ntmps9
  go_wp2_with (first | (go_at_call 19; refine (marker_yes_z _ _ _ n o hs hbz ht hn.out hbo ho.out hl.out _).mono ?_; rintro e w1 ⟨rfl, rfl⟩) | (go_at_call 18; refine (one_yes _ (s.extract n (o + t.size)) _ _ (by simp) (by rw [World.cell?_alloc_at _ _ _ _ (by simp)]; rfl)).mono ?_; rintro e w1 ⟨rfl, rfl⟩))
  refine bodyPost_ret (v := .tuple #[.agg #[.int .i64 29, .string (s.extract n (o + t.size)), .string ⟨#[]⟩, .int .i64 0, .string ⟨#[]⟩, .bool false, .slice none 0 0, .slice none 0 0, .int .i64 0, .int .i64 0, .string ⟨#[]⟩, .int .i64 0, .bool false, .bool false, .bool false, .slice none 0 0], .int .i64 (o + t.size : Nat), .bool true]) (by simp [results, Try.results9, go_sem]) rfl ⟨rfl, ?_⟩
  go_grown
set_option maxRecDepth 100000 in
theorem marker_no_i (s b t : ByteArray) (n : Nat) (hs : s.size ≤ 300) (hbz : b.size ≤ 10) (ht : t.size ≤ 10) (hn : AtS s b n) (hl : ∀ j, n + b.size ≤ j → ¬ AtS s t j) (w : World) :
    Calls Try.prog 9 #[.string s, .int .i64 n, .string b, .string t] w fun e w1 => e = .returned (.tuple #[.agg #[.int .i64 0, .string ⟨#[]⟩, .string ⟨#[]⟩, .int .i64 0, .string ⟨#[]⟩, .bool false, .slice none 0 0, .slice none 0 0, .int .i64 0, .int .i64 0, .string ⟨#[]⟩, .int .i64 0, .bool false, .bool false, .bool false, .slice none 0 0], .int .i64 0, .bool false]) ∧ Below w.heap.size w w1 := by
  replace hn := Lib.hid hn
  replace hl := Lib.hid hl
  go_enter Try.func9, Try.ntmps9
  go_wp2_with (first | (go_at_call 19; refine (marker_no_z _ _ _ n hs hbz ht hn.out hl.out _).mono ?_; rintro e w1 ⟨rfl, rfl⟩) | (go_at_call 18; refine (one_no _).mono ?_; rintro e w1 ⟨rfl, rfl⟩))
  refine bodyPost_ret (v := .tuple #[.agg #[.int .i64 0, .string ⟨#[]⟩, .string ⟨#[]⟩, .int .i64 0, .string ⟨#[]⟩, .bool false, .slice none 0 0, .slice none 0 0, .int .i64 0, .int .i64 0, .string ⟨#[]⟩, .int .i64 0, .bool false, .bool false, .bool false, .slice none 0 0], .int .i64 0, .bool false]) (by simp [results, Try.results9, go_sem]) rfl ⟨rfl, ?_⟩
  go_grown

set_option maxRecDepth 100000 in
theorem read_yes (s : ByteArray) (i n : Nat) (hs : s.size ≤ 300) (hz : i + n ≤ s.size) (hn : 0 < n) (w : World) :
    Calls Try.prog 10 #[.agg #[.int .i64 29, .string (s.extract i (i + n)), .string ⟨#[]⟩, .int .i64 0, .string ⟨#[]⟩, .bool false, .slice none 0 0, .slice none 0 0, .int .i64 0, .int .i64 0, .string ⟨#[]⟩, .int .i64 0, .bool false, .bool false, .bool false, .slice none 0 0], .int .i64 (i + n : Nat), .bool true, .string s, .int .i64 i, .int .i64 n] w fun e w1 => e = .returned (.bool true) ∧ Below w.heap.size w w1 := by
  have hn0 : ((n : Int) == 0) = false := by simp; omega
  have h0 : (0 : Int) ≤ (i : Int) + (n : Int) := by omega
  have h1 : (i : Int) + (n : Int) ≤ s.size := by omega
  go_enter Try.func10, Try.ntmps10
  go_wp2
  go_quiet (fail)
  go_wp2
  go_ret
  exact ⟨retBool (by simp), belowN (by go_grown) _⟩
theorem read_no (s : ByteArray) (i : Nat) (w : World) :
    Calls Try.prog 10 #[.agg #[.int .i64 0, .string ⟨#[]⟩, .string ⟨#[]⟩, .int .i64 0, .string ⟨#[]⟩, .bool false, .slice none 0 0, .slice none 0 0, .int .i64 0, .int .i64 0, .string ⟨#[]⟩, .int .i64 0, .bool false, .bool false, .bool false, .slice none 0 0], .int .i64 0, .bool false, .string s, .int .i64 i, .int .i64 0] w fun e w1 => e = .returned (.bool true) ∧ Below w.heap.size w w1 := by
  go_enter Try.func10, Try.ntmps10
  go_wp2
  go_ret
  exact ⟨rfl, by go_grown⟩
theorem read_gen (s : ByteArray) (i e n : Nat) (E N : Int) (hs : s.size ≤ 300) (hE : E = (e : Int)) (hN : N = (n : Int)) (h : i + n = e) (hz : e ≤ s.size) (hn : 0 < n) (w : World) :
    Calls Try.prog 10 #[.agg #[.int .i64 29, .string (s.extract i e), .string ⟨#[]⟩, .int .i64 0, .string ⟨#[]⟩, .bool false, .slice none 0 0, .slice none 0 0, .int .i64 0, .int .i64 0, .string ⟨#[]⟩, .int .i64 0, .bool false, .bool false, .bool false, .slice none 0 0], .int .i64 E, .bool true, .string s, .int .i64 i, .int .i64 N] w fun e w1 => e = .returned (.bool true) ∧ Below w.heap.size w w1 := by
  subst hE; subst hN; subst h
  exact read_yes s i n hs hz hn w
/-- a region that draws its order, of reads and quiet calls ahead of a tail in one order: the world behind the draw under its name -/
theorem region_tail {P : Program} {id : Nat} {Q : Exit → Act → World → Prop} {a : Act} {w : World} {l : List Oper} (n : Nat) (hm : P.follows .mixedOrders = true) (hB : Region.lexTailB .any l.toArray n = true)
    (h : wpStill P l.toArray w.drew (fun a' => wpList P l.toArray Q (l.drop n) a' w.drew) (l.take n) a) : (Code.region id l.toArray true).wp P Q a w :=
  wp_region_still_tail n hm hB h
end Go.Proofs.Ytiilhmagepncgaa.W
