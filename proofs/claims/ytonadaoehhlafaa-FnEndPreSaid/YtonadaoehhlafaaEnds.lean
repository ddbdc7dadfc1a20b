/- Walks of the reference's HTMLEnds at its first kind: whether one of four closing tags stands in a line, in letters of any case. Condition: the line has at most 2000 bytes. -/
import Derived.Test.YtonadaoehhlafaaLower
namespace Go.Proofs.Ytonadaoehhlafaa.W
open Go.RowKit Go.PlainAid

theorem htmlRaw_c (w : World) : Calls Try.prog 42 #[] w fun e w1 => e = .returned (.slice (some ⟨w.heap.size, 0, none⟩) 4 4) ∧ w1 = w.alloc (.cells #[.string ⟨#[112, 114, 101]⟩, .string ⟨#[115, 99, 114, 105, 112, 116]⟩, .string ⟨#[115, 116, 121, 108, 101]⟩, .string ⟨#[116, 101, 120, 116, 97, 114, 101, 97]⟩] 9) := by
  go_enter Try.func42, Try.ntmps42
  go_wp2
  go_ret
  exact ⟨rfl, rfl⟩

def tagPre : ByteArray := ⟨#[60, 47, 112, 114, 101, 62]⟩
def tagScript : ByteArray := ⟨#[60, 47, 115, 99, 114, 105, 112, 116, 62]⟩
def tagStyle : ByteArray := ⟨#[60, 47, 115, 116, 121, 108, 101, 62]⟩
def tagTextarea : ByteArray := ⟨#[60, 47, 116, 101, 120, 116, 97, 114, 101, 97, 62]⟩
noncomputable def endsB (s : ByteArray) : Bool := hasB (lowS s) tagPre || hasB (lowS s) tagScript || hasB (lowS s) tagStyle || hasB (lowS s) tagTextarea

theorem endsB_eq (s : ByteArray) : endsB s = (hasB (lowS s) (⟨#[60, 47]⟩ ++ ⟨#[112, 114, 101]⟩ ++ ⟨#[62]⟩) || hasB (lowS s) (⟨#[60, 47]⟩ ++ ⟨#[115, 99, 114, 105, 112, 116]⟩ ++ ⟨#[62]⟩) || hasB (lowS s) (⟨#[60, 47]⟩ ++ ⟨#[115, 116, 121, 108, 101]⟩ ++ ⟨#[62]⟩) || hasB (lowS s) (⟨#[60, 47]⟩ ++ ⟨#[116, 101, 120, 116, 97, 114, 101, 97]⟩ ++ ⟨#[62]⟩)) := rfl

set_option maxHeartbeats 1000000 in
theorem htmlEnds_c (s : ByteArray) (hs : s.size ≤ 2000) (w : World) :
    Calls Try.prog 25 #[.int .i64 1, .string s] w fun e w1 => e = .returned (.bool (endsB s)) ∧ Below w.heap.size w w1 := by
  have hz : (lowS s).size ≤ 2147483647 := by rw [lowS_size]; omega
  go_enter Try.func25, Try.ntmps25
  go_wp2_with (go_at_call 41; refine (htmlLower_c s hs _).mono ?_; rintro e w1 ⟨rfl, hB⟩)
  refine Go.wp_loop_rounds 5 ?_
  rw [rounds_succ]
  go_wp2_with (first | (go_at_call 42; refine (htmlRaw_c _).mono ?_; rintro e w2 ⟨rfl, rfl⟩) | (go_at_call 43; refine (htmlContains_c _ _ hz (by decide) _).mono ?_; rintro e w2 ⟨rfl, rfl⟩))
  · go_ret
    exact ⟨retBool (by rw [endsB_eq]; simp [*]), ((hB).alloc (by have := hB.size; simp; omega) _).alloc (by have := hB.size; simp; omega) _⟩
  rw [rounds_succ]
  go_wp2_with (first | (go_at_call 42; refine (htmlRaw_c _).mono ?_; rintro e w2 ⟨rfl, rfl⟩) | (go_at_call 43; refine (htmlContains_c _ _ hz (by decide) _).mono ?_; rintro e w2 ⟨rfl, rfl⟩))
  · go_ret
    exact ⟨retBool (by rw [endsB_eq]; simp [*]), ((((hB).alloc (by have := hB.size; simp; omega) _).alloc (by have := hB.size; simp; omega) _).alloc (by have := hB.size; simp; omega) _).alloc (by have := hB.size; simp; omega) _⟩
  rw [rounds_succ]
  go_wp2_with (first | (go_at_call 42; refine (htmlRaw_c _).mono ?_; rintro e w2 ⟨rfl, rfl⟩) | (go_at_call 43; refine (htmlContains_c _ _ hz (by decide) _).mono ?_; rintro e w2 ⟨rfl, rfl⟩))
  · go_ret
    exact ⟨retBool (by rw [endsB_eq]; simp [*]), ((((((hB).alloc (by have := hB.size; simp; omega) _).alloc (by have := hB.size; simp; omega) _).alloc (by have := hB.size; simp; omega) _).alloc (by have := hB.size; simp; omega) _).alloc (by have := hB.size; simp; omega) _).alloc (by have := hB.size; simp; omega) _⟩
  rw [rounds_succ]
  go_wp2_with (first | (go_at_call 42; refine (htmlRaw_c _).mono ?_; rintro e w2 ⟨rfl, rfl⟩) | (go_at_call 43; refine (htmlContains_c _ _ hz (by decide) _).mono ?_; rintro e w2 ⟨rfl, rfl⟩))
  · go_ret
    exact ⟨retBool (by rw [endsB_eq]; simp [*]), ((((((((hB).alloc (by have := hB.size; simp; omega) _).alloc (by have := hB.size; simp; omega) _).alloc (by have := hB.size; simp; omega) _).alloc (by have := hB.size; simp; omega) _).alloc (by have := hB.size; simp; omega) _).alloc (by have := hB.size; simp; omega) _).alloc (by have := hB.size; simp; omega) _).alloc (by have := hB.size; simp; omega) _⟩
  rw [rounds_succ]
  go_wp2_with (first | (go_at_call 42; refine (htmlRaw_c _).mono ?_; rintro e w2 ⟨rfl, rfl⟩) | (go_at_call 43; refine (htmlContains_c _ _ hz (by decide) _).mono ?_; rintro e w2 ⟨rfl, rfl⟩))
  go_ret
  exact ⟨retBool (by rw [endsB_eq]; simp [*]), (((((((((hB).alloc (by have := hB.size; simp; omega) _).alloc (by have := hB.size; simp; omega) _).alloc (by have := hB.size; simp; omega) _).alloc (by have := hB.size; simp; omega) _).alloc (by have := hB.size; simp; omega) _).alloc (by have := hB.size; simp; omega) _).alloc (by have := hB.size; simp; omega) _).alloc (by have := hB.size; simp; omega) _).alloc (by have := hB.size; simp; omega) _⟩
end Go.Proofs.Ytonadaoehhlafaa.W
