/- Where a run of backquotes is found, it lies ahead, within the text. No program in sight. No conditions. -/
import Derived.Test.YtiilhmagepncgaaSpan
namespace Go.Proofs.Ytiilhmagepncgaa.W
open Go.RowKit Go.PlainAid
theorem spanFrom_ge {s : ByteArray} {n : Nat} : ∀ (g q p : Nat), s.size - q ≤ g → spanFrom s n q = some p → q ≤ p ∧ p < s.size
  | g, q, p, hg, h => by
    by_cases h1 : q < s.size
    · by_cases h2 : bt s q = 96
      · have h4 := tick_gt h1 h2
        by_cases h3 : runEnd tickB s q - q = n
        · rw [spanFrom_hit h1 h2 h3] at h
          cases h
          exact ⟨Nat.le_refl _, h1⟩
        · rw [spanFrom_other h1 h2 h3] at h
          cases g with
          | zero => omega
          | succ g =>
            have := spanFrom_ge g _ p (by omega) h
            omega
      · rw [spanFrom_skip h1 h2] at h
        cases g with
        | zero => omega
        | succ g =>
          have := spanFrom_ge g _ p (by omega) h
          omega
    · rw [spanFrom_end (by omega)] at h
      cases h
end Go.Proofs.Ytiilhmagepncgaa.W
