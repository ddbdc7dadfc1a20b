/- Plain words on bytes for the walks of this seat: classes of bytes as functions to Bool, and how a returned value is rewritten. No program in sight. No conditions. -/
import Derived.WalkKit
import Derived.ProofKit
import Derived.Outline
import Derived.WalkSpells
import Derived.WalkLawsBesides
import Derived.PlainAid
import Derived.Handy
import Derived.Lib.Hide
namespace Go.Proofs.YtfnhikhgkkopfaaGreatDoor.W
open Go.RowKit

theorem retBool {a b : Bool} (h : a = b) : Ending.returned (.bool a) = .returned (.bool b) := by rw [h]
theorem retInt {k : IntKind} {a b : Int} (h : a = b) : Ending.returned (.int k a) = .returned (.int k b) := by rw [h]

/-- letters of ASCII -/
def letB (c : Int) : Bool := decide (65 ≤ c ∧ c ≤ 90 ∨ 97 ≤ c ∧ c ≤ 122)
def digB (c : Int) : Bool := decide (48 ≤ c ∧ c ≤ 57)
def hexB (c : Int) : Bool := decide (48 ≤ c ∧ c ≤ 57 ∨ 65 ≤ c ∧ c ≤ 70 ∨ 97 ≤ c ∧ c ≤ 102)
def ldB (c : Int) : Bool := decide (48 ≤ c ∧ c ≤ 57 ∨ 65 ≤ c ∧ c ≤ 90 ∨ 97 ≤ c ∧ c ≤ 122)
def ldhB (c : Int) : Bool := decide (48 ≤ c ∧ c ≤ 57 ∨ 65 ≤ c ∧ c ≤ 90 ∨ 97 ≤ c ∧ c ≤ 122 ∨ c = 45)
def schemeB (c : Int) : Bool := decide (48 ≤ c ∧ c ≤ 57 ∨ 65 ≤ c ∧ c ≤ 90 ∨ 97 ≤ c ∧ c ≤ 122 ∨ c = 43 ∨ c = 46 ∨ c = 45)
def blankB (c : Int) : Bool := decide (c = 32 ∨ c = 9 ∨ c = 10 ∨ c = 13)
def punctB (c : Int) : Bool := decide (33 ≤ c ∧ c ≤ 47 ∨ 58 ≤ c ∧ c ≤ 64 ∨ 91 ≤ c ∧ c ≤ 96 ∨ 123 ≤ c ∧ c ≤ 126)
def tspB (c : Int) : Bool := decide (c = 32 ∨ c = 9 ∨ c = 11 ∨ c = 12)

theorem letB_iff (c : Int) : letB c = true ↔ (65 ≤ c ∧ c ≤ 90 ∨ 97 ≤ c ∧ c ≤ 122) := by simp [letB]
theorem digB_iff (c : Int) : digB c = true ↔ (48 ≤ c ∧ c ≤ 57) := by simp [digB]
theorem hexB_iff (c : Int) : hexB c = true ↔ (48 ≤ c ∧ c ≤ 57 ∨ 65 ≤ c ∧ c ≤ 70 ∨ 97 ≤ c ∧ c ≤ 102) := by simp [hexB]
theorem ldB_iff (c : Int) : ldB c = true ↔ (48 ≤ c ∧ c ≤ 57 ∨ 65 ≤ c ∧ c ≤ 90 ∨ 97 ≤ c ∧ c ≤ 122) := by simp [ldB]
theorem ldhB_iff (c : Int) : ldhB c = true ↔ (48 ≤ c ∧ c ≤ 57 ∨ 65 ≤ c ∧ c ≤ 90 ∨ 97 ≤ c ∧ c ≤ 122 ∨ c = 45) := by simp [ldhB]
theorem schemeB_iff (c : Int) : schemeB c = true ↔ (48 ≤ c ∧ c ≤ 57 ∨ 65 ≤ c ∧ c ≤ 90 ∨ 97 ≤ c ∧ c ≤ 122 ∨ c = 43 ∨ c = 46 ∨ c = 45) := by simp [schemeB]
theorem blankB_iff (c : Int) : blankB c = true ↔ (c = 32 ∨ c = 9 ∨ c = 10 ∨ c = 13) := by simp [blankB]
theorem punctB_iff (c : Int) : punctB c = true ↔ (33 ≤ c ∧ c ≤ 47 ∨ 58 ≤ c ∧ c ≤ 64 ∨ 91 ≤ c ∧ c ≤ 96 ∨ 123 ≤ c ∧ c ≤ 126) := by simp [punctB]
theorem tspB_iff (c : Int) : tspB c = true ↔ (c = 32 ∨ c = 9 ∨ c = 11 ∨ c = 12) := by simp [tspB]

end Go.Proofs.YtfnhikhgkkopfaaGreatDoor.W
