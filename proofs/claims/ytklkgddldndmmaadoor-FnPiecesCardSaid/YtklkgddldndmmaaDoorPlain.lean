/- The plain functions behind a boundary. No program in sight. -/
import Derived.Lib.Strings
import Derived.Lib.Index
import Derived.Lib.IndexLaws
namespace Go.Proofs.YtklkgddldndmmaaDoor
open Go
open Go.Lib (hasPrefix)

def letterB (c : UInt8) : Bool := (decide (97 ≤ c.toNat) && decide (c.toNat ≤ 122)) || (decide (65 ≤ c.toNat) && decide (c.toNat ≤ 90)) || (decide (48 ≤ c.toNat) && decide (c.toNat ≤ 57))
theorem letterB_iff (c : UInt8) : letterB c = true ↔ (97 ≤ c.toNat ∧ c.toNat ≤ 122) ∨ (65 ≤ c.toNat ∧ c.toNat ≤ 90) ∨ (48 ≤ c.toNat ∧ c.toNat ≤ 57) := by
  simp [letterB, or_assoc]
theorem letterB_of {c : UInt8} {b : Bool} (h : b = true ↔ (97 ≤ c.toNat ∧ c.toNat ≤ 122) ∨ (65 ≤ c.toNat ∧ c.toNat ≤ 90) ∨ (48 ≤ c.toNat ∧ c.toNat ≤ 57)) : b = letterB c := by
  rw [Bool.eq_iff_iff, h, letterB_iff]
/-- Is the byte one of the list? -/
def inB (l : List UInt8) (c : UInt8) : Bool := l.contains c
theorem inB_snoc (l : List UInt8) (a c : UInt8) (h : inB l c = false) : inB (l ++ [a]) c = (a == c) := by
  unfold inB at h ⊢
  rw [Bool.eq_iff_iff]
  simp at h ⊢
  constructor
  · rintro (h1 | h1)
    · exact absurd h1 h
    · exact h1.symm
  · rintro rfl
    exact .inr rfl
/-- The signs of a boundary beside letters and digits. -/
def signs : List UInt8 := [39, 40, 41, 43, 95, 44, 45, 46, 47, 58, 61, 63, 32]
def okB (c : UInt8) : Bool := letterB c || inB signs c
/-- A boundary of the RFC. -/
def boundB (l : List UInt8) : Bool := l.all okB && decide (0 < l.length) && decide (l.length ≤ 70) && decide (l[l.length - 1]? ≠ some 32)


end Go.Proofs.YtklkgddldndmmaaDoor
