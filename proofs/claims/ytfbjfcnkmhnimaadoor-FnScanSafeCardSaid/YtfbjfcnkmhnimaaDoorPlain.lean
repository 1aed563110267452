/- The plain functions behind the scan for a delimiter. No program in sight. -/
import Derived.Lib.Strings
import Derived.Lib.Index
import Derived.Lib.IndexLaws
namespace Go.Proofs.YtfbjfcnkmhnimaaDoor
open Go
open Go.Lib (hasPrefix)

/-- What stands behind a delimiter: 1 it is a delimiter, -1 it is none, 0 more is needed. -/
def mAfter (r : List UInt8) (e : Bool) : Int :=
  match r with
  | [] => if e then 1 else 0
  | c :: t => if c = 32 ∨ c = 9 ∨ c = 13 ∨ c = 10 then 1 else if c = 45 then (match t with | [] => if e then -1 else 0 | d :: _ => if d = 45 then 1 else -1) else -1
/-- The same by the reference, with what it says of it. -/
def sMatch (r : List UInt8) (e : Bool) : Int × Bool :=
  match r with
  | [] => (if e then 1 else 0, true)
  | c :: t => if c = 32 ∨ c = 9 ∨ c = 13 ∨ c = 10 then (1, true) else if c = 45 then (1, match t with | [] => false | d :: _ => decide (d = 45)) else (-1, true)

theorem sMatch_ok (r : List UInt8) (e : Bool) (h : (sMatch r e).2 = true) : mAfter r e = (sMatch r e).1 := by
  unfold sMatch mAfter at *
  split
  · rfl
  · rename_i c t
    simp only at h ⊢
    split
    · rfl
    · rename_i h1
      rw [if_neg h1] at h
      split
      · rename_i h2
        rw [if_pos h2] at h
        cases t with
        | nil => simp at h
        | cons d t => simp at h; simp [h]
      · rfl

def letterB (c : UInt8) : Bool := (decide (97 ≤ c.toNat) && decide (c.toNat ≤ 122)) || (decide (65 ≤ c.toNat) && decide (c.toNat ≤ 90)) || (decide (48 ≤ c.toNat) && decide (c.toNat ≤ 57))
theorem letterB_iff (c : UInt8) : letterB c = true ↔ (97 ≤ c.toNat ∧ c.toNat ≤ 122) ∨ (65 ≤ c.toNat ∧ c.toNat ≤ 90) ∨ (48 ≤ c.toNat ∧ c.toNat ≤ 57) := by
  simp [letterB, or_assoc]
theorem letterB_of {c : UInt8} {b : Bool} (h : b = true ↔ (97 ≤ c.toNat ∧ c.toNat ≤ 122) ∨ (65 ≤ c.toNat ∧ c.toNat ≤ 90) ∨ (48 ≤ c.toNat ∧ c.toNat ≤ 57)) : b = letterB c := by
  rw [Bool.eq_iff_iff, h, letterB_iff]
/-- Is the byte one of the list? -/
def inB (l : List UInt8) (c : UInt8) : Bool := l.contains c
theorem inB_snoc (l : List UInt8) (a c : UInt8) (h : inB l c = false) : inB (l ++ [a]) c = (a == c) := by
  unfold inB at h ⊢
  rw [Bool.eq_iff_iff]
  simp at h ⊢
  constructor
  · rintro (h1 | h1)
    · exact absurd h1 h
    · exact h1.symm
  · rintro rfl
    exact .inr rfl
/-- The signs of a boundary beside letters and digits. -/
def signs : List UInt8 := [39, 40, 41, 43, 95, 44, 45, 46, 47, 58, 61, 63, 32]
def okB (c : UInt8) : Bool := letterB c || inB signs c
/-- A boundary of the RFC. -/
def boundB (l : List UInt8) : Bool := l.all okB && decide (0 < l.length) && decide (l.length ≤ 70) && decide (l[l.length - 1]? ≠ some 32)

theorem mAfter_cases (r : List UInt8) (e : Bool) : mAfter r e = -1 ∨ mAfter r e = 0 ∨ mAfter r e = 1 := by
  unfold mAfter
  repeat' split
  all_goals simp

/-! ### The last place of a byte -/
/-- The last place at which c stands in l, or -1. -/
def lastI (l : List UInt8) (c : UInt8) : Int :=
  match l with
  | [] => -1
  | x :: t => if 0 ≤ lastI t c then lastI t c + 1 else if x = c then 0 else -1

theorem lastI_ge (l : List UInt8) (c : UInt8) : -1 ≤ lastI l c := by
  induction l with
  | nil => simp [lastI]
  | cons x t ih => unfold lastI; split <;> (try split) <;> omega
theorem lastI_none : ∀ {l : List UInt8} {c : UInt8}, (∀ k : Nat, l[k]? ≠ some c) → lastI l c = -1
  | [], _, _ => rfl
  | x :: t, c, h => by
    have ih := lastI_none (l := t) (c := c) (fun k hk => h (k + 1) (by simpa using hk))
    have h0 : x ≠ c := fun e => h 0 (by simp [e])
    unfold lastI
    rw [ih, if_neg (by decide), if_neg h0]
theorem lastI_at : ∀ {l : List UInt8} {c : UInt8} {k : Nat}, l[k]? = some c → (∀ j : Nat, k < j → l[j]? ≠ some c) → lastI l c = k
  | [], _, _, h, _ => by simp at h
  | x :: t, c, 0, h, hn => by
    have ih := lastI_none (l := t) (c := c) (fun k hk => hn (k + 1) (by omega) (by simpa using hk))
    have h0 : x = c := by simpa using h
    unfold lastI
    rw [ih, if_neg (by decide), if_pos h0]
    rfl
  | x :: t, c, k + 1, h, hn => by
    have ih := lastI_at (l := t) (c := c) (k := k) (by simpa using h) (fun j hj hk => hn (j + 1) (by omega) (by simpa using hk))
    unfold lastI
    rw [ih, if_pos (by omega)]
    omega
/-- What it is: -1 and c stands nowhere, or the last place. -/
theorem lastI_cases (l : List UInt8) (c : UInt8) : (lastI l c = -1 ∧ ∀ k : Nat, l[k]? ≠ some c) ∨ ∃ k : Nat, lastI l c = k ∧ l[k]? = some c ∧ ∀ j : Nat, k < j → l[j]? ≠ some c := by
  by_cases h : ∃ k : Nat, l[k]? = some c ∧ ∀ j : Nat, k < j → l[j]? ≠ some c
  · obtain ⟨k, h1, h2⟩ := h
    exact .inr ⟨k, lastI_at h1 h2, h1, h2⟩
  · left
    have hn : ∀ d k : Nat, l.length = k + d → l[k]? ≠ some c := by
      intro d
      induction d using Nat.strongRecOn with
      | ind d ih =>
        intro k hk e
        apply h
        refine ⟨k, e, fun j hj e2 => ?_⟩
        have hjl := (List.getElem?_eq_some_iff.1 e2).1
        exact ih (l.length - j) (by omega) j (by omega) e2
    have hall : ∀ k : Nat, l[k]? ≠ some c := by
      intro k e
      have hkl := (List.getElem?_eq_some_iff.1 e).1
      exact hn (l.length - k) k (by omega) e
    exact ⟨lastI_none hall, hall⟩

/-! ### The scan: how many bytes, and what the error is: 0 none, 1 io.EOF, 2 the error of the reader -/
def pick (i k : Int) (m : Int) : Int × Nat := if m = -1 then (i + k, 0) else if m = 0 then (i, 0) else (i, 1)
/-- Behind the look at the body's beginning. -/
def scanT (l nl : List UInt8) (e : Bool) : Int × Nat :=
  if 0 ≤ Lib.index l nl then pick (Lib.index l nl) nl.length (mAfter (l.drop ((Lib.index l nl).toNat + nl.length)) e)
  else if hasPrefix nl l = true then (0, 2)
  else if 0 ≤ lastI l (nl.headD 0) ∧ hasPrefix nl (l.drop (lastI l (nl.headD 0)).toNat) = true then (lastI l (nl.headD 0), 0)
  else (l.length, 2)
def scanP (l d nl : List UInt8) (t0 e : Bool) : Int × Nat :=
  if t0 = true ∧ hasPrefix l d = true then pick 0 d.length (mAfter (l.drop d.length) e)
  else if t0 = true ∧ hasPrefix d l = true then (0, 2)
  else scanT l nl e

end Go.Proofs.YtfbjfcnkmhnimaaDoor
