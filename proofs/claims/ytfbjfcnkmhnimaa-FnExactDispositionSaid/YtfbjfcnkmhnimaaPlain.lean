/- The plain functions of the laws on quoting: what is printable, what is escaped. No program in sight. -/
import Derived.Lib.Strings
namespace Go.Proofs.Ytfbjfcnkmhnimaa

def okB (c : UInt8) : Bool := decide (32 ≤ c.toNat) && decide (c.toNat ≤ 126)
def printB (l : List UInt8) : Bool := l.all okB
def escC (c : UInt8) : List UInt8 := if c = 92 ∨ c = 34 then [92, c] else if c = 13 then [37, 48, 68] else if c = 10 then [37, 48, 65] else [c]
def quoC (c : UInt8) : List UInt8 := if c = 92 ∨ c = 34 then [92, c] else [c]
def esc (l : List UInt8) : List UInt8 := l.flatMap escC
def quo (l : List UInt8) : List UInt8 := l.flatMap quoC

theorem take_snoc (s : ByteArray) (k : Nat) (h : k < s.size) : s.data.toList.take (k + 1) = s.data.toList.take k ++ [s[k]] := by
  rw [List.take_succ_eq_append_getElem (by simpa using h)]; rfl
theorem printB_snoc (l : List UInt8) (c : UInt8) : printB (l ++ [c]) = (printB l && okB c) := by simp [printB]
theorem esc_snoc (l : List UInt8) (c : UInt8) : esc (l ++ [c]) = esc l ++ escC c := by simp [esc]
theorem quo_snoc (l : List UInt8) (c : UInt8) : quo (l ++ [c]) = quo l ++ quoC c := by simp [quo]
theorem escC_le (c : UInt8) : (escC c).length ≤ 3 := by unfold escC; split <;> (try split) <;> (try split) <;> simp
theorem quoC_le (c : UInt8) : (quoC c).length ≤ 3 := by unfold quoC; split <;> simp
theorem esc_le (l : List UInt8) : (esc l).length ≤ 3 * l.length := by
  induction l with
  | nil => simp [esc]
  | cons c l ih =>
    have := escC_le c
    have e : esc (c :: l) = escC c ++ esc l := by simp [esc]
    rw [e, List.length_append, List.length_cons]; omega
theorem quo_le (l : List UInt8) : (quo l).length ≤ 3 * l.length := by
  induction l with
  | nil => simp [quo]
  | cons c l ih =>
    have := quoC_le c
    have e : quo (c :: l) = quoC c ++ quo l := by simp [quo]
    rw [e, List.length_append, List.length_cons]; omega
theorem printB_prefix (l : List UInt8) (k : Nat) (h : printB (l.take k) = false) : printB l = false := by
  have := List.take_append_drop k l
  rw [← this]
  unfold printB at h ⊢
  rw [List.all_append, h, Bool.false_and]

theorem esc_eq_quo (l : List UInt8) (h : printB l = true) : esc l = quo l := by
  induction l with
  | nil => rfl
  | cons c l ih =>
    simp only [printB, List.all_cons, Bool.and_eq_true] at h
    have e1 : esc (c :: l) = escC c ++ esc l := by simp [esc]
    have e2 : quo (c :: l) = quoC c ++ quo l := by simp [quo]
    rw [e1, e2, ih h.2]
    congr 1
    have hc := h.1
    simp only [okB, Bool.and_eq_true, decide_eq_true_eq] at hc
    have h13 : c ≠ 13 := by rintro rfl; simp at hc
    have h10 : c ≠ 10 := by rintro rfl; simp at hc
    simp [escC, quoC, h13, h10]

end Go.Proofs.Ytfbjfcnkmhnimaa
