/- SetBoundary as its callers meet it. -/
import Derived.Test.YtklkgddldndmmaaDoorSet
namespace Go.Proofs.YtklkgddldndmmaaDoor
open Go.RowKit
set_option linter.unusedVariables false
set_option linter.unusedSimpArgs false

theorem Wr.set {w : World} {b : Nat} {v0 : Value} {old : ByteArray} {lp : Option Addr} (h : Wr w b v0 old lp) (s : ByteArray) : Wr (w.setCell ⟨b, 1, none⟩ (.string s)) b v0 s lp := by
  unfold Wr at h ⊢
  show (w.heap.modify b _)[b]? = _
  rw [Array.getElem?_modify, if_pos rfl, h]
  rfl
theorem set_yes (b : Nat) (v0 : Value) (old s : ByteArray) (w : World) (hw : Wr w b v0 old none) (h : boundB s.data.toList = true) :
    Calls Tryd.prog 29 #[.pointer (some ⟨b, 0, none⟩), .string s] w fun e w' => e = .returned .nilIface ∧ Wr w' b v0 s none ∧ Below b w w' := by
  have hz : s.data.toList.length = s.size := by simp
  have h1 : 0 < s.size ∧ s.size ≤ 70 := by
    unfold boundB at h
    rw [hz] at h
    simp at h
    omega
  refine (set_loop b v0 old s w hw h1.1 h1.2).mono ?_
  rintro e w' (⟨_, he, w1, hb, rfl⟩ | ⟨hB, _⟩)
  · exact ⟨he, (hw.below hb hw.lt).set s, (hb.mono (Nat.le_of_lt hw.lt)).setCell (Nat.le_refl _) _⟩
  · rw [h] at hB; cases hB
theorem set_no (b : Nat) (v0 : Value) (old s : ByteArray) (w : World) (hw : Wr w b v0 old none) (h : boundB s.data.toList = false) :
    Calls Tryd.prog 29 #[.pointer (some ⟨b, 0, none⟩), .string s] w fun e w' => (∃ p, e = .returned (.iface 116 (.pointer (some p)))) ∧ Below w.heap.size w w' := by
  by_cases h1 : 0 < s.size ∧ s.size ≤ 70
  · refine (set_loop b v0 old s w hw h1.1 h1.2).mono ?_
    rintro e w' (⟨hB, _⟩ | ⟨_, he, hb⟩)
    · rw [h] at hB; cases hB
    · exact ⟨he, hb⟩
  · exact set_length b v0 old s w hw (by omega)

end Go.Proofs.YtklkgddldndmmaaDoor
