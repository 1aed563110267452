/- 'append([]byte{}, x...)' as a step of a region that draws its order, and what a part's Write makes of it. -/
import Derived.Test.YtklkgddldndmmaaDoorShut
import Derived.Deep.RegionLaw
namespace Go.Proofs.YtklkgddldndmmaaDoor
open Go.RowKit
set_option linter.unusedVariables false
set_option linter.unusedSimpArgs false

/-- Behind the literal '[]byte{}' made in w, whatever was drawn. -/
structure LitAfter (w W : World) : Prop where
  below : Below w.heap.size w W
  own : W.ownsRow w.heap.size 5 1 (.slice (some ⟨w.heap.size, 0, none⟩) 0 0) 0 []
theorem LitAfter.drew {w W : World} (h : LitAfter w W) : LitAfter w W.drew := ⟨h.below.drew, h.own⟩
theorem LitAfter.row (w : World) : LitAfter w (w.alloc (.cells #[] 5)) :=
  ⟨(Below.refl _ w).alloc (Nat.le_refl _) _, World.ownsRow_lit (base := w.heap.size) (e := 5) (size := 1) w #[] 0 (Nat.le_refl _) (by decide) rfl⟩

/-- Behind the append: a row of its own that reads as l. -/
structure AppAfter (w W : World) (A : Option Addr) (l : List UInt8) : Prop where
  below : Below w.heap.size w W
  own : ∃ g, A = some ⟨g, 0, none⟩ ∧ w.heap.size ≤ g ∧ (∃ c fz, W.heap[g]? = some (.cells c 5 fz)) ∧ ∀ j u, (Lib.byteCells l)[j]? = some u → W.cell? ⟨g, 0 + j, none⟩ = some u
theorem AppAfter.drew {w W : World} {A : Option Addr} {l : List UInt8} (h : AppAfter w W A l) : AppAfter w W.drew A l := ⟨h.below.drew, h.own⟩
theorem AppAfter.src {w W : World} {A : Option Addr} {l : List UInt8} {n bb : Nat} (h : AppAfter w W A l) (hl : l.length = n) (hbb : bb < w.heap.size) : Src W bb A n l := by
  obtain ⟨g, rfl, hg, _, hc⟩ := h.own
  exact ⟨hl, _, rfl, by show g ≠ bb; omega, fun j u hu => by rw [Addr.add_lit]; exact hc j u hu⟩

theorem info5' : ∃ i, Tryd.prog.info? 5 = some i ∧ i.zero = some (.int .u8 0) ∧ i.size = 1 ∧ i.bytes = 1 := by
  obtain ⟨i0, hi, hz0, hz1, hz2⟩ := info_parts info5
  exact ⟨i0, hi, hz0, hz1, hz2⟩

theorem wp_append_lit {o : Oper} {a : Act} {K : Act → World → Prop} {Q : Exit → Act → World → Prop} (w W : World) (s x : Operand) (ho : o.op = .call { callee := .builtin .append, args := #[s, x], argTypes := #[31, 31] })
    (hL : LitAfter w W) (hs : a.eval s = .slice (some ⟨w.heap.size, 0, none⟩) 0 0) (B : Nat) (A : Option Addr) (m c : Nat) (l : List UInt8) (hx : a.eval x = .slice A m c) (hr : RdB w B A m l) (hB : B ≤ w.heap.size) (hm : m ≤ 140737488355328)
    (h : ∀ A' c' W', AppAfter w W' A' l → K (a.put o.dst (.slice A' m c')) W') : o.wp Tryd.prog a W K Q := by
  obtain ⟨i0, hi, hz0, hz1, hz2⟩ := info5'
  refine wp_append_any W s x 31 ho w.heap.size 5 i0 (.int .u8 0) 1 1 Tryd.underlying31 hi hz0 hz1 hz2 rfl (by decide) _ 0 [] hs hL.own w.heap.size A m c (Lib.byteCells l) hx ((hr.more hB).below hL.below) (bc_one l) (by unfold maxLen; omega) (by omega) hL.below.size ?_
  intro A' c' W' hown hgrow hlie
  rw [Nat.zero_add] at hown hlie ⊢
  refine h A' c' W' ⟨(hL.below.grown hgrow hL.below.size (fun j hj => (hL.own.lt j hj).1)), ?_⟩
  rw [List.nil_append] at hown
  rcases hown.2 with ⟨hv, _⟩ | ⟨g, cap, cur, hv, hg, hgb, _⟩
  · injection hv with h1 _ _
    subst h1
    rcases hlie with hh | hh <;> cases hh
  · injection hv with h1 _ _
    subst h1
    refine ⟨g, rfl, hg, ⟨_, _, hgb⟩, fun j u hu => ?_⟩
    have := hown.cells (g := g) rfl j u hu
    rwa [Addr.add_lit] at this

theorem step_append_lit {ops : Array Oper} {o : Oper} {a : Act} {K : Act → World → Prop} {Q : Exit → Act → World → Prop} {E : Prop} (w W : World) (hgd : o.guard = none) (s x : Operand) (ho : o.op = .call { callee := .builtin .append, args := #[s, x], argTypes := #[31, 31] })
    (hL : LitAfter w W) (hs : a.eval s = .slice (some ⟨w.heap.size, 0, none⟩) 0 0) (B : Nat) (A : Option Addr) (m c : Nat) (l : List UInt8) (hx : a.eval x = .slice A m c) (hr : RdB w B A m l) (hB : B ≤ w.heap.size) (hm : m ≤ 140737488355328)
    (h : ∀ A' c' W', AppAfter w W' A' l → K (a.put o.dst (.slice A' m c')) W') : if Region.wanted o (yielded ops a.tmps) = true then Oper.wp Tryd.prog o a W K Q else E := by
  rw [if_pos (by simp [Region.wanted, hgd])]
  exact wp_append_lit w W s x ho hL hs B A m c l hx hr hB hm h

theorem nil_ahead93 (a : Addr) (w : World) : (nilAhead 282 93 (.pointer (some a)) "Write").run Tryd.prog w = .ok (some false) w := by kernel_rfl
theorem method_write93 (a : Addr) (w : World) : (method 282 93 (.pointer (some a)) "Write").run Tryd.prog w = .ok (131, .pointer (some a)) w := by kernel_rfl

end Go.Proofs.YtklkgddldndmmaaDoor
