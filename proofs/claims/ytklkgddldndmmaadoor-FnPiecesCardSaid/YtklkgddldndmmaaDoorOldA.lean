/- Small walks for impl.Old and its kin. -/
import Derived.Test.YtklkgddldndmmaaDoorLit
import Derived.Test.YtklkgddldndmmaaDoorSets
namespace Go.Proofs.YtklkgddldndmmaaDoor
open Go.RowKit
set_option linter.unusedVariables false
set_option linter.unusedSimpArgs false

/-- A part's Write, behind an append in a world w. -/
theorem partWrite_app (B bb b p : Nat) (bd : ByteArray) (lp : Option Addr) (o l : List UInt8) (n : Nat) (w : World) (ho : Buf w B bb o) (hw : Wr w b (.iface 55 (.pointer (some ⟨bb, 0, none⟩))) bd lp) (hp : Pt w p b false) (hl : l.length = n)
    (hlim : o.length + n ≤ 140737488355328) (hBw : B ≤ w.heap.size) (W : World) (A : Option Addr) (c : Nat) (hA : AppAfter w W A l) :
    Calls Tryd.prog 131 #[.pointer (some ⟨p, 0, none⟩), .slice A n c] W fun e w' => e = .returned (.tuple #[.int .i64 n, .nilIface]) ∧ Buf w' B bb (o ++ l) ∧ Below B w w' ∧ Kept (fun k => k = bb) w w' :=
  (partWrite_any B bb b p bd lp o l A n c W (ho.old hA.below) (hw.below hA.below hw.lt) ((hA.below.block p hp.lt).trans hp) (hA.src hl ho.lt) hlim (Nat.le_trans hBw hA.below.size)).mono fun e w' ⟨he, h1, h2, h3⟩ =>
    ⟨he, h1, (hA.below.mono hBw).trans h2, (Kept.of_below hA.below).trans h3⟩

/-- A late Write of a part that is shut. -/
theorem partLate_app (b p : Nat) (n : Nat) (l : List UInt8) (w : World) (hp : Pt w p b true) (W : World) (A : Option Addr) (c : Nat) (hA : AppAfter w W A l) :
    Calls Tryd.prog 131 #[.pointer (some ⟨p, 0, none⟩), .slice A n c] W fun e w' => (∃ q, e = .returned (.tuple #[.int .i64 0, .iface 116 (.pointer (some q))])) ∧ Below w.heap.size w w' :=
  (partLate_any b p A n c W ((hA.below.block p hp.lt).trans hp)).mono fun e w' ⟨he, hb⟩ => ⟨he, hA.below.trans (hb.mono hA.below.size)⟩

theorem bytes_core (b g n cap : Nat) (lr : Value) (w : World) (hb : w.heap[b]? = some (.cells #[.slice (some ⟨g, 0, none⟩) n cap, .int .i64 0, lr] 59 (0, 0))) (hle : n ≤ cap) (hpos : 0 < n) (hcm : cap ≤ 9223372036854775807) :
    Calls Tryd.prog 38 #[.pointer (some ⟨b, 0, none⟩)] w fun e w' => e = .returned (.slice (some ⟨g, 0, none⟩) n cap) ∧ ∃ q, w' = w.drewN q := by
  have d0 : ∀ q, (w.drewN q).cell? ⟨b, 0, none⟩ = some (.slice (some ⟨g, 0, none⟩) n cap) := fun q => by
    show w.cell? _ = _
    rw [Lib.cell_of_heap hb]; rfl
  have d1 : ∀ q, (w.drewN q).cell? ⟨b, 1, none⟩ = some (.int .i64 0) := fun q => by
    show w.cell? _ = _
    rw [Lib.cell_of_heap hb]; rfl
  clear hb
  have hne : ¬ cap = 0 := by omega
  go_enter Tryd.func38, Tryd.ntmps38
  go_wp2_with fail
  go_quiet (fail)
  go_wp2
  go_ret
  exact ⟨rfl, _, rfl⟩
theorem bytes_any (B b : Nat) (l : List UInt8) (w : World) (h : Buf w B b l) (h0 : l ≠ []) :
    ∃ g c, (∀ n, Calls Tryd.prog 38 #[.pointer (some ⟨b, 0, none⟩)] (w.drewN n) fun e w' => e = .returned (.slice (some ⟨g, 0, none⟩) l.length c) ∧ ∃ q, w' = (w.drewN n).drewN q) ∧ RdB w w.heap.size (some ⟨g, 0, none⟩) l.length l := by
  obtain ⟨g, cap, lr, hb, _, _, hle, hcm, ⟨cur, hg⟩, hc⟩ := h.row h0
  unfold maxLen at hcm
  exact ⟨g, cap, fun n => bytes_core b g l.length cap _ (w.drewN n) hb hle (List.length_pos_iff.2 h0) (by omega), ⟨by rw [bc_len]; simp, fun _ => ⟨g, 0, rfl, (Array.getElem?_eq_some_iff.1 hg).1, hc⟩⟩⟩

/-- SetBoundary of a fine boundary, what is kept. -/
theorem set_ok (B bb b : Nat) (v0 : Value) (old s : ByteArray) (o : List UInt8) (w : World) (hw : Wr w b v0 old none) (ho : Buf w B bb o) (hBb : B ≤ b) (h : boundB s.data.toList = true) :
    Calls Tryd.prog 29 #[.pointer (some ⟨b, 0, none⟩), .string s] w fun e w' => e = .returned .nilIface ∧ Wr w' b v0 s none ∧ Buf w' B bb o ∧ Below B w w' := by
  refine (set_both b v0 old s w hw).mono ?_
  rintro e w' ⟨he, h1, h2, h3⟩
  rw [if_pos h] at he h1
  refine ⟨he, h1, ho.carry fun k x hk hx => ?_, h3.mono hBb⟩
  refine (h2 k (Array.getElem?_eq_some_iff.1 hk).1 ?_).trans hk
  rintro rfl
  unfold Wr at hw
  rcases hx with rfl | ⟨c, fz, rfl⟩
  · exact wr_ne_buf hw ho rfl
  · rw [hw] at hk
    injection hk with hk
    injection hk with _ hk
    cases hk

end Go.Proofs.YtklkgddldndmmaaDoor
