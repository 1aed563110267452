/- The walks of io.Copy between two buffers of the call's own, of NewWriter, of a part's Write and close. -/
import Derived.Test.YtklkgddldndmmaaDoorCopy
import Derived.Test.YtklkgddldndmmaaDoorSetB
namespace Go.Proofs.YtklkgddldndmmaaDoor
open Go.RowKit
set_option linter.unusedVariables false
set_option linter.unusedSimpArgs false

theorem method_writeTo (a : Addr) (w : World) : (method 282 55 (.pointer (some a)) "WriteTo").run Tryd.prog w = .ok (129, .pointer (some a)) w := by kernel_rfl
theorem assert_writerTo (a : Addr) (w : World) : (Instr.typeAssert (.iface 55 (.pointer (some a))) 124 134 true).run Tryd.prog w = .ok (.tuple #[.iface 55 (.pointer (some a)), .bool true]) w := by kernel_rfl

/-- Two buffers; what is in the second is written behind what is in the first. -/
structure Moved (B bb tb : Nat) (o l : List UInt8) (w w' : World) : Prop where
  buf : Buf w' B bb (o ++ l)
  below : Below B w w'
  kept : Kept (fun k => k = bb ∨ k = tb) w w'

set_option maxRecDepth 1000000 in
theorem copyBuf_any (B bb B2 tb : Nat) (o l : List UInt8) (w : World) (ho : Buf w B bb o) (hh : Buf w B2 tb l) (h0 : l ≠ []) (hne : tb ≠ bb) (hB2 : B ≤ tb) (hlim : o.length + l.length ≤ 140737488355328) (hBw : B ≤ w.heap.size) :
    Calls Tryd.prog 77 #[.iface 55 (.pointer (some ⟨bb, 0, none⟩)), .iface 55 (.pointer (some ⟨tb, 0, none⟩)), .slice none 0 0] w fun e w' => e = .returned (.tuple #[.int .i64 l.length, .nilIface]) ∧ Moved B bb tb o l w w' := by
  have n1 := fun w => method_writeTo ⟨tb, 0, none⟩ w
  have n2 := fun w => assert_writerTo ⟨tb, 0, none⟩ w
  have HC := Lib.hid (writeTo_any B bb B2 tb o l w ho hh h0 hne hB2 hlim hBw)
  clear ho hh h0 hne
  go_enter Tryd.func77, Tryd.ntmps77
  go_wp2_with fail
  refine HC.out.mono ?_
  rintro e w1 ⟨rfl, h1, h2, h3⟩
  go_wp2
  go_ret2
  exact ⟨rfl, h1, h2, h3⟩

theorem copy_any (B bb B2 tb : Nat) (o l : List UInt8) (w : World) (ho : Buf w B bb o) (hh : Buf w B2 tb l) (h0 : l ≠ []) (hne : tb ≠ bb) (hB2 : B ≤ tb) (hlim : o.length + l.length ≤ 140737488355328) (hBw : B ≤ w.heap.size) :
    Calls Tryd.prog 58 #[.iface 55 (.pointer (some ⟨bb, 0, none⟩)), .iface 55 (.pointer (some ⟨tb, 0, none⟩))] w fun e w' => e = .returned (.tuple #[.int .i64 l.length, .nilIface]) ∧ Moved B bb tb o l w w' := by
  have HC := Lib.hid (copyBuf_any B bb B2 tb o l w ho hh h0 hne hB2 hlim hBw)
  clear ho hh h0 hne
  go_enter Tryd.func58, Tryd.ntmps58
  go_wp2_with fail
  refine HC.out.mono ?_
  rintro e w1 ⟨rfl, h1⟩
  go_wp2
  go_ret2
  exact ⟨rfl, h1⟩

theorem writer_any (v : Value) (w : World) :
    Calls Tryd.prog 28 #[.iface 55 v] w fun e w' => e = .returned (.pointer (some ⟨w.heap.size, 0, none⟩)) ∧ w' = w.alloc (.cells #[.iface 55 v, .string ⟨#[]⟩, .pointer none] 95 (0, 0)) := by
  go_enter Tryd.func28, Tryd.ntmps28
  go_wp2
  go_ret
  exact ⟨rfl, rfl⟩

/-- The struct of a part. -/
def Pt (w : World) (p b : Nat) (closed : Bool) : Prop := w.heap[p]? = some (.cells #[.pointer (some ⟨b, 0, none⟩), .bool closed, .nilIface] 105 (0, 0))
section
variable {w : World} {p b : Nat} {cl : Bool} (h : Pt w p b cl)
include h
theorem Pt.c0 : w.cell? ⟨p, 0, none⟩ = some (.pointer (some ⟨b, 0, none⟩)) := by unfold Pt at h; simp [World.cell?, h]
theorem Pt.c1 : w.cell? ⟨p, 1, none⟩ = some (.bool cl) := by unfold Pt at h; simp [World.cell?, h]
theorem Pt.c2 : w.cell? ⟨p, 2, none⟩ = some .nilIface := by unfold Pt at h; simp [World.cell?, h]
theorem Pt.f1 : w.frozen? ⟨p, 1, none⟩ = false := by unfold Pt at h; simp [World.frozen?, h]
theorem Pt.lt : p < w.heap.size := (Array.getElem?_eq_some_iff.1 h).1
theorem Pt.set (c : Bool) : Pt (w.setCell ⟨p, 1, none⟩ (.bool c)) p b c := by
  unfold Pt at h ⊢
  show (w.heap.modify p _)[p]? = _
  rw [Array.getElem?_modify, if_pos rfl, h]
  rfl
end

theorem close_any (p b : Nat) (cl : Bool) (w : World) (h : Pt w p b cl) :
    Calls Tryd.prog 54 #[.pointer (some ⟨p, 0, none⟩)] w fun e w' => e = .returned .nilIface ∧ w' = w.setCell ⟨p, 1, none⟩ (.bool true) := by
  have c1 := h.c1
  have c2 := h.c2
  have f1 := h.f1
  go_enter Tryd.func54, Tryd.ntmps54
  go_wp2
  go_ret
  exact ⟨rfl, rfl⟩

/-- A slice that is not nil, outside block bb, reads as l. -/
def Src (w : World) (bb : Nat) (A : Option Addr) (n : Nat) (l : List UInt8) : Prop := l.length = n ∧ ∃ a, A = some a ∧ a.block ≠ bb ∧ ∀ j u, (Lib.byteCells l)[j]? = some u → w.cell? (a.add j) = some u

theorem partWrite_any (B bb b p : Nat) (bd : ByteArray) (lp : Option Addr) (o l : List UInt8) (A : Option Addr) (n c : Nat) (w : World) (ho : Buf w B bb o) (hw : Wr w b (.iface 55 (.pointer (some ⟨bb, 0, none⟩))) bd lp) (hp : Pt w p b false) (hs : Src w bb A n l)
    (hlim : o.length + n ≤ 140737488355328) (hBw : B ≤ w.heap.size) :
    Calls Tryd.prog 131 #[.pointer (some ⟨p, 0, none⟩), .slice A n c] w fun e w' => e = .returned (.tuple #[.int .i64 n, .nilIface]) ∧ Buf w' B bb (o ++ l) ∧ Below B w w' ∧ Kept (fun k => k = bb) w w' := by
  obtain ⟨hl, a, rfl, hab, hsrc⟩ := hs
  have HC := Lib.hid (Tryd.Buffer_Write_any B bb (Lib.byteCells o) (Lib.byteCells l) a n c w ho hBw (bc_one o) (by rw [bc_len]; exact hl) hab hsrc (bc_one l) (by rw [bc_len]; exact hlim))
  have n2 := fun w => method_write ⟨bb, 0, none⟩ w
  have n1 := fun w => nil_ahead ⟨bb, 0, none⟩ w
  have c1 := hp.c1
  have c0 := hp.c0
  have w0 := hw.c0
  clear hsrc ho hw hp
  go_enter Tryd.func131, Tryd.ntmps131
  go_wp2_with fail
  refine HC.out.mono ?_
  rintro e w1 ⟨rfl, h1, h2, h3⟩
  rw [← Lib.byteCells_append] at h1
  go_wp2
  go_ret2
  exact ⟨rfl, h1, h2, Kept.of_others h3⟩

theorem partLate_any (b p : Nat) (A : Option Addr) (n c : Nat) (w : World) (hp : Pt w p b true) :
    Calls Tryd.prog 131 #[.pointer (some ⟨p, 0, none⟩), .slice A n c] w fun e w' => (∃ q, e = .returned (.tuple #[.int .i64 0, .iface 116 (.pointer (some q))])) ∧ Below w.heap.size w w' := by
  have c1 := hp.c1
  go_enter Tryd.func131, Tryd.ntmps131
  go_wp2_with fail
  refine (new_any _ _).mono ?_
  rintro e w1 ⟨⟨q, rfl⟩, hb⟩
  go_wp2
  go_ret2
  exact ⟨⟨_, rfl⟩, hb⟩
end Go.Proofs.YtklkgddldndmmaaDoor
