/- The walk of a Writer's Close. -/
import Derived.Test.YtklkgddldndmmaaDoorNilB
import Derived.Test.YtklkgddldndmmaaDoorConv
import Derived.Deep.DeepMust
namespace Go.Proofs.YtklkgddldndmmaaDoor
open Go.RowKit
set_option linter.unusedVariables false
set_option linter.unusedSimpArgs false

/-- The world behind '[]byte(s)' made in w, whatever was drawn. -/
structure After (w W : World) (s : ByteArray) : Prop where
  below : Below w.heap.size w W
  src : ∀ j u, (Lib.byteCells s.data.toList)[j]? = some u → W.cell? ⟨w.heap.size, 0 + j, none⟩ = some u
  new : ∃ c fz, W.heap[w.heap.size]? = some (.cells c 5 fz)
theorem After.drew {w W : World} {s : ByteArray} (h : After w W s) : After w W.drew s := ⟨h.below.drew, h.src, h.new⟩
theorem After.row (w : World) (s : ByteArray) (cap : Nat) (fz : Nat × Nat) : After w (w.alloc (.cells (bytesRow s cap) 5 fz)) s := by
  refine ⟨(Below.refl _ w).alloc (Nat.le_refl _) _, fun j u hu => ?_, _, _, heap_alloc_new w _⟩
  have hj : j < s.data.toList.length := by
    have := (List.getElem?_eq_some_iff.1 hu).1
    rwa [bc_len] at this
  rw [Nat.zero_add, World.cell?_alloc_mark]
  simp only [Lib.byteCells, List.getElem?_map] at hu
  simp only [bytesRow]
  have hj' : j < s.data.size := by simpa using hj
  rw [Array.getElem?_append_left (by simpa using hj')]
  rw [← hu]
  simp

set_option maxRecDepth 1000000 in
set_option maxHeartbeats 4000000 in
theorem shut_any (B bb b p : Nat) (cl : Bool) (bd : ByteArray) (o : List UInt8) (w : World) (ho : Buf w B bb o) (hw : Wr w b (.iface 55 (.pointer (some ⟨bb, 0, none⟩))) bd (some ⟨p, 0, none⟩)) (hp : Pt w p b cl) (hBb : B ≤ b) (hBp : B ≤ p) (hBw : B ≤ w.heap.size) (hbd : bd.size ≤ 1000) (hlim : o.length ≤ 140737488000000) :
    Calls Tryd.prog 39 #[.pointer (some ⟨b, 0, none⟩)] w fun e w' => e = .returned .nilIface ∧ Buf w' B bb (o ++ (crlf ++ dashes ++ bd.data.toList ++ dashes ++ crlf)) ∧ Below B w w' ∧ Kept (fun k => k = bb ∨ k = b ∨ k = p) w w' := by
  have w2 := hw.c2
  have HCl := Lib.hid (close_any p b cl w hp)
  obtain ⟨w1, hw1⟩ : ∃ x, x = w.setCell ⟨p, 1, none⟩ (.bool true) := ⟨_, rfl⟩
  rw [← hw1] at HCl
  have ho1 : Buf w1 B bb o := by rw [hw1]; exact ho.ptSet hp 1 _
  have hwr1 : Wr w1 b (.iface 55 (.pointer (some ⟨bb, 0, none⟩))) bd (some ⟨p, 0, none⟩) := by rw [hw1]; exact hw.ptSet hp 1 _
  have hsz1 : w1.heap.size = w.heap.size := by rw [hw1]; simp [World.setCell]
  have hb1 : Below B w w1 := by rw [hw1]; exact (Below.refl B w).setCell hBp _
  have hk1 : Kept (fun k => k = p) w w1 := by rw [hw1]; exact (Kept.refl (fun k => k = p) w).setCell (p := ⟨p, 1, none⟩) rfl _
  have hBw1 : B ≤ w1.heap.size := by omega
  have x2 := hwr1.c2
  have f2 := hwr1.f2
  clear hw1 ho hw hp hsz1
  go_enter Tryd.func39, Tryd.ntmps39
  go_wp2_with fail
  refine HCl.out.mono ?_
  rintro e w1' ⟨rfl, rfl⟩
  go_wp2_with fail
  obtain ⟨w3, hw3⟩ : ∃ x, x = w1'.setCell ⟨b, 2, none⟩ (.pointer none) := ⟨_, rfl⟩
  rw [← hw3]
  have ho3 : Buf w3 B bb o := by rw [hw3]; exact ho1.wrSet hwr1 2 _
  have hwr3 : Wr w3 b (.iface 55 (.pointer (some ⟨bb, 0, none⟩))) bd none := by rw [hw3]; exact hwr1.setPart none
  have hb3 : Below B w w3 := by rw [hw3]; exact hb1.setCell hBb _
  have hk3 : Kept (fun k => k = b ∨ k = p) w w3 := by rw [hw3]; exact (hk1.mono fun i h => .inr h).setCell (p := ⟨b, 2, none⟩) (.inl rfl) _
  have hBw3 : B ≤ w3.heap.size := Nat.le_trans hBw hb3.size
  have c0 := hwr3.c0
  have c1 := hwr3.c1
  have c0a : ∀ x, (w3.alloc x).cell? ⟨b, 0, none⟩ = some (.iface 55 (.pointer (some ⟨bb, 0, none⟩))) := fun x => (World.cell?_alloc_lt w3 x _ hwr3.lt).trans hwr3.c0
  clear hw3 x2 f2 ho1 hb1 hk1 hBw1 hwr1 HCl w2
  obtain ⟨T, hT⟩ : ∃ T, (⟨#[13, 10, 45, 45]⟩ ++ bd ++ ⟨#[45, 45, 13, 10]⟩ : ByteArray) = T := ⟨_, rfl⟩
  have HT : Hid (T.data.toList = crlf ++ dashes ++ bd.data.toList ++ dashes ++ crlf) := by show _ = _; rw [← hT, app_data, app_data]; simp only [List.append_assoc]; rfl
  have HZ : Hid (T.size = 8 + bd.size) := by show _ = _; rw [← hT, app_size, app_size]; show 4 + bd.size + 4 = _; omega
  have n1 := fun w => nil_ahead ⟨bb, 0, none⟩ w
  have n2 := fun w => method_write ⟨bb, 0, none⟩ w
  have hcv : ∀ W : World, (convert 9 31 (.string T)).run Tryd.prog W = _ := fun W => run_bytes_of_string W 9 31 5 T Tryd.underlying9 Tryd.underlying31 Tryd.underlying5
  have HW : ∀ (W : World) (c : Nat), After w3 W T → Calls Tryd.prog 128 #[.pointer (some ⟨bb, 0, none⟩), .slice (some ⟨w3.heap.size, 0, none⟩) T.size c] W fun e w' => e = .returned (.tuple #[.int .i64 T.size, .nilIface]) ∧ Buf w' B bb (o ++ (crlf ++ dashes ++ bd.data.toList ++ dashes ++ crlf)) ∧ Below B w3 w' ∧ Kept (fun k => k = bb) w3 w' := by
    intro W c hA
    have hoW := ho3.old hA.below
    refine (Tryd.Buffer_Write_any B bb (Lib.byteCells o) (Lib.byteCells T.data.toList) ⟨w3.heap.size, 0, none⟩ _ c W hoW (Nat.le_trans hBw3 hA.below.size) (bc_one o) (by rw [bc_len]; simp) (by have := ho3.lt; show w3.heap.size ≠ bb; omega) (fun j u hu => by rw [Addr.add_lit]; exact hA.src j u hu) (bc_one _) (by rw [bc_len, HZ.out]; omega)).mono ?_
    rintro e w' ⟨he, hI, hb, hk⟩
    rw [← Lib.byteCells_append, HT.out] at hI
    exact ⟨he, hI, (hA.below.mono hBw3).trans hb, (Kept.of_below hA.below).trans (Kept.of_others hk)⟩
  go_cut [4, 5] from 22 to 38 (fun s4 s5 wx => s5 = .nilIface ∧ Buf wx B bb (o ++ (crlf ++ dashes ++ bd.data.toList ++ dashes ++ crlf)) ∧ Below B w3 wx ∧ Kept (fun k => k = bb) w3 wx)
  case first =>
    clear ho3 hwr3 hb3 hk3 HT HZ
    go_region_with (go_at_call 128; go_must (refine (HW _ _ ?_).mono ?_; (repeat (first | exact After.row _ _ _ _ | refine After.drew ?_)); rintro e w' ⟨rfl, hI, hb, hk⟩))
    all_goals (go_wp2_with fail; go_simp; go_meet; exact ⟨rfl, hI, hb, hk⟩)
  obtain ⟨rfl, hI, hb, hk⟩ := hcut
  go_wp2
  go_ret
  exact ⟨rfl, hI, hb3.trans hb, (hk3.mono fun i h => .inr h).trans (hk.mono fun i h => .inl h)⟩
end Go.Proofs.YtklkgddldndmmaaDoor
