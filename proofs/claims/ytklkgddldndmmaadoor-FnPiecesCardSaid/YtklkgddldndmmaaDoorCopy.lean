/- The walks of WriteTo of a bytes.Buffer of the call's own, and of io.Copy out of it into another one. -/
import Derived.Test.YtklkgddldndmmaaDoorBuf
import Derived.Deep.RegionWith
import Derived.Deep.Cut
import Derived.Deep.CutRange
namespace Go.Proofs.YtklkgddldndmmaaDoor
open Go.RowKit
set_option linter.unusedVariables false
set_option linter.unusedSimpArgs false

theorem nil_ahead (a : Addr) (w : World) : (nilAhead 282 55 (.pointer (some a)) "Write").run Tryd.prog w = .ok (some false) w := by kernel_rfl
theorem method_write (a : Addr) (w : World) : (method 282 55 (.pointer (some a)) "Write").run Tryd.prog w = .ok (128, .pointer (some a)) w := by kernel_rfl

/-- A buffer that holds something: its row. -/
theorem Buf.row {w : World} {B b : Nat} {l : List UInt8} (h : Buf w B b l) (h0 : l ≠ []) : ∃ g cap lr, w.heap[b]? = some (.cells #[.slice (some ⟨g, 0, none⟩) l.length cap, .int .i64 0, .int .i8 lr] 59 (0, 0)) ∧ g ≠ b ∧ B ≤ g ∧ l.length ≤ cap ∧ cap ≤ maxLen ∧
    (∃ cur, w.heap[g]? = some (.cells cur 5 (0, 0))) ∧ ∀ j u, (Lib.byteCells l)[j]? = some u → w.cell? ⟨g, 0 + j, none⟩ = some u := by
  obtain ⟨hB, v, lr, hb, hown, hne⟩ := h
  rw [bc_len] at hown
  rcases hown.2 with ⟨rfl, hz⟩ | ⟨g, cap, cur, rfl, hBg, hg, hle, hcm, hcs, htk⟩
  · exact absurd (List.eq_nil_of_length_eq_zero hz) h0
  · refine ⟨g, cap, lr, hb, fun e => hne (by rw [e]; rfl), hBg, hle, hcm, ⟨cur, hg⟩, fun j u hu => ?_⟩
    have := hown.cells (g := g) rfl j u hu
    rwa [Addr.add_lit] at this

set_option maxRecDepth 1000000 in
set_option maxHeartbeats 2000000 in
theorem writeTo_any (B bb B2 tb : Nat) (o l : List UInt8) (w : World) (ho : Buf w B bb o) (hh : Buf w B2 tb l) (h0 : l ≠ []) (hne : tb ≠ bb) (hB2 : B ≤ tb) (hlim : o.length + l.length ≤ 140737488355328) (hBw : B ≤ w.heap.size) :
    Calls Tryd.prog 129 #[.pointer (some ⟨tb, 0, none⟩), .iface 55 (.pointer (some ⟨bb, 0, none⟩))] w fun e w' => e = .returned (.tuple #[.int .i64 l.length, .nilIface]) ∧ Buf w' B bb (o ++ l) ∧ Below B w w' ∧ Kept (fun k => k = bb ∨ k = tb) w w' := by
  obtain ⟨g, cap, lr, hbk, hgb, hBg, hle, hcm, ⟨cur, hg⟩, hcell⟩ := hh.row h0
  have c2 : w.cell? ⟨tb, 2, none⟩ = some (.int .i8 lr) := by rw [Lib.cell_of_heap hbk]; rfl
  have f2 : w.frozen? ⟨tb, 2, none⟩ = false := Lib.frozen_of_heap hbk 2
  go_enter Tryd.func129, Tryd.ntmps129
  go_wp2_with fail
  obtain ⟨w1, hw1⟩ : ∃ x, x = w.setCell ⟨tb, 2, none⟩ (.int .i8 0) := ⟨_, rfl⟩
  rw [← hw1]
  have L1 : Lone tb w w1 := by rw [hw1]; exact (Lone.refl tb w).setCell 2 _
  have hbk1 : w1.heap[tb]? = some (.cells #[.slice (some ⟨g, 0, none⟩) l.length cap, .int .i64 0, .int .i8 0] 59 (0, 0)) := by
    rw [hw1]
    show (w.heap.modify tb _)[tb]? = _
    rw [Array.getElem?_modify, if_pos rfl, hbk]
    rfl
  have ho1 : Buf w1 B bb o := ho.lone L1 hne hbk (by decide)
  have hg1 : w1.heap[g]? = some (.cells cur 5 (0, 0)) := by rw [L1.others g hgb, hg]
  have hcell1 : ∀ j u, (Lib.byteCells l)[j]? = some u → w1.cell? ⟨g, 0 + j, none⟩ = some u := fun j u hu => by
    rw [← hcell j u hu]
    exact World.cell?_of_block (L1.others g hgb)
  have hBw1 : B ≤ w1.heap.size := Nat.le_trans hBw (L1.below B hB2).size
  clear hw1 hbk hcell hg ho c2 f2 hh
  unfold maxLen at hcm
  refine (len_any tb _ _ _ _ w1 hbk1 (by omega)).mono ?_
  rintro e w2 ⟨rfl, q, rfl⟩
  obtain ⟨w2, hw2⟩ : ∃ x, x = w1.drewN q := ⟨_, rfl⟩
  rw [← hw2]
  have L2 : Lone tb w w2 := by rw [hw2]; exact L1.drewN q
  have hbk2 : w2.heap[tb]? = some (.cells #[.slice (some ⟨g, 0, none⟩) l.length cap, .int .i64 0, .int .i8 0] 59 (0, 0)) := by rw [hw2]; exact hbk1
  have ho2 : Buf w2 B bb o := by rw [hw2]; exact ho1
  have hcell2 : ∀ j u, (Lib.byteCells l)[j]? = some u → w2.cell? ⟨g, 0 + j, none⟩ = some u := by rw [hw2]; exact hcell1
  have hBw2 : B ≤ w2.heap.size := by rw [hw2]; exact hBw1
  have hg2 : w2.heap[g]? = some (.cells cur 5 (0, 0)) := by rw [hw2]; exact hg1
  clear hw2 L1 hbk1 ho1 hcell1 hBw1
  have c0 : w2.cell? ⟨tb, 0, none⟩ = some (.slice (some ⟨g, 0, none⟩) l.length cap) := by rw [Lib.cell_of_heap hbk2]; rfl
  have c1 : w2.cell? ⟨tb, 1, none⟩ = some (.int .i64 0) := by rw [Lib.cell_of_heap hbk2]; rfl
  have hpos : (0 : Int) < (l.length : Int) := by have := List.length_pos_iff.2 h0; omega
  go_wp2_with fail
  go_cut [7, 8] from 15 to 32 (fun s7 s8 wx => s7 = .int .i64 l.length ∧ s8 = .nilIface ∧ Buf wx B bb (o ++ l) ∧ Below B w2 wx ∧ Lib.OthersKept 5 (some bb) w2 wx)
  case first =>
    have n1 := fun w => nil_ahead ⟨bb, 0, none⟩ w
    have n2 := fun w => method_write ⟨bb, 0, none⟩ w
    have hgbb : g ≠ bb := by
      rintro rfl
      obtain ⟨v, lr', h⟩ := ho2.block
      rw [hg2] at h
      injection h with h
      injection h with _ h
      cases h
    have HW : ∀ W : World, (∃ n, W = w2.drewN n) → Calls Tryd.prog 128 #[.pointer (some ⟨bb, 0, none⟩), .slice (some ⟨g, 0, none⟩) l.length cap] W fun e w' => e = .returned (.tuple #[.int .i64 l.length, .nilIface]) ∧ Buf w' B bb (o ++ l) ∧ Below B w2 w' ∧ Lib.OthersKept 5 (some bb) w2 w' := by
      rintro W ⟨n, rfl⟩
      refine (Tryd.Buffer_Write_any B bb (Lib.byteCells o) (Lib.byteCells l) ⟨g, 0, none⟩ l.length cap (w2.drewN n) (ho2.drewN n) hBw2 (bc_one o) (bc_len l) hgbb (fun j u hu => by rw [Addr.add_lit]; exact hcell2 j u hu) (bc_one l) (by rw [bc_len]; exact hlim)).mono ?_
      rintro e w' ⟨he, hI, hb, hk⟩
      rw [← Lib.byteCells_append] at hI
      exact ⟨he, hI, (below_drewN (Below.refl B w2) n).trans hb, hk⟩
    clear hcell2 hbk2 ho2
    go_region_with (go_at_call 128; refine (HW _ ?_).mono ?_; exact ⟨1, rfl⟩; rintro e w' ⟨rfl, hI, hb, hk⟩)
    all_goals (go_wp2_with fail; go_simp; go_meet; exact ⟨rfl, rfl, hI, hb, hk⟩)
  obtain ⟨rfl, rfl, hI, hb, hk⟩ := hcut
  have hbk3 : wc.heap[tb]? = some (.cells #[.slice (some ⟨g, 0, none⟩) l.length cap, .int .i64 0, .int .i8 0] 59 (0, 0)) := hk tb _ hbk2 (fun e => hne (Option.some.inj e)) (fun c fz e => by injection e with _ e; cases e)
  have LK : Kept (fun k => k = bb ∨ k = tb) w wc := (L2.kept.mono fun k hk => .inr hk).trans ((Kept.of_others hk).mono fun k hk => .inl hk)
  have LB : Below B w wc := (L2.below B hB2).trans hb
  clear hk hb L2 hbk2 c0 c1 ho2 hcell2
  have c1 : wc.cell? ⟨tb, 1, none⟩ = some (.int .i64 0) := by rw [Lib.cell_of_heap hbk3]; rfl
  have f1 : wc.frozen? ⟨tb, 1, none⟩ = false := Lib.frozen_of_heap hbk3 1
  go_wp2_with fail
  have L3 : Lone tb wc (wc.setCell ⟨tb, 1, none⟩ (.int .i64 l.length)) := (Lone.refl tb wc).setCell 1 _
  have hbk4 : (wc.setCell ⟨tb, 1, none⟩ (.int .i64 l.length)).heap[tb]? = some (.cells #[.slice (some ⟨g, 0, none⟩) l.length cap, .int .i64 l.length, .int .i8 0] 59 (0, 0)) := by
    show (wc.heap.modify tb _)[tb]? = _
    rw [Array.getElem?_modify, if_pos rfl, hbk3]
    rfl
  refine (reset_any tb g l.length cap _ _ _ hbk4 hle (by omega)).mono ?_
  rintro e w4 ⟨rfl, L4⟩
  have L5 := L3.trans L4
  go_wp2
  go_ret2
  exact ⟨rfl, hI.lone L5 hne hbk3 (by decide), LB.trans (L5.below B hB2), LK.trans (L5.kept.mono fun k hk => .inr hk)⟩
end Go.Proofs.YtklkgddldndmmaaDoor
