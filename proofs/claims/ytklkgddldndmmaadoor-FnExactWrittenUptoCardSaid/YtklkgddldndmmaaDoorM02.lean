/- Texts of the proof, joined: Buf, Copy, Set, SetB, Part. -/
import Derived.Test.YtklkgddldndmmaaDoorM01
import Derived.Deep.RegionWith
import Derived.Deep.Cut
import Derived.Deep.CutRange
import Derived.LoopTactic
import Derived.Laws.RangeAny
import Derived.Lib.OthersKept
/- The walks of Len, Reset and WriteTo of a bytes.Buffer of the call's own, and of io.Copy out of it into another one. -/
namespace Go.Proofs.YtklkgddldndmmaaDoor
open Go.RowKit
set_option linter.unusedVariables false
set_option linter.unusedSimpArgs false

/-- A bytes.Buffer in block b that has only been written: it holds the bytes l. -/
abbrev Buf (w : World) (B b : Nat) (l : List UInt8) : Prop := Lib.IsBuffer 59 5 B b (Lib.byteCells l) w

/-- Blocks that are no rows of bytes, and not in S, are as they were. -/
def Kept (S : Nat → Prop) (w w' : World) : Prop := ∀ k o, w.heap[k]? = some o → ¬ S k → (∀ c fz, o ≠ .cells c 5 fz) → w'.heap[k]? = some o
theorem Kept.refl (S : Nat → Prop) (w : World) : Kept S w w := fun _ _ h _ _ => h
theorem Kept.trans {S : Nat → Prop} {a b c : World} (h : Kept S a b) (k : Kept S b c) : Kept S a c := fun i o hi hs ho => k i o (h i o hi hs ho) hs ho
theorem Kept.mono {S S' : Nat → Prop} {a b : World} (h : Kept S a b) (hs : ∀ k, S k → S' k) : Kept S' a b := fun i o hi hn ho => h i o hi (fun x => hn (hs i x)) ho
theorem Kept.of_below {S : Nat → Prop} {w w' : World} (h : Below w.heap.size w w') : Kept S w w' := fun i o hi _ _ => by
  rw [h.block i (Array.getElem?_eq_some_iff.1 hi).1, hi]
theorem Kept.of_others {b : Nat} {w w' : World} (h : Lib.OthersKept 5 (some b) w w') : Kept (fun k => k = b) w w' := fun i o hi hs ho => h i o hi (fun e => hs (Option.some.inj e)) ho
theorem Kept.setCell {S : Nat → Prop} {a w : World} (h : Kept S a w) {p : Addr} (hp : S p.block) (v : Value) : Kept S a (w.setCell p v) := h.trans fun i o hi hs ho => by
  have hne : i ≠ p.block := fun e => hs (e ▸ hp)
  show (w.heap.modify p.block _)[i]? = _
  rw [Array.getElem?_modify, if_neg (Ne.symm hne)]
  exact hi

/-- Nothing but block b has turned. -/
structure Lone (b : Nat) (w w' : World) : Prop where
  others : ∀ k, k ≠ b → w'.heap[k]? = w.heap[k]?
  below : ∀ B, B ≤ b → Below B w w'
theorem Lone.refl (b : Nat) (w : World) : Lone b w w := ⟨fun _ _ => rfl, fun B _ => Below.refl B w⟩
theorem Lone.trans {b : Nat} {a c d : World} (h : Lone b a c) (k : Lone b c d) : Lone b a d := ⟨fun i hi => (k.others i hi).trans (h.others i hi), fun B hB => (h.below B hB).trans (k.below B hB)⟩
theorem Lone.setCell {b : Nat} {a w : World} (h : Lone b a w) (i : Nat) (v : Value) : Lone b a (w.setCell ⟨b, i, none⟩ v) := ⟨fun k hk => by
  rw [← h.others k hk]
  show (w.heap.modify b _)[k]? = _
  rw [Array.getElem?_modify, if_neg (Ne.symm hk)], fun B hB => (h.below B hB).setCell hB v⟩
theorem Lone.drewN {b : Nat} {a w : World} (h : Lone b a w) (n : Nat) : Lone b a (w.drewN n) := ⟨h.others, fun B hB => (h.below B hB).trans ⟨rfl, rfl, rfl, Nat.le_refl _, fun _ _ => rfl⟩⟩
theorem Lone.kept {b : Nat} {w w' : World} (h : Lone b w w') : Kept (fun k => k = b) w w' := fun i o hi hs _ => by rw [h.others i hs, hi]

theorem Buf.carry {w w' : World} {B b : Nat} {l : List UInt8} (h : Buf w B b l) (hk : ∀ k o, w.heap[k]? = some o → (k = b ∨ ∃ c fz, o = .cells c 5 fz) → w'.heap[k]? = some o) : Buf w' B b l := by
  obtain ⟨hB, v, lr, hb, hown, hne⟩ := h
  refine ⟨hB, v, lr, hk b _ hb (.inl rfl), ⟨hown.1, ?_⟩, hne⟩
  rcases hown.2 with hn | ⟨g, cap, cur, hv, hbg, hg, rest⟩
  · exact .inl hn
  · exact .inr ⟨g, cap, cur, hv, hbg, hk g _ hg (.inr ⟨_, _, rfl⟩), rest⟩
theorem Buf.block {w : World} {B b : Nat} {l : List UInt8} (h : Buf w B b l) : ∃ v lr, w.heap[b]? = some (.cells #[v, .int .i64 0, .int .i8 lr] 59 (0, 0)) := by
  obtain ⟨hB, v, lr, hb, _⟩ := h
  exact ⟨v, lr, hb⟩
/-- Another buffer's struct has turned. -/
theorem Buf.lone {w w' : World} {B b : Nat} {l : List UInt8} (h : Buf w B b l) {b' : Nat} (hl : Lone b' w w') (hne : b' ≠ b) {c : Array Value} {t : TypeId} {fz : Nat × Nat} (ht : w.heap[b']? = some (.cells c t fz)) (h5 : t ≠ 5) : Buf w' B b l := by
  refine h.carry fun k o hk ho => ?_
  rw [hl.others k ?_, hk]
  rintro rfl
  rcases ho with rfl | ⟨c', fz', rfl⟩
  · exact hne rfl
  · rw [ht] at hk
    injection hk with hk
    injection hk with _ h2
    exact h5 h2

theorem len_any (b : Nat) (A : Option Addr) (n c : Nat) (lr : Value) (w : World) (hb : w.heap[b]? = some (.cells #[.slice A n c, .int .i64 0, lr] 59 (0, 0))) (hn : n ≤ 9223372036854775807) :
    Calls Tryd.prog 82 #[.pointer (some ⟨b, 0, none⟩)] w fun e w' => e = .returned (.int .i64 n) ∧ ∃ q, w' = w.drewN q := by
  have c0 : w.cell? ⟨b, 0, none⟩ = some (.slice A n c) := by rw [Lib.cell_of_heap hb]; rfl
  have c1 : w.cell? ⟨b, 1, none⟩ = some (.int .i64 0) := by rw [Lib.cell_of_heap hb]; rfl
  have d0 : ∀ q, (w.drewN q).cell? ⟨b, 0, none⟩ = some (.slice A n c) := fun q => c0
  have d1 : ∀ q, (w.drewN q).cell? ⟨b, 1, none⟩ = some (.int .i64 0) := fun q => c1
  go_enter Tryd.func82, Tryd.ntmps82
  go_wp2
  go_quiet (fail)
  go_wp2
  go_ret
  exact ⟨rfl, _, rfl⟩

theorem reset_any (b g n c : Nat) (off lr : Value) (w : World) (hb : w.heap[b]? = some (.cells #[.slice (some ⟨g, 0, none⟩) n c, off, lr] 59 (0, 0))) (hn : n ≤ c) (hc : c ≤ 9223372036854775807) :
    Calls Tryd.prog 83 #[.pointer (some ⟨b, 0, none⟩)] w fun e w' => e = .returned (.tuple #[]) ∧ Lone b w w' := by
  have c0 : w.cell? ⟨b, 0, none⟩ = some (.slice (some ⟨g, 0, none⟩) n c) := by rw [Lib.cell_of_heap hb]; rfl
  have c1 : w.cell? ⟨b, 1, none⟩ = some off := by rw [Lib.cell_of_heap hb]; rfl
  have c2 : w.cell? ⟨b, 2, none⟩ = some lr := by rw [Lib.cell_of_heap hb]; rfl
  have f0 : w.frozen? ⟨b, 0, none⟩ = false := Lib.frozen_of_heap hb 0
  have f1 : w.frozen? ⟨b, 1, none⟩ = false := Lib.frozen_of_heap hb 1
  have f2 : w.frozen? ⟨b, 2, none⟩ = false := Lib.frozen_of_heap hb 2
  go_enter Tryd.func83, Tryd.ntmps83
  go_wp2
  go_end0
  exact ⟨rfl, (((Lone.refl b w).setCell 0 _).setCell 1 _).setCell 2 _⟩
end Go.Proofs.YtklkgddldndmmaaDoor

/- The walks of WriteTo of a bytes.Buffer of the call's own, and of io.Copy out of it into another one. -/
namespace Go.Proofs.YtklkgddldndmmaaDoor
open Go.RowKit
set_option linter.unusedVariables false
set_option linter.unusedSimpArgs false

theorem nil_ahead (a : Addr) (w : World) : (nilAhead 282 55 (.pointer (some a)) "Write").run Tryd.prog w = .ok (some false) w := by kernel_rfl
theorem method_write (a : Addr) (w : World) : (method 282 55 (.pointer (some a)) "Write").run Tryd.prog w = .ok (128, .pointer (some a)) w := by kernel_rfl

/-- A buffer that holds something: its row. -/
theorem Buf.row {w : World} {B b : Nat} {l : List UInt8} (h : Buf w B b l) (h0 : l ≠ []) : ∃ g cap lr, w.heap[b]? = some (.cells #[.slice (some ⟨g, 0, none⟩) l.length cap, .int .i64 0, .int .i8 lr] 59 (0, 0)) ∧ g ≠ b ∧ B ≤ g ∧ l.length ≤ cap ∧ cap ≤ maxLen ∧
    (∃ cur, w.heap[g]? = some (.cells cur 5 (0, 0))) ∧ ∀ j u, (Lib.byteCells l)[j]? = some u → w.cell? ⟨g, 0 + j, none⟩ = some u := by
  obtain ⟨hB, v, lr, hb, hown, hne⟩ := h
  rw [bc_len] at hown
  rcases hown.2 with ⟨rfl, hz⟩ | ⟨g, cap, cur, rfl, hBg, hg, hle, hcm, hcs, htk⟩
  · exact absurd (List.eq_nil_of_length_eq_zero hz) h0
  · refine ⟨g, cap, lr, hb, fun e => hne (by rw [e]; rfl), hBg, hle, hcm, ⟨cur, hg⟩, fun j u hu => ?_⟩
    have := hown.cells (g := g) rfl j u hu
    rwa [Addr.add_lit] at this

set_option maxRecDepth 1000000 in
set_option maxHeartbeats 2000000 in
theorem writeTo_any (B bb B2 tb : Nat) (o l : List UInt8) (w : World) (ho : Buf w B bb o) (hh : Buf w B2 tb l) (h0 : l ≠ []) (hne : tb ≠ bb) (hB2 : B ≤ tb) (hlim : o.length + l.length ≤ 140737488355328) (hBw : B ≤ w.heap.size) :
    Calls Tryd.prog 129 #[.pointer (some ⟨tb, 0, none⟩), .iface 55 (.pointer (some ⟨bb, 0, none⟩))] w fun e w' => e = .returned (.tuple #[.int .i64 l.length, .nilIface]) ∧ Buf w' B bb (o ++ l) ∧ Below B w w' ∧ Kept (fun k => k = bb ∨ k = tb) w w' := by
  obtain ⟨g, cap, lr, hbk, hgb, hBg, hle, hcm, ⟨cur, hg⟩, hcell⟩ := hh.row h0
  have c2 : w.cell? ⟨tb, 2, none⟩ = some (.int .i8 lr) := by rw [Lib.cell_of_heap hbk]; rfl
  have f2 : w.frozen? ⟨tb, 2, none⟩ = false := Lib.frozen_of_heap hbk 2
  go_enter Tryd.func129, Tryd.ntmps129
  go_wp2_with fail
  obtain ⟨w1, hw1⟩ : ∃ x, x = w.setCell ⟨tb, 2, none⟩ (.int .i8 0) := ⟨_, rfl⟩
  rw [← hw1]
  have L1 : Lone tb w w1 := by rw [hw1]; exact (Lone.refl tb w).setCell 2 _
  have hbk1 : w1.heap[tb]? = some (.cells #[.slice (some ⟨g, 0, none⟩) l.length cap, .int .i64 0, .int .i8 0] 59 (0, 0)) := by
    rw [hw1]
    show (w.heap.modify tb _)[tb]? = _
    rw [Array.getElem?_modify, if_pos rfl, hbk]
    rfl
  have ho1 : Buf w1 B bb o := ho.lone L1 hne hbk (by decide)
  have hg1 : w1.heap[g]? = some (.cells cur 5 (0, 0)) := by rw [L1.others g hgb, hg]
  have hcell1 : ∀ j u, (Lib.byteCells l)[j]? = some u → w1.cell? ⟨g, 0 + j, none⟩ = some u := fun j u hu => by
    rw [← hcell j u hu]
    exact World.cell?_of_block (L1.others g hgb)
  have hBw1 : B ≤ w1.heap.size := Nat.le_trans hBw (L1.below B hB2).size
  clear hw1 hbk hcell hg ho c2 f2 hh
  unfold maxLen at hcm
  refine (len_any tb _ _ _ _ w1 hbk1 (by omega)).mono ?_
  rintro e w2 ⟨rfl, q, rfl⟩
  obtain ⟨w2, hw2⟩ : ∃ x, x = w1.drewN q := ⟨_, rfl⟩
  rw [← hw2]
  have L2 : Lone tb w w2 := by rw [hw2]; exact L1.drewN q
  have hbk2 : w2.heap[tb]? = some (.cells #[.slice (some ⟨g, 0, none⟩) l.length cap, .int .i64 0, .int .i8 0] 59 (0, 0)) := by rw [hw2]; exact hbk1
  have ho2 : Buf w2 B bb o := by rw [hw2]; exact ho1
  have hcell2 : ∀ j u, (Lib.byteCells l)[j]? = some u → w2.cell? ⟨g, 0 + j, none⟩ = some u := by rw [hw2]; exact hcell1
  have hBw2 : B ≤ w2.heap.size := by rw [hw2]; exact hBw1
  have hg2 : w2.heap[g]? = some (.cells cur 5 (0, 0)) := by rw [hw2]; exact hg1
  clear hw2 L1 hbk1 ho1 hcell1 hBw1
  have c0 : w2.cell? ⟨tb, 0, none⟩ = some (.slice (some ⟨g, 0, none⟩) l.length cap) := by rw [Lib.cell_of_heap hbk2]; rfl
  have c1 : w2.cell? ⟨tb, 1, none⟩ = some (.int .i64 0) := by rw [Lib.cell_of_heap hbk2]; rfl
  have hpos : (0 : Int) < (l.length : Int) := by have := List.length_pos_iff.2 h0; omega
  go_wp2_with fail
  go_cut [7, 8] from 15 to 32 (fun s7 s8 wx => s7 = .int .i64 l.length ∧ s8 = .nilIface ∧ Buf wx B bb (o ++ l) ∧ Below B w2 wx ∧ Lib.OthersKept 5 (some bb) w2 wx)
  case first =>
    have n1 := fun w => nil_ahead ⟨bb, 0, none⟩ w
    have n2 := fun w => method_write ⟨bb, 0, none⟩ w
    have hgbb : g ≠ bb := by
      rintro rfl
      obtain ⟨v, lr', h⟩ := ho2.block
      rw [hg2] at h
      injection h with h
      injection h with _ h
      cases h
    have HW : ∀ W : World, (∃ n, W = w2.drewN n) → Calls Tryd.prog 128 #[.pointer (some ⟨bb, 0, none⟩), .slice (some ⟨g, 0, none⟩) l.length cap] W fun e w' => e = .returned (.tuple #[.int .i64 l.length, .nilIface]) ∧ Buf w' B bb (o ++ l) ∧ Below B w2 w' ∧ Lib.OthersKept 5 (some bb) w2 w' := by
      rintro W ⟨n, rfl⟩
      refine (Tryd.Buffer_Write_any B bb (Lib.byteCells o) (Lib.byteCells l) ⟨g, 0, none⟩ l.length cap (w2.drewN n) (ho2.drewN n) hBw2 (bc_one o) (bc_len l) hgbb (fun j u hu => by rw [Addr.add_lit]; exact hcell2 j u hu) (bc_one l) (by rw [bc_len]; exact hlim)).mono ?_
      rintro e w' ⟨he, hI, hb, hk⟩
      rw [← Lib.byteCells_append] at hI
      exact ⟨he, hI, (below_drewN (Below.refl B w2) n).trans hb, hk⟩
    clear hcell2 hbk2 ho2
    go_region_with (go_at_call 128; refine (HW _ ?_).mono ?_; exact ⟨1, rfl⟩; rintro e w' ⟨rfl, hI, hb, hk⟩)
    all_goals (go_wp2_with fail; go_simp; go_meet; exact ⟨rfl, rfl, hI, hb, hk⟩)
  obtain ⟨rfl, rfl, hI, hb, hk⟩ := hcut
  have hbk3 : wc.heap[tb]? = some (.cells #[.slice (some ⟨g, 0, none⟩) l.length cap, .int .i64 0, .int .i8 0] 59 (0, 0)) := hk tb _ hbk2 (fun e => hne (Option.some.inj e)) (fun c fz e => by injection e with _ e; cases e)
  have LK : Kept (fun k => k = bb ∨ k = tb) w wc := (L2.kept.mono fun k hk => .inr hk).trans ((Kept.of_others hk).mono fun k hk => .inl hk)
  have LB : Below B w wc := (L2.below B hB2).trans hb
  clear hk hb L2 hbk2 c0 c1 ho2 hcell2
  have c1 : wc.cell? ⟨tb, 1, none⟩ = some (.int .i64 0) := by rw [Lib.cell_of_heap hbk3]; rfl
  have f1 : wc.frozen? ⟨tb, 1, none⟩ = false := Lib.frozen_of_heap hbk3 1
  go_wp2_with fail
  have L3 : Lone tb wc (wc.setCell ⟨tb, 1, none⟩ (.int .i64 l.length)) := (Lone.refl tb wc).setCell 1 _
  have hbk4 : (wc.setCell ⟨tb, 1, none⟩ (.int .i64 l.length)).heap[tb]? = some (.cells #[.slice (some ⟨g, 0, none⟩) l.length cap, .int .i64 l.length, .int .i8 0] 59 (0, 0)) := by
    show (wc.heap.modify tb _)[tb]? = _
    rw [Array.getElem?_modify, if_pos rfl, hbk3]
    rfl
  refine (reset_any tb g l.length cap _ _ _ hbk4 hle (by omega)).mono ?_
  rintro e w4 ⟨rfl, L4⟩
  have L5 := L3.trans L4
  go_wp2
  go_ret2
  exact ⟨rfl, hI.lone L5 hne hbk3 (by decide), LB.trans (L5.below B hB2), LK.trans (L5.kept.mono fun k hk => .inr hk)⟩
end Go.Proofs.YtklkgddldndmmaaDoor

/- The walks of errors.New and of SetBoundary. -/
namespace Go.Proofs.YtklkgddldndmmaaDoor
open Go.RowKit
set_option linter.unusedVariables false
set_option linter.unusedSimpArgs false

theorem new_any (s : ByteArray) (w : World) :
    Calls Tryd.prog 53 #[.string s] w fun e w' => (∃ p, e = .returned (.iface 116 (.pointer (some p)))) ∧ Below w.heap.size w w' := by
  go_enter Tryd.func53, Tryd.ntmps53
  go_wp2
  go_ret
  exact ⟨⟨_, rfl⟩, (Below.refl _ _).alloc (Nat.le_refl _) _⟩

/-- The struct of a Writer. -/
def Wr (w : World) (b : Nat) (v0 : Value) (old : ByteArray) (lp : Option Addr) : Prop := w.heap[b]? = some (.cells #[v0, .string old, .pointer lp] 95 (0, 0))

section
variable {w : World} {b : Nat} {v0 : Value} {old : ByteArray} {lp : Option Addr} (h : Wr w b v0 old lp)
include h
theorem Wr.c0 : w.cell? ⟨b, 0, none⟩ = some v0 := by unfold Wr at h; simp [World.cell?, h]
theorem Wr.c1 : w.cell? ⟨b, 1, none⟩ = some (.string old) := by unfold Wr at h; simp [World.cell?, h]
theorem Wr.c2 : w.cell? ⟨b, 2, none⟩ = some (.pointer lp) := by unfold Wr at h; simp [World.cell?, h]
theorem Wr.f1 : w.frozen? ⟨b, 1, none⟩ = false := by unfold Wr at h; simp [World.frozen?, h]
theorem Wr.f2 : w.frozen? ⟨b, 2, none⟩ = false := by unfold Wr at h; simp [World.frozen?, h]
theorem Wr.lt : b < w.heap.size := (Array.getElem?_eq_some_iff.1 h).1
theorem Wr.below {w' : World} {B : Nat} (hb : Below B w w') (hB : b < B) : Wr w' b v0 old lp := (hb.block b hB).trans h
theorem Wr.iter (s : ByteArray) (pos : Nat) : Wr (w.iter s pos) b v0 old lp := h.below ((Below.refl w.heap.size w).alloc (Nat.le_refl _) _) h.lt
end

theorem set_late (b : Nat) (v0 : Value) (old s : ByteArray) (q : Addr) (w : World) (hw : Wr w b v0 old (some q)) :
    Calls Tryd.prog 29 #[.pointer (some ⟨b, 0, none⟩), .string s] w fun e w' => (∃ p, e = .returned (.iface 116 (.pointer (some p)))) ∧ Below w.heap.size w w' := by
  have c2 := hw.c2
  go_enter Tryd.func29, Tryd.ntmps29
  go_wp2_with fail
  refine (new_any _ _).mono ?_
  rintro e w1 ⟨⟨p, rfl⟩, hb⟩
  go_wp2
  go_ret
  exact ⟨⟨_, rfl⟩, hb⟩

theorem set_length (b : Nat) (v0 : Value) (old s : ByteArray) (w : World) (hw : Wr w b v0 old none) (hs : s.size < 1 ∨ 70 < s.size) :
    Calls Tryd.prog 29 #[.pointer (some ⟨b, 0, none⟩), .string s] w fun e w' => (∃ p, e = .returned (.iface 116 (.pointer (some p)))) ∧ Below w.heap.size w w' := by
  have c2 := hw.c2
  rcases hs with hs | hs
  · have h0 : s.size = 0 := by omega
    go_enter Tryd.func29, Tryd.ntmps29
    go_wp2_with fail
    refine (new_any _ _).mono ?_
    rintro e w1 ⟨⟨p, rfl⟩, hb⟩
    go_wp2
    go_ret
    exact ⟨⟨_, rfl⟩, hb⟩
  · have h1 : (70 : Int) < (s.size : Int) := by omega
    have h2 : ¬ (s.size : Int) < 1 := by omega
    go_enter Tryd.func29, Tryd.ntmps29
    go_wp2_with fail
    refine (new_any _ _).mono ?_
    rintro e w1 ⟨⟨p, rfl⟩, hb⟩
    go_wp2
    go_ret
    exact ⟨⟨_, rfl⟩, hb⟩

/-- The first bytes are fine, and the last is no space if they are all. -/
def Fine (s : ByteArray) (pos : Nat) : Prop := allOk (s.data.toList.take pos) = true ∧ (pos = s.size → s.data.toList[s.size - 1]? ≠ some 32)
theorem fine_all {s : ByteArray} {pos : Nat} (h0 : 0 < s.size) (h70 : s.size ≤ 70) (h : Fine s pos) (hp : ¬ pos < s.size) (hle : pos ≤ s.size) : boundB s.data.toList = true := by
  obtain ⟨h1, h2⟩ := h
  have hz : s.data.toList.length = s.size := by simp
  have : pos = s.size := by omega
  subst this
  rw [List.take_of_length_le (by omega)] at h1
  unfold boundB
  unfold allOk at h1
  rw [h1, hz]
  simp
  exact ⟨⟨h0, h70⟩, by rw [← Array.getElem?_toList]; exact h2 rfl⟩
theorem fine_next {s : ByteArray} {pos : Nat} (h : Fine s pos) (hp : pos < s.size) (ho : okB s[pos] = true) (hl : s[pos] = 32 → pos ≠ s.size - 1) : Fine s (pos + 1) := by
  refine ⟨by rw [take_snoc s pos hp, allOk_snoc, h.1, ho]; rfl, fun e => ?_⟩
  have hq : s.size - 1 = pos := by omega
  rw [hq, Array.getElem?_toList]
  intro e2
  have : s[pos] = 32 := by
    have h3 : s.data[pos]? = some s[pos] := Array.getElem?_eq_getElem _
    rw [h3] at e2
    exact Option.some.inj e2
  exact hl this hq.symm
theorem bad_next {s : ByteArray} {pos : Nat} (hp : pos < s.size) (ho : okB s[pos] = false) : boundB s.data.toList = false := by
  have h1 : allOk s.data.toList = false := allOk_head _ (pos + 1) (by rw [take_snoc s pos hp, allOk_snoc, ho, Bool.and_false])
  unfold boundB
  unfold allOk at h1
  rw [h1]
  rfl
theorem bad_last {s : ByteArray} {pos : Nat} (hp : pos < s.size) (ho : s[pos] = 32) (hl : pos = s.size - 1) : boundB s.data.toList = false := by
  have hz : s.data.toList.length = s.size := by simp
  have h1 : s.data.toList[s.size - 1]? = some 32 := by
    rw [← hl, Array.getElem?_toList]
    have h3 : s.data[pos]? = some s[pos] := Array.getElem?_eq_getElem _
    rw [h3, ho]
  unfold boundB
  rw [hz, h1]
  simp

/-- What the loop asks of the rune at a place. -/
theorem rune_cases (s : ByteArray) (pos : Nat) (hp : pos < s.size) :
    ∃ x : Int, ((Utf8.decode s pos).1 : Int) = x ∧
      ((okB s[pos] = true ∧ (s[pos] = 32 → pos ≠ s.size - 1) ∧ (Utf8.decode s pos).2 = 1 ∧
        ((65 ≤ x ∧ x ≤ 90) ∨ (90 < x ∧ 97 ≤ x ∧ x ≤ 122) ∨ (48 ≤ x ∧ x ≤ 57) ∨ x = 39 ∨ x = 40 ∨ x = 41 ∨ x = 43 ∨ x = 95 ∨ x = 44 ∨ x = 45 ∨ x = 46 ∨ x = 47 ∨ x = 58 ∨ x = 61 ∨ x = 63 ∨ (x = 32 ∧ (pos : Int) ≠ (s.size : Int) - 1))) ∨
      (boundB s.data.toList = false ∧ ((x = 32 ∧ (pos : Int) = (s.size : Int) - 1) ∨
        ((x < 48 ∨ (57 < x ∧ x < 65) ∨ (90 < x ∧ x < 97) ∨ 122 < x) ∧ x ≠ 39 ∧ x ≠ 40 ∧ x ≠ 41 ∧ x ≠ 43 ∧ x ≠ 95 ∧ x ≠ 44 ∧ x ≠ 45 ∧ x ≠ 46 ∧ x ≠ 47 ∧ x ≠ 58 ∧ x ≠ 61 ∧ x ≠ 63 ∧ x ≠ 32)))) := by
  refine ⟨_, rfl, ?_⟩
  have hin : inB signs s[pos] = true ↔ s[pos].toNat = 39 ∨ s[pos].toNat = 40 ∨ s[pos].toNat = 41 ∨ s[pos].toNat = 43 ∨ s[pos].toNat = 95 ∨ s[pos].toNat = 44 ∨ s[pos].toNat = 45 ∨ s[pos].toNat = 46 ∨ s[pos].toNat = 47 ∨ s[pos].toNat = 58 ∨ s[pos].toNat = 61 ∨ s[pos].toNat = 63 ∨ s[pos].toNat = 32 := by
    unfold inB signs
    simp [← UInt8.toNat_inj]
  have hok : okB s[pos] = true ↔ letterB s[pos] = true ∨ inB signs s[pos] = true := by unfold okB; simp
  have h32 : s[pos] = 32 ↔ s[pos].toNat = 32 := by rw [← UInt8.toNat_inj]; rfl
  rw [letterB_iff, hin] at hok
  by_cases ha : s[pos].toNat < 128
  · rw [decode_ascii s pos hp ha]
    simp only
    by_cases ho : okB s[pos] = true
    · by_cases hl : s[pos] = 32 ∧ pos = s.size - 1
      · right
        refine ⟨bad_last hp hl.1 hl.2, .inl ⟨?_, ?_⟩⟩
        · have := h32.1 hl.1; omega
        · omega
      · left
        refine ⟨ho, fun h e => hl ⟨h, e⟩, trivial, ?_⟩
        rw [h32] at hl
        rw [hok] at ho
        omega
    · right
      refine ⟨bad_next hp (by simpa using ho), .inr ?_⟩
      rw [hok] at ho
      omega
  · have hd := (decode_high s pos hp (by omega)).1
    right
    have ho : ¬ okB s[pos] = true := by rw [hok]; omega
    refine ⟨bad_next hp (by simpa using ho), .inr ?_⟩
    omega


set_option maxRecDepth 100000 in
set_option maxHeartbeats 8000000 in
theorem set_loop (b : Nat) (v0 : Value) (old s : ByteArray) (w : World) (hw : Wr w b v0 old none) (h0 : 0 < s.size) (h70 : s.size ≤ 70) :
    Calls Tryd.prog 29 #[.pointer (some ⟨b, 0, none⟩), .string s] w fun e w' =>
      (boundB s.data.toList = true ∧ e = .returned .nilIface ∧ ∃ w1, Below w.heap.size w w1 ∧ w' = w1.setCell ⟨b, 1, none⟩ (.string s)) ∨
      (boundB s.data.toList = false ∧ (∃ p, e = .returned (.iface 116 (.pointer (some p)))) ∧ Below w.heap.size w w') := by
  have c2 := hw.c2
  have h2 : ¬ (s.size : Int) < 1 := by omega
  have h3 : ¬ (70 : Int) < (s.size : Int) := by omega
  go_enter Tryd.func29, Tryd.ntmps29
  go_wp2
  go_loopw [4] (fun e w' => e = .nilIface ∧ ∃ pos : Nat, pos ≤ s.size ∧ w' = w.iter s pos ∧ Hid (Fine s pos)) (fun _ w' => s.size - w'.iterPos w.heap.size)
  case atStart => exact ⟨rfl, 0, Nat.zero_le _, rfl, ⟨rfl, fun e => by omega⟩⟩
  case round =>
    obtain ⟨rfl, pos, hle, rfl, HF⟩ := hrel
    by_cases hp : pos < s.size
    · obtain ⟨x, hx, hc⟩ := rune_cases s pos hp
      have hnx := fun ty => run_next_any (P := Tryd.prog) w s pos ty hp
      rw [hx] at hnx
      rcases hc with ⟨ho, hl, hd, hc⟩ | ⟨hB, hc⟩
      · rw [hd] at hnx
        have HN : Hid (Fine s (pos + 1)) := fine_next HF.out hp ho hl
        clear HF ho hl hd hx c2
        rcases hc with ⟨ha, hb⟩ | ⟨ha, hb, hc⟩ | ⟨ha, hb⟩ | rfl | rfl | rfl | rfl | rfl | rfl | rfl | rfl | rfl | rfl | rfl | rfl | ⟨rfl, ha⟩
        all_goals
          go_wp2
          go_roundw
          case rel => exact ⟨rfl, pos + 1, by omega, rfl, HN⟩
          case measure =>
            rw [World.iterPos_iter, World.iterPos_iter]
            omega
      · have HB := Lib.hid hB
        have HB2 : Below w.heap.size w (w.iter s (pos + (Utf8.decode s pos).2)) := (Below.refl w.heap.size w).alloc (Nat.le_refl _) _
        have hsz := HB2.size
        clear HF hx c2 hB
        rcases hc with ⟨rfl, ha⟩ | ⟨ha | ⟨ha, hb⟩ | ⟨ha, hb⟩ | ha, n1, n2, n3, n4, n5, n6, n7, n8, n9, n10, n11, n12, n13⟩
        · go_wp2_with fail
          refine (new_any _ _).mono ?_
          rintro e w1 ⟨⟨p, rfl⟩, hb⟩
          go_wp2
          go_ret
          exact .inr ⟨HB.out, ⟨_, rfl⟩, HB2.trans (hb.mono hsz)⟩
        all_goals
          have m1 : ((x == 39) : Bool) = false := by simpa using n1
          have m2 : ((x == 40) : Bool) = false := by simpa using n2
          have m3 : ((x == 41) : Bool) = false := by simpa using n3
          have m4 : ((x == 43) : Bool) = false := by simpa using n4
          have m5 : ((x == 95) : Bool) = false := by simpa using n5
          have m6 : ((x == 44) : Bool) = false := by simpa using n6
          have m7 : ((x == 45) : Bool) = false := by simpa using n7
          have m8 : ((x == 46) : Bool) = false := by simpa using n8
          have m9 : ((x == 47) : Bool) = false := by simpa using n9
          have m10 : ((x == 58) : Bool) = false := by simpa using n10
          have m11 : ((x == 61) : Bool) = false := by simpa using n11
          have m12 : ((x == 63) : Bool) = false := by simpa using n12
          have m13 : ((x == 32) : Bool) = false := by simpa using n13
          clear n1 n2 n3 n4 n5 n6 n7 n8 n9 n10 n11 n12 n13
          go_wp2_with fail
          refine (new_any _ _).mono ?_
          rintro e w1 ⟨⟨p, rfl⟩, hb⟩
          go_wp2
          go_ret
          exact .inr ⟨HB.out, ⟨_, rfl⟩, HB2.trans (hb.mono hsz)⟩
    · have hB := fine_all h0 h70 HF.out hp hle
      have HB := Lib.hid hB
      have hnx := fun ty => run_next_end (P := Tryd.prog) w s pos ty hp
      have hb := hw.iter s pos
      have c1 := hb.c1
      have f1 := hb.f1
      clear HF c2 hB hb
      go_wp2
      go_ret
      exact .inl ⟨HB.out, rfl, _, (Below.refl w.heap.size w).alloc (Nat.le_refl _) _, rfl⟩

end Go.Proofs.YtklkgddldndmmaaDoor

/- SetBoundary as its callers meet it. -/
namespace Go.Proofs.YtklkgddldndmmaaDoor
open Go.RowKit
set_option linter.unusedVariables false
set_option linter.unusedSimpArgs false

theorem Wr.set {w : World} {b : Nat} {v0 : Value} {old : ByteArray} {lp : Option Addr} (h : Wr w b v0 old lp) (s : ByteArray) : Wr (w.setCell ⟨b, 1, none⟩ (.string s)) b v0 s lp := by
  unfold Wr at h ⊢
  show (w.heap.modify b _)[b]? = _
  rw [Array.getElem?_modify, if_pos rfl, h]
  rfl
theorem set_yes (b : Nat) (v0 : Value) (old s : ByteArray) (w : World) (hw : Wr w b v0 old none) (h : boundB s.data.toList = true) :
    Calls Tryd.prog 29 #[.pointer (some ⟨b, 0, none⟩), .string s] w fun e w' => e = .returned .nilIface ∧ Wr w' b v0 s none ∧ Below b w w' := by
  have hz : s.data.toList.length = s.size := by simp
  have h1 : 0 < s.size ∧ s.size ≤ 70 := by
    unfold boundB at h
    rw [hz] at h
    simp at h
    omega
  refine (set_loop b v0 old s w hw h1.1 h1.2).mono ?_
  rintro e w' (⟨_, he, w1, hb, rfl⟩ | ⟨hB, _⟩)
  · exact ⟨he, (hw.below hb hw.lt).set s, (hb.mono (Nat.le_of_lt hw.lt)).setCell (Nat.le_refl _) _⟩
  · rw [h] at hB; cases hB
theorem set_no (b : Nat) (v0 : Value) (old s : ByteArray) (w : World) (hw : Wr w b v0 old none) (h : boundB s.data.toList = false) :
    Calls Tryd.prog 29 #[.pointer (some ⟨b, 0, none⟩), .string s] w fun e w' => (∃ p, e = .returned (.iface 116 (.pointer (some p)))) ∧ Below w.heap.size w w' := by
  by_cases h1 : 0 < s.size ∧ s.size ≤ 70
  · refine (set_loop b v0 old s w hw h1.1 h1.2).mono ?_
    rintro e w' (⟨hB, _⟩ | ⟨_, he, hb⟩)
    · rw [h] at hB; cases hB
    · exact ⟨he, hb⟩
  · exact set_length b v0 old s w hw (by omega)

end Go.Proofs.YtklkgddldndmmaaDoor

/- The walks of io.Copy between two buffers of the call's own, of NewWriter, of a part's Write and close. -/
namespace Go.Proofs.YtklkgddldndmmaaDoor
open Go.RowKit
set_option linter.unusedVariables false
set_option linter.unusedSimpArgs false

theorem method_writeTo (a : Addr) (w : World) : (method 282 55 (.pointer (some a)) "WriteTo").run Tryd.prog w = .ok (129, .pointer (some a)) w := by kernel_rfl
theorem assert_writerTo (a : Addr) (w : World) : (Instr.typeAssert (.iface 55 (.pointer (some a))) 124 134 true).run Tryd.prog w = .ok (.tuple #[.iface 55 (.pointer (some a)), .bool true]) w := by kernel_rfl

/-- Two buffers; what is in the second is written behind what is in the first. -/
structure Moved (B bb tb : Nat) (o l : List UInt8) (w w' : World) : Prop where
  buf : Buf w' B bb (o ++ l)
  below : Below B w w'
  kept : Kept (fun k => k = bb ∨ k = tb) w w'

set_option maxRecDepth 1000000 in
theorem copyBuf_any (B bb B2 tb : Nat) (o l : List UInt8) (w : World) (ho : Buf w B bb o) (hh : Buf w B2 tb l) (h0 : l ≠ []) (hne : tb ≠ bb) (hB2 : B ≤ tb) (hlim : o.length + l.length ≤ 140737488355328) (hBw : B ≤ w.heap.size) :
    Calls Tryd.prog 77 #[.iface 55 (.pointer (some ⟨bb, 0, none⟩)), .iface 55 (.pointer (some ⟨tb, 0, none⟩)), .slice none 0 0] w fun e w' => e = .returned (.tuple #[.int .i64 l.length, .nilIface]) ∧ Moved B bb tb o l w w' := by
  have n1 := fun w => method_writeTo ⟨tb, 0, none⟩ w
  have n2 := fun w => assert_writerTo ⟨tb, 0, none⟩ w
  have HC := Lib.hid (writeTo_any B bb B2 tb o l w ho hh h0 hne hB2 hlim hBw)
  clear ho hh h0 hne
  go_enter Tryd.func77, Tryd.ntmps77
  go_wp2_with fail
  refine HC.out.mono ?_
  rintro e w1 ⟨rfl, h1, h2, h3⟩
  go_wp2
  go_ret2
  exact ⟨rfl, h1, h2, h3⟩

theorem copy_any (B bb B2 tb : Nat) (o l : List UInt8) (w : World) (ho : Buf w B bb o) (hh : Buf w B2 tb l) (h0 : l ≠ []) (hne : tb ≠ bb) (hB2 : B ≤ tb) (hlim : o.length + l.length ≤ 140737488355328) (hBw : B ≤ w.heap.size) :
    Calls Tryd.prog 58 #[.iface 55 (.pointer (some ⟨bb, 0, none⟩)), .iface 55 (.pointer (some ⟨tb, 0, none⟩))] w fun e w' => e = .returned (.tuple #[.int .i64 l.length, .nilIface]) ∧ Moved B bb tb o l w w' := by
  have HC := Lib.hid (copyBuf_any B bb B2 tb o l w ho hh h0 hne hB2 hlim hBw)
  clear ho hh h0 hne
  go_enter Tryd.func58, Tryd.ntmps58
  go_wp2_with fail
  refine HC.out.mono ?_
  rintro e w1 ⟨rfl, h1⟩
  go_wp2
  go_ret2
  exact ⟨rfl, h1⟩

theorem writer_any (v : Value) (w : World) :
    Calls Tryd.prog 28 #[.iface 55 v] w fun e w' => e = .returned (.pointer (some ⟨w.heap.size, 0, none⟩)) ∧ w' = w.alloc (.cells #[.iface 55 v, .string ⟨#[]⟩, .pointer none] 95 (0, 0)) := by
  go_enter Tryd.func28, Tryd.ntmps28
  go_wp2
  go_ret
  exact ⟨rfl, rfl⟩

/-- The struct of a part. -/
def Pt (w : World) (p b : Nat) (closed : Bool) : Prop := w.heap[p]? = some (.cells #[.pointer (some ⟨b, 0, none⟩), .bool closed, .nilIface] 105 (0, 0))
section
variable {w : World} {p b : Nat} {cl : Bool} (h : Pt w p b cl)
include h
theorem Pt.c0 : w.cell? ⟨p, 0, none⟩ = some (.pointer (some ⟨b, 0, none⟩)) := by unfold Pt at h; simp [World.cell?, h]
theorem Pt.c1 : w.cell? ⟨p, 1, none⟩ = some (.bool cl) := by unfold Pt at h; simp [World.cell?, h]
theorem Pt.c2 : w.cell? ⟨p, 2, none⟩ = some .nilIface := by unfold Pt at h; simp [World.cell?, h]
theorem Pt.f1 : w.frozen? ⟨p, 1, none⟩ = false := by unfold Pt at h; simp [World.frozen?, h]
theorem Pt.lt : p < w.heap.size := (Array.getElem?_eq_some_iff.1 h).1
theorem Pt.set (c : Bool) : Pt (w.setCell ⟨p, 1, none⟩ (.bool c)) p b c := by
  unfold Pt at h ⊢
  show (w.heap.modify p _)[p]? = _
  rw [Array.getElem?_modify, if_pos rfl, h]
  rfl
end

theorem close_any (p b : Nat) (cl : Bool) (w : World) (h : Pt w p b cl) :
    Calls Tryd.prog 54 #[.pointer (some ⟨p, 0, none⟩)] w fun e w' => e = .returned .nilIface ∧ w' = w.setCell ⟨p, 1, none⟩ (.bool true) := by
  have c1 := h.c1
  have c2 := h.c2
  have f1 := h.f1
  go_enter Tryd.func54, Tryd.ntmps54
  go_wp2
  go_ret
  exact ⟨rfl, rfl⟩

/-- A slice that is not nil, outside block bb, reads as l. -/
def Src (w : World) (bb : Nat) (A : Option Addr) (n : Nat) (l : List UInt8) : Prop := l.length = n ∧ ∃ a, A = some a ∧ a.block ≠ bb ∧ ∀ j u, (Lib.byteCells l)[j]? = some u → w.cell? (a.add j) = some u

theorem partWrite_any (B bb b p : Nat) (bd : ByteArray) (lp : Option Addr) (o l : List UInt8) (A : Option Addr) (n c : Nat) (w : World) (ho : Buf w B bb o) (hw : Wr w b (.iface 55 (.pointer (some ⟨bb, 0, none⟩))) bd lp) (hp : Pt w p b false) (hs : Src w bb A n l)
    (hlim : o.length + n ≤ 140737488355328) (hBw : B ≤ w.heap.size) :
    Calls Tryd.prog 131 #[.pointer (some ⟨p, 0, none⟩), .slice A n c] w fun e w' => e = .returned (.tuple #[.int .i64 n, .nilIface]) ∧ Buf w' B bb (o ++ l) ∧ Below B w w' ∧ Kept (fun k => k = bb) w w' := by
  obtain ⟨hl, a, rfl, hab, hsrc⟩ := hs
  have HC := Lib.hid (Tryd.Buffer_Write_any B bb (Lib.byteCells o) (Lib.byteCells l) a n c w ho hBw (bc_one o) (by rw [bc_len]; exact hl) hab hsrc (bc_one l) (by rw [bc_len]; exact hlim))
  have n2 := fun w => method_write ⟨bb, 0, none⟩ w
  have n1 := fun w => nil_ahead ⟨bb, 0, none⟩ w
  have c1 := hp.c1
  have c0 := hp.c0
  have w0 := hw.c0
  clear hsrc ho hw hp
  go_enter Tryd.func131, Tryd.ntmps131
  go_wp2_with fail
  refine HC.out.mono ?_
  rintro e w1 ⟨rfl, h1, h2, h3⟩
  rw [← Lib.byteCells_append] at h1
  go_wp2
  go_ret2
  exact ⟨rfl, h1, h2, Kept.of_others h3⟩

theorem partLate_any (b p : Nat) (A : Option Addr) (n c : Nat) (w : World) (hp : Pt w p b true) :
    Calls Tryd.prog 131 #[.pointer (some ⟨p, 0, none⟩), .slice A n c] w fun e w' => (∃ q, e = .returned (.tuple #[.int .i64 0, .iface 116 (.pointer (some q))])) ∧ Below w.heap.size w w' := by
  have c1 := hp.c1
  go_enter Tryd.func131, Tryd.ntmps131
  go_wp2_with fail
  refine (new_any _ _).mono ?_
  rintro e w1 ⟨⟨q, rfl⟩, hb⟩
  go_wp2
  go_ret2
  exact ⟨⟨_, rfl⟩, hb⟩
end Go.Proofs.YtklkgddldndmmaaDoor
