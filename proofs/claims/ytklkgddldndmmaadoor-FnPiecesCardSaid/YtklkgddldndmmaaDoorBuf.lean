/- The walks of Len, Reset and WriteTo of a bytes.Buffer of the call's own, and of io.Copy out of it into another one. -/
import Derived.Test.YtklkgddldndmmaaDoorSmall
import Derived.Test.YtklkgddldndmmaaDoorShelf
namespace Go.Proofs.YtklkgddldndmmaaDoor
open Go.RowKit
set_option linter.unusedVariables false
set_option linter.unusedSimpArgs false

/-- A bytes.Buffer in block b that has only been written: it holds the bytes l. -/
abbrev Buf (w : World) (B b : Nat) (l : List UInt8) : Prop := Lib.IsBuffer 59 5 B b (Lib.byteCells l) w

/-- Blocks that are no rows of bytes, and not in S, are as they were. -/
def Kept (S : Nat → Prop) (w w' : World) : Prop := ∀ k o, w.heap[k]? = some o → ¬ S k → (∀ c fz, o ≠ .cells c 5 fz) → w'.heap[k]? = some o
theorem Kept.refl (S : Nat → Prop) (w : World) : Kept S w w := fun _ _ h _ _ => h
theorem Kept.trans {S : Nat → Prop} {a b c : World} (h : Kept S a b) (k : Kept S b c) : Kept S a c := fun i o hi hs ho => k i o (h i o hi hs ho) hs ho
theorem Kept.mono {S S' : Nat → Prop} {a b : World} (h : Kept S a b) (hs : ∀ k, S k → S' k) : Kept S' a b := fun i o hi hn ho => h i o hi (fun x => hn (hs i x)) ho
theorem Kept.of_below {S : Nat → Prop} {w w' : World} (h : Below w.heap.size w w') : Kept S w w' := fun i o hi _ _ => by
  rw [h.block i (Array.getElem?_eq_some_iff.1 hi).1, hi]
theorem Kept.of_others {b : Nat} {w w' : World} (h : Lib.OthersKept 5 (some b) w w') : Kept (fun k => k = b) w w' := fun i o hi hs ho => h i o hi (fun e => hs (Option.some.inj e)) ho
theorem Kept.setCell {S : Nat → Prop} {a w : World} (h : Kept S a w) {p : Addr} (hp : S p.block) (v : Value) : Kept S a (w.setCell p v) := h.trans fun i o hi hs ho => by
  have hne : i ≠ p.block := fun e => hs (e ▸ hp)
  show (w.heap.modify p.block _)[i]? = _
  rw [Array.getElem?_modify, if_neg (Ne.symm hne)]
  exact hi

/-- Nothing but block b has turned. -/
structure Lone (b : Nat) (w w' : World) : Prop where
  others : ∀ k, k ≠ b → w'.heap[k]? = w.heap[k]?
  below : ∀ B, B ≤ b → Below B w w'
theorem Lone.refl (b : Nat) (w : World) : Lone b w w := ⟨fun _ _ => rfl, fun B _ => Below.refl B w⟩
theorem Lone.trans {b : Nat} {a c d : World} (h : Lone b a c) (k : Lone b c d) : Lone b a d := ⟨fun i hi => (k.others i hi).trans (h.others i hi), fun B hB => (h.below B hB).trans (k.below B hB)⟩
theorem Lone.setCell {b : Nat} {a w : World} (h : Lone b a w) (i : Nat) (v : Value) : Lone b a (w.setCell ⟨b, i, none⟩ v) := ⟨fun k hk => by
  rw [← h.others k hk]
  show (w.heap.modify b _)[k]? = _
  rw [Array.getElem?_modify, if_neg (Ne.symm hk)], fun B hB => (h.below B hB).setCell hB v⟩
theorem Lone.drewN {b : Nat} {a w : World} (h : Lone b a w) (n : Nat) : Lone b a (w.drewN n) := ⟨h.others, fun B hB => (h.below B hB).trans ⟨rfl, rfl, rfl, Nat.le_refl _, fun _ _ => rfl⟩⟩
theorem Lone.kept {b : Nat} {w w' : World} (h : Lone b w w') : Kept (fun k => k = b) w w' := fun i o hi hs _ => by rw [h.others i hs, hi]

theorem Buf.carry {w w' : World} {B b : Nat} {l : List UInt8} (h : Buf w B b l) (hk : ∀ k o, w.heap[k]? = some o → (k = b ∨ ∃ c fz, o = .cells c 5 fz) → w'.heap[k]? = some o) : Buf w' B b l := by
  obtain ⟨hB, v, lr, hb, hown, hne⟩ := h
  refine ⟨hB, v, lr, hk b _ hb (.inl rfl), ⟨hown.1, ?_⟩, hne⟩
  rcases hown.2 with hn | ⟨g, cap, cur, hv, hbg, hg, rest⟩
  · exact .inl hn
  · exact .inr ⟨g, cap, cur, hv, hbg, hk g _ hg (.inr ⟨_, _, rfl⟩), rest⟩
theorem Buf.block {w : World} {B b : Nat} {l : List UInt8} (h : Buf w B b l) : ∃ v lr, w.heap[b]? = some (.cells #[v, .int .i64 0, .int .i8 lr] 59 (0, 0)) := by
  obtain ⟨hB, v, lr, hb, _⟩ := h
  exact ⟨v, lr, hb⟩
/-- Another buffer's struct has turned. -/
theorem Buf.lone {w w' : World} {B b : Nat} {l : List UInt8} (h : Buf w B b l) {b' : Nat} (hl : Lone b' w w') (hne : b' ≠ b) {c : Array Value} {t : TypeId} {fz : Nat × Nat} (ht : w.heap[b']? = some (.cells c t fz)) (h5 : t ≠ 5) : Buf w' B b l := by
  refine h.carry fun k o hk ho => ?_
  rw [hl.others k ?_, hk]
  rintro rfl
  rcases ho with rfl | ⟨c', fz', rfl⟩
  · exact hne rfl
  · rw [ht] at hk
    injection hk with hk
    injection hk with _ h2
    exact h5 h2

theorem len_any (b : Nat) (A : Option Addr) (n c : Nat) (lr : Value) (w : World) (hb : w.heap[b]? = some (.cells #[.slice A n c, .int .i64 0, lr] 59 (0, 0))) (hn : n ≤ 9223372036854775807) :
    Calls Tryd.prog 82 #[.pointer (some ⟨b, 0, none⟩)] w fun e w' => e = .returned (.int .i64 n) ∧ ∃ q, w' = w.drewN q := by
  have c0 : w.cell? ⟨b, 0, none⟩ = some (.slice A n c) := by rw [Lib.cell_of_heap hb]; rfl
  have c1 : w.cell? ⟨b, 1, none⟩ = some (.int .i64 0) := by rw [Lib.cell_of_heap hb]; rfl
  have d0 : ∀ q, (w.drewN q).cell? ⟨b, 0, none⟩ = some (.slice A n c) := fun q => c0
  have d1 : ∀ q, (w.drewN q).cell? ⟨b, 1, none⟩ = some (.int .i64 0) := fun q => c1
  go_enter Tryd.func82, Tryd.ntmps82
  go_wp2
  go_quiet (fail)
  go_wp2
  go_ret
  exact ⟨rfl, _, rfl⟩

theorem reset_any (b g n c : Nat) (off lr : Value) (w : World) (hb : w.heap[b]? = some (.cells #[.slice (some ⟨g, 0, none⟩) n c, off, lr] 59 (0, 0))) (hn : n ≤ c) (hc : c ≤ 9223372036854775807) :
    Calls Tryd.prog 83 #[.pointer (some ⟨b, 0, none⟩)] w fun e w' => e = .returned (.tuple #[]) ∧ Lone b w w' := by
  have c0 : w.cell? ⟨b, 0, none⟩ = some (.slice (some ⟨g, 0, none⟩) n c) := by rw [Lib.cell_of_heap hb]; rfl
  have c1 : w.cell? ⟨b, 1, none⟩ = some off := by rw [Lib.cell_of_heap hb]; rfl
  have c2 : w.cell? ⟨b, 2, none⟩ = some lr := by rw [Lib.cell_of_heap hb]; rfl
  have f0 : w.frozen? ⟨b, 0, none⟩ = false := Lib.frozen_of_heap hb 0
  have f1 : w.frozen? ⟨b, 1, none⟩ = false := Lib.frozen_of_heap hb 1
  have f2 : w.frozen? ⟨b, 2, none⟩ = false := Lib.frozen_of_heap hb 2
  go_enter Tryd.func83, Tryd.ntmps83
  go_wp2
  go_end0
  exact ⟨rfl, (((Lone.refl b w).setCell 0 _).setCell 1 _).setCell 2 _⟩
end Go.Proofs.YtklkgddldndmmaaDoor
