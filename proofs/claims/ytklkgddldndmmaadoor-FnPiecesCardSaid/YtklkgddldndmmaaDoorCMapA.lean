/- What CreatePart needs of a header's map, and what holds while it writes the header's lines. -/
import Derived.Test.YtklkgddldndmmaaDoorCMapP
import Derived.Test.YtklkgddldndmmaaDoorNilB
namespace Go.Proofs.YtklkgddldndmmaaDoor
open Go.RowKit
set_option linter.unusedVariables false
set_option linter.unusedSimpArgs false

/-- A header's map as CreatePart meets it. -/
structure HOk (mb : Nat) (hs : List (ByteArray × List ByteArray)) (n : Nat) (gs : List (Nat × Nat)) (w : World) : Prop where
  map : HMap mb (.map (ents hs gs)) n w
  len : hs.length = n ∧ gs.length = n
  rows : ∀ (i : Nat) h g, hs[i]? = some h → gs[i]? = some g → ∀ (j : Nat) v, h.2[j]? = some v → w.cell? ⟨g.1, j, none⟩ = some (.string v)

theorem HInv.ok {W0 w : World} {mb n : Nat} {hs : List (ByteArray × List ByteArray)} {gs : List (Nat × Nat)} (h : HInv W0 mb hs n gs w) (hl : hs.length = n) : HOk mb hs n gs w := by
  have hm := h.map
  rw [List.take_of_length_le (by omega)] at hm
  refine ⟨hm, ⟨hl, h.len⟩, fun i x g hx hg j v hv => ?_⟩
  have := h.rows i x g hx hg j (.string v) (by rw [List.getElem?_map, hv]; rfl)
  rwa [Nat.zero_add] at this
section
variable {mb n : Nat} {hs : List (ByteArray × List ByteArray)} {gs : List (Nat × Nat)} {w w' : World}
theorem HOk.below (h : HOk mb hs n gs w) (hb : Below w.heap.size w w') : HOk mb hs n gs w' :=
  ⟨h.map.below hb, h.len, fun i x g hx hg j v hv => by
    have hc := h.rows i x g hx hg j v hv
    exact (hb.cell (cell_lt' hc)).trans hc⟩
theorem HOk.ptSet (h : HOk mb hs n gs w) {p b : Nat} {cl : Bool} (hp : Pt w p b cl) (v : Value) : HOk mb hs n gs (w.setCell ⟨p, 1, none⟩ v) := by
  refine ⟨?_, h.len, fun i x g hx hg j u hu => ?_⟩
  · have hm := h.map
    unfold HMap at hm ⊢
    obtain ⟨es, clock, hbk, F, hs', hD⟩ := hm
    refine ⟨es, clock, ?_, F, hs', hD⟩
    rw [← hbk]
    show (w.heap.modify p _)[mb]? = _
    rw [Array.getElem?_modify]
    rw [if_neg]
    rintro rfl
    unfold Pt at hp
    rw [hbk] at hp
    cases hp
  · have hc := h.rows i x g hx hg j u hu
    rw [← hc]
    refine World.cell?_setCell_other w _ _ v fun e => ?_
    have e' : (⟨p, 1, none⟩ : Addr) = ⟨g.1, j, none⟩ := by first | exact e | exact e.symm
    rw [← e', hp.c1] at hc
    cases hc
end

/-- What holds while CreatePart writes the lines. -/
structure CInv (w1 : World) (tb : Nat) (t : List UInt8) (A : Option Addr) (n : Nat) (hs : List (ByteArray × List ByteArray)) (wr : World) : Prop where
  buf : Buf wr tb tb t
  below : Below tb w1 wr
  keys : KeysAt wr A n hs
theorem CInv.step {w1 wr w' : World} {tb n : Nat} {t t' : List UInt8} {A : Option Addr} {hs : List (ByteArray × List ByteArray)} (h : CInv w1 tb t A n hs wr) (h1 : Buf w' tb tb t') (h2 : Below tb wr w') (h3 : Kept (fun k => k = tb) wr w') : CInv w1 tb t' A n hs w' :=
  ⟨h1, h.below.trans h2, h.keys.keep h3 fun g c fz hg e => by
    obtain ⟨v, lr, hb⟩ := h.buf.block
    rw [e, hb] at hg
    injection hg with hg
    injection hg with _ hg
    cases hg⟩

theorem len_data (s : ByteArray) : s.data.toList.length = s.size := by simp
theorem keys_map (W : World) (mb : Nat) : Calls Tryd.prog 57 #[.map (some mb)] W fun e w' => e = .returned (.func (.func 76) #[] #[.pointer (some ⟨W.heap.size, 0, none⟩)]) ∧ w' = W.alloc (.cells #[.map (some mb)] 96) :=
  callsIn_wide.1 (Tryd.maps_Keys_57 (some mb) W)
end Go.Proofs.YtklkgddldndmmaaDoor
