/- The walk of impl.header. -/
import Derived.Test.YtklkgddldndmmaaDoorOldA
import Derived.Test.YtklkgddldndmmaaDoorHeadQ
import Derived.Test.YtklkgddldndmmaaDoorSets
import Derived.Deep.RegionLaw
namespace Go.Proofs.YtklkgddldndmmaaDoor
open Go.RowKit
set_option linter.unusedVariables false
set_option linter.unusedSimpArgs false

/-- A []Header that reads as a list of keys, each with its values. -/
def RdH (w : World) (B : Nat) (A : Option Addr) (n : Nat) (hs : List (ByteArray × List ByteArray)) : Prop :=
  hs.length = n ∧ (0 < n → ∃ b o, A = some ⟨b, o, none⟩ ∧ b < B ∧ ∀ (i : Nat) h, hs[i]? = some h → w.cell? ⟨b, o + i * 2, none⟩ = some (.string h.1) ∧
    ∃ Av nv cv, w.cell? ⟨b, o + i * 2 + 1, none⟩ = some (.slice Av nv cv) ∧ Rd w B 1 Av nv (h.2.map Value.string))

/-- 'append(nil, vals...)' of strings, as a step. -/
theorem step_append_nil9 {ops : Array Oper} {o : Oper} {a : Act} {K : Act → World → Prop} {Q : Exit → Act → World → Prop} {E : Prop} (mb n : Nat) (D : DataW Unit) (w W : World) (hgd : o.guard = none) (s x : Operand) (ho : o.op = .call { callee := .builtin .append, args := #[s, x], argTypes := #[23, 23] })
    (hB : Below w.heap.size w W) (hm : HMap mb D n W) (hs : a.eval s = .slice none 0 0) (B : Nat) (A : Option Addr) (m c : Nat) (ss : List ByteArray) (hx : a.eval x = .slice A m c) (hr : Rd w B 1 A m (ss.map Value.string)) (hBw : B ≤ w.heap.size) (hm0 : 0 < m) (hmm : m ≤ 1000000)
    (h : ∀ g c' W', Below w.heap.size w W' → w.heap.size ≤ g → (∀ j u, (ss.map Value.string)[j]? = some u → W'.cell? ⟨g, 0 + j, none⟩ = some u) → HMap mb D n W' → K (a.put o.dst (.slice (some ⟨g, 0, none⟩) m c')) W') : if Region.wanted o (yielded ops a.tmps) = true then Oper.wp Tryd.prog o a W K Q else E := by
  rw [if_pos (by simp [Region.wanted, hgd])]
  obtain ⟨i9, hi9, hb0, hb1, hb2⟩ := info_parts info9
  refine wp_append_any W s x 23 ho w.heap.size 9 i9 (.string ⟨#[]⟩) 1 16 Tryd.underlying23 hi9 hb0 hb1 hb2 rfl (by decide) _ 0 [] hs (World.ownsRow_nil _ _ _ _) w.heap.size A m c (ss.map Value.string) hx ((hr.more hBw).below hB) (by intro u hu; obtain ⟨_, _, rfl⟩ := List.mem_map.1 hu; rfl) (by unfold maxLen; omega) (by omega) hB.size ?_
  intro A' c' W' hown hgrow hlie
  rw [Nat.zero_add] at hown ⊢
  rw [List.nil_append] at hown
  obtain ⟨g, cap, hv, _, _⟩ := hown.form hm0
  injection hv with h1 _ _
  subst h1
  have hg : w.heap.size ≤ g := by
    rcases hown.2 with ⟨hv, _⟩ | ⟨g', cap, cur, hv, hg, _⟩
    · cases hv
    · cases hv
      exact hg
  refine h g c' W' (hB.grown hgrow hB.size (fun j hj => by cases hj)) hg (fun j u hu => ?_) (World.ownsMap.kept hm hgrow (by simp [Value.ownBlock]))
  have := hown.cells (g := g) rfl j u hu
  rwa [Addr.add_lit] at this

/-- What holds of the map and of the rows of values behind k keys. -/
structure HInv (W0 : World) (mb : Nat) (hs : List (ByteArray × List ByteArray)) (k : Nat) (gs : List (Nat × Nat)) (w : World) : Prop where
  below : Below W0.heap.size W0 w
  len : gs.length = k
  map : HMap mb (.map (ents (hs.take k) gs)) k w
  rows : ∀ (i : Nat) h g, hs[i]? = some h → gs[i]? = some g → ∀ j u, (h.2.map Value.string)[j]? = some u → w.cell? ⟨g.1, 0 + j, none⟩ = some u

theorem cell_lt' {w : World} {a : Addr} {v : Value} (h : w.cell? a = some v) : a.block < w.heap.size := by
  rcases Nat.lt_or_ge a.block w.heap.size with h' | h'
  · exact h'
  · simp [World.cell?, Array.getElem?_eq_none h'] at h
theorem HMap.below {mb n : Nat} {D : DataW Unit} {w w' : World} (h : HMap mb D n w) (hb : Below w.heap.size w w') : HMap mb D n w' := by
  have hlt := World.ownsMap.lt h
  obtain ⟨es, clock, hbk, F, hs, hD⟩ := h
  exact ⟨es, clock, (hb.block mb hlt).trans hbk, F, hs, hD⟩
section
variable {W0 w w' : World} {mb k : Nat} {hs : List (ByteArray × List ByteArray)} {gs : List (Nat × Nat)}
theorem HInv.keep (h : HInv W0 mb hs k gs w) (hb : Below w.heap.size w w') : HInv W0 mb hs k gs w' :=
  ⟨h.below.trans (hb.mono h.below.size), h.len, h.map.below hb, fun i x g hx hg j u hu => by
    have hc := h.rows i x g hx hg j u hu
    exact (hb.cell (cell_lt' hc)).trans hc⟩
theorem HInv.put (h : HInv W0 mb hs k gs w) {x : ByteArray × List ByteArray} (hx : hs[k]? = some x) (hasc : ∀ (i : Nat) y, i < k → hs[i]? = some y → y.1.data.toList < x.1.data.toList) (hsz : x.1.size ≤ maxLen) (hk : k < maxLen) {g c : Nat}
    (hrow : ∀ j u, (x.2.map Value.string)[j]? = some u → w.cell? ⟨g, 0 + j, none⟩ = some u) (hmb : W0.heap.size ≤ mb) :
    (Instr.mapUpdate 72 (.map (some mb)) (.string x.1) (.slice (some ⟨g, 0, none⟩) x.2.length c)).run Tryd.prog w = .ok () (putW mb x.1 (.slice (some ⟨g, 0, none⟩) x.2.length c) w) ∧
    HInv W0 mb hs (k + 1) (gs ++ [(g, c)]) (putW mb x.1 (.slice (some ⟨g, 0, none⟩) x.2.length c) w) := by
  have hkl : k < hs.length := (List.getElem?_eq_some_iff.1 hx).1
  have hkeys : ∀ p ∈ ents (hs.take k) gs, ∃ y : ByteArray × List ByteArray, p.1 = .string y.1.data.toList ∧ y.1.data.toList < x.1.data.toList := by
    intro p hp
    obtain ⟨y, hy, e⟩ := ents_mem hp
    obtain ⟨i, hi⟩ := List.getElem?_of_mem hy
    rw [List.getElem?_take] at hi
    split at hi
    · rename_i hik
      exact ⟨y, e, hasc i y hik hi⟩
    · cases hi
  obtain ⟨hrun, hm, hg⟩ := hmap_update (g := g) (m := x.2.length) (c := c) (key := x.1) h.map (fun p hp => by obtain ⟨y, e, hlt⟩ := hkeys p hp; rw [e]; exact (key_last hlt).2) (fun p hp => by obtain ⟨y, e, hlt⟩ := hkeys p hp; rw [e]; exact (key_last hlt).1) hsz hk
  have htk : hs.take (k + 1) = hs.take k ++ [x] := by
    rw [List.take_succ_eq_append_getElem hkl]
    rw [List.getElem?_eq_getElem hkl] at hx
    rw [Option.some.inj hx]
  have hcells : ∀ (a : Addr) v, w.cell? a = some v → (putW mb x.1 (.slice (some ⟨g, 0, none⟩) x.2.length c) w).cell? a = some v := by
    intro a v hc
    rw [← hc]
    refine World.cell?_of_block (hg.block a.block (cell_lt' hc) fun e => ?_)
    obtain ⟨es, clock, hbk, _⟩ := h.map
    have hab : a.block = mb := Option.some.inj e
    simp [World.cell?, hab, hbk] at hc
  refine ⟨hrun, h.below.grown hg h.below.size (fun j hj => by obtain rfl := Option.some.inj hj; exact hmb), by simp [h.len], ?_, ?_⟩
  · rw [htk, ents_snoc _ _ _ _ (by rw [List.length_take, h.len]; omega)]
    exact hm
  · intro i y g' hy hg' j u hu
    by_cases hik : i < k
    · rw [List.getElem?_append_left (by rw [h.len]; exact hik)] at hg'
      exact hcells _ _ (h.rows i y g' hy hg' j u hu)
    · have hik' : i = k := by
        have := (List.getElem?_eq_some_iff.1 hg').1
        simp [h.len] at this
        omega
      subst hik'
      rw [List.getElem?_append_right (by rw [h.len]; exact Nat.le_refl _)] at hg'
      simp [h.len] at hg'
      subst hg'
      rw [hx] at hy
      obtain rfl := Option.some.inj hy
      exact hcells _ _ (hrow j u hu)
end

end Go.Proofs.YtklkgddldndmmaaDoor
