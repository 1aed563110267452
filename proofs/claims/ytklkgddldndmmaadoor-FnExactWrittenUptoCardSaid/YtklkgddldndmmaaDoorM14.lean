/- Texts of the proof, joined: AddP, IdxP, ReadP. -/
import Derived.Test.YtklkgddldndmmaaDoorM12
import Derived.Test.YtklkgddldndmmaaDoorM13
import Derived.Test.YtklkgddldndmmaaDoorM08
import Derived.Lib.IndexMore
/- A header under way, to whose values at one place more are appended: what holds of the memory. -/
namespace Go.Proofs.YtklkgddldndmmaaDoor
open Go.RowKit
set_option linter.unusedVariables false
set_option linter.unusedSimpArgs false

/-- A block of values at rest. -/
def Rest (w0 w : World) (v : Value) (ab : Option Nat) (k : Nat) : Prop := w0.heap.size ≤ k ∧ k < w.heap.size ∧ v.ownBlock ≠ some k ∧ ab ≠ some k
/-- The values of a key: at rest, or those that are appended to. -/
def ValS (w0 w : World) (v : Value) (ab : Option Nat) (here : Prop) (Av : Option Addr) (nv cv : Nat) (ys : List ByteArray) : Prop :=
  (here → w.ownsRow w0.heap.size 9 1 (.slice Av nv cv) nv (ys.map Value.string) ∧ (Value.slice Av nv cv).ownBlock = ab) ∧ (¬ here → RdK w (Rest w0 w v ab) 1 Av nv (ys.map Value.string))
structure AddS (w0 w : World) (v : Value) (hs : HdrL) (act : Option Nat) (ab : Option Nat) : Prop where
  below : Below w0.heap.size w0 w
  apart : ∀ g, ab = some g → v.ownBlock ≠ some g ∧ w0.heap.size ≤ g ∧ g < w.heap.size
  row : ∃ xs, w.ownsRow w0.heap.size 81 2 v hs.length xs ∧ (∀ u ∈ xs, u.oneCell' = true) ∧ ∀ (i : Nat) h, hs[i]? = some h → xs[i * 2]? = some (.string h.1) ∧ ∃ Av nv cv, xs[i * 2 + 1]? = some (.slice Av nv cv) ∧ ValS w0 w v ab (act = some i) Av nv cv h.2

theorem AddS.nil (w : World) : AddS w w (.slice none 0 0) [] none none := ⟨Below.refl _ _, fun g h => (by cases h), [], World.ownsRow_nil _ _ _ _, fun u hu => by simp at hu, fun i h hi => by simp at hi⟩
section
variable {w0 w w' : World} {v : Value} {hs : HdrL} {act ab : Option Nat}
theorem AddS.own (h : AddS w0 w v hs act ab) {g : Nat} (hg : v.ownBlock = some g) : w0.heap.size ≤ g ∧ g < w.heap.size := by
  obtain ⟨xs, h1, _⟩ := h.row
  exact h1.lt g hg
theorem AddS.slice (h : AddS w0 w v hs act ab) : ∃ A c, v = .slice A hs.length c := by
  obtain ⟨xs, h1, _⟩ := h.row
  exact own_slice h1
theorem AddS.later (h : AddS w0 w v hs act ab) (hb : Below w.heap.size w w') : AddS w0 w' v hs act ab := by
  obtain ⟨xs, h1, h2, h3⟩ := h.row
  refine ⟨h.below.trans (hb.mono h.below.size), fun g hg => ⟨(h.apart g hg).1, (h.apart g hg).2.1, Nat.lt_of_lt_of_le (h.apart g hg).2.2 hb.size⟩, xs, own_carry h1 fun g hg => hb.block g (h1.lt g hg).2, h2, fun i x hx => ?_⟩
  obtain ⟨c0, Av, nv, cv, c1, hv⟩ := h3 i x hx
  refine ⟨c0, Av, nv, cv, c1, fun hi => ⟨own_carry (hv.1 hi).1 fun g hg => hb.block g ((hv.1 hi).1.lt g hg).2, (hv.1 hi).2⟩, fun hi => (hv.2 hi).keep (fun k hk => hb.block k hk.2.1) (fun k hk => ⟨hk.1, Nat.lt_of_lt_of_le hk.2.1 hb.size, hk.2.2⟩)⟩
/-- All values come to rest. -/
theorem AddS.settle (h : AddS w0 w v hs act ab) : AddS w0 w v hs none none := by
  obtain ⟨xs, h1, h2, h3⟩ := h.row
  refine ⟨h.below, fun g hg => (by cases hg), xs, h1, h2, fun i x hx => ?_⟩
  obtain ⟨c0, Av, nv, cv, c1, hv⟩ := h3 i x hx
  refine ⟨c0, Av, nv, cv, c1, fun hi => (by cases hi), fun _ => ?_⟩
  by_cases ha : act = some i
  · obtain ⟨ho, hb⟩ := hv.1 ha
    refine ⟨ho.1, fun hn => ?_⟩
    obtain ⟨b, o, rfl, hlt, hc⟩ := (Rd.of_own ho).2 hn
    have hbb : ab = some b := by
      obtain ⟨g, cap, e, _⟩ := ho.form hn
      injection e with e _ _
      injection e with e
      injection e with e1 e2
      subst e2
      rw [← hb]
      rfl
    obtain ⟨a1, a2, a3⟩ := h.apart b hbb
    exact ⟨b, o, rfl, ⟨a2, a3, a1, by simp⟩, hc⟩
  · exact (hv.2 ha).keep (fun k hk => rfl) (fun k hk => ⟨hk.1, hk.2.1, hk.2.2.1, by simp⟩)
/-- What it reads as: blocks made since w0. -/
theorem AddS.rdhk {A : Option Addr} {n c : Nat} (h : AddS w0 w (.slice A n c) hs act ab) {S : Nat → Prop} (hS : ∀ k, w0.heap.size ≤ k → k < w.heap.size → S k) : hs.length = n ∧ RdHK w S A n hs := by
  obtain ⟨xs, h1, h2, h3⟩ := h.settle.row
  have hn : hs.length = n := by
    obtain ⟨A', c', e⟩ := own_slice h1
    injection e with _ e _
    exact e.symm
  rw [hn] at h1
  refine ⟨hn, hn, fun h0 => ?_⟩
  obtain ⟨b, o, rfl, hb, hc⟩ := (Rd.of_own h1).2 h0
  obtain ⟨g, cap, e, hg, hlt⟩ := h1.form h0
  injection e with e _ _
  injection e with e
  injection e with e1 e2
  subst e1 e2
  refine ⟨b, 0, rfl, hS b (h1.lt b rfl).1 hb, fun i x hx => ?_⟩
  obtain ⟨c0, Av, nv, cv, c1, hv⟩ := h3 i x hx
  exact ⟨hc _ _ c0, Av, nv, cv, by rw [Nat.add_assoc]; exact hc _ _ c1, (hv.2 (by simp)).keep (fun k hk => rfl) (fun k hk => hS k hk.1 hk.2.1)⟩
/-- The key at a place. -/
theorem AddS.key {A : Option Addr} {n c : Nat} (h : AddS w0 w (.slice A n c) hs act ab) (hn : hs.length = n) {j : Nat} {x : ByteArray × List ByteArray} (hx : hs[j]? = some x) : ∃ g, A = some ⟨g, 0, none⟩ ∧ w.cell? ⟨g, j * 2, none⟩ = some (.string x.1) := by
  obtain ⟨xs, h1, h2, h3⟩ := h.row
  have hj := (List.getElem?_eq_some_iff.1 hx).1
  obtain ⟨g, cap, hv, _⟩ := h1.form (by omega)
  injection hv with hA _ _
  subst hA
  refine ⟨g, rfl, ?_⟩
  have := h1.cells (g := g) rfl (j * 2) _ (h3 j x hx).1
  rwa [Addr.add_lit, Nat.zero_add] at this
theorem AddS.ne (h : AddS w0 w v hs act ab) : v.ownBlock ≠ some w.heap.size := fun e => by
  have := (h.own e).2
  omega
/-- A new key is put in. -/
theorem AddS.ins {i vb : Nat} {kk : ByteArray} (h : AddS w0 w v hs act ab) (hi : i ≤ hs.length) (hn : hs.length ≤ 1000) (hvb : w.heap[vb]? = some (.cells #[.string kk, .slice none 0 0] 81 (0, 0))) (hne : v.ownBlock ≠ some vb) :
    Calls Tryd.prog 71 #[v, .int .i64 i, .slice (some ⟨vb, 0, none⟩) 1 1] w fun e w' => ∃ v', e = .returned v' ∧ AddS w0 w' v' (insAt hs i (kk, [])) (some i) none := by
  obtain ⟨xs, h1, h2, h3⟩ := h.settle.row
  refine (insert_any w0.heap.size hs.length i vb v _ _ xs w h1 h2 hi hn hvb hne ⟨rfl, rfl⟩ h.below.size).mono ?_
  rintro e w' ⟨v', rfl, hown, hgrow, hlie⟩
  have hb : Below w0.heap.size w w' := (Below.refl w0.heap.size w).grown hgrow h.below.size (fun j hj => (h1.lt j hj).1)
  have hl := h1.1
  have ht : (xs.take (i * 2)).length = i * 2 := by rw [List.length_take]; omega
  have ht2 : (hs.take i).length = i := by rw [List.length_take]; omega
  have hold : ∀ Av nv (ys : List ByteArray), RdK w (Rest w0 w v none) 1 Av nv (ys.map Value.string) → RdK w' (Rest w0 w' v' none) 1 Av nv (ys.map Value.string) := fun Av nv ys hr =>
    hr.keep (fun k hk => hgrow.block k hk.2.1 (fun e => hk.2.2.1 e.symm)) (fun k hk => ⟨hk.1, Nat.lt_of_lt_of_le hk.2.1 hgrow.size, fun e => by
      rcases hlie with e2 | e2
      · exact hk.2.2.1 (e2.symm.trans e)
      · have := Option.some.inj (e2.symm.trans e)
        have := hk.2.1
        omega, by simp⟩)
  refine ⟨v', rfl, h.below.trans hb, fun g hg => (by cases hg), _, by rw [insAt_len _ _ _ hi]; exact hown, fun u hu => ?_, fun j y hy => ?_⟩
  · rcases List.mem_append.1 hu with hu | hu
    · rcases List.mem_append.1 hu with hu | hu
      · exact h2 u (List.mem_of_mem_take hu)
      · simp only [List.mem_cons, List.not_mem_nil, or_false] at hu
        rcases hu with rfl | rfl <;> rfl
    · exact h2 u (List.mem_of_mem_drop hu)
  · unfold insAt at hy
    rw [List.append_assoc] at hy ⊢
    by_cases q1 : j < i
    · rw [List.getElem?_append_left (by omega), List.getElem?_take, if_pos q1] at hy
      obtain ⟨c0, A', n', c', c1, hr'⟩ := h3 j y hy
      refine ⟨?_, A', n', c', ?_, fun e => absurd (Option.some.inj e) (by omega), fun _ => hold _ _ _ (hr'.2 (by simp))⟩
      · rw [List.getElem?_append_left (by omega), List.getElem?_take, if_pos (by omega)]; exact c0
      · rw [List.getElem?_append_left (by omega), List.getElem?_take, if_pos (by omega)]; exact c1
    · rw [List.getElem?_append_right (by omega), ht2] at hy
      by_cases q2 : j = i
      · subst q2
        rw [Nat.sub_self] at hy
        simp at hy
        subst hy
        refine ⟨?_, none, 0, 0, ?_, fun _ => ⟨World.ownsRow_nil _ _ _ _, rfl⟩, fun e => absurd rfl e⟩
        · rw [List.getElem?_append_right (by omega), ht, Nat.sub_self]; rfl
        · rw [List.getElem?_append_right (by omega), ht, show j * 2 + 1 - j * 2 = 1 by omega]; rfl
      · obtain ⟨d, rfl⟩ : ∃ d, j = i + (d + 1) := ⟨j - i - 1, by omega⟩
        rw [show i + (d + 1) - i = d + 1 by omega] at hy
        simp only [List.singleton_append, List.getElem?_cons_succ, List.getElem?_drop] at hy
        obtain ⟨c0, A', n', c', c1, hr'⟩ := h3 (i + d) y hy
        refine ⟨?_, A', n', c', ?_, fun e => absurd (Option.some.inj e) (by omega), fun _ => hold _ _ _ (hr'.2 (by simp))⟩
        · rw [List.getElem?_append_right (by omega), ht, show (i + (d + 1)) * 2 - i * 2 = d * 2 + 1 + 1 by omega]
          simp only [List.cons_append, List.nil_append, List.getElem?_cons_succ, List.getElem?_drop]
          rw [show i * 2 + d * 2 = (i + d) * 2 by omega]
          exact c0
        · rw [List.getElem?_append_right (by omega), ht, show (i + (d + 1)) * 2 + 1 - i * 2 = d * 2 + 1 + 1 + 1 by omega]
          simp only [List.cons_append, List.nil_append, List.getElem?_cons_succ, List.getElem?_drop]
          rw [show i * 2 + (d * 2 + 1) = (i + d) * 2 + 1 by omega]
          exact c1
/-- The place that is appended to: its cell, its values. -/
theorem AddS.at_ {i : Nat} {x : ByteArray × List ByteArray} (h : AddS w0 w v hs (some i) ab) (hx : hs[i]? = some x) : ∃ g c Av nv cv, v = .slice (some ⟨g, 0, none⟩) hs.length c ∧ w.cell? ⟨g, i * 2 + 1, none⟩ = some (.slice Av nv cv) ∧ w.frozen? ⟨g, i * 2 + 1, none⟩ = false ∧ w.ownsRow w0.heap.size 9 1 (.slice Av nv cv) nv (x.2.map Value.string) ∧ (Value.slice Av nv cv).ownBlock = ab ∧ x.2.length = nv := by
  obtain ⟨xs, h1, h2, h3⟩ := h.row
  have hj := (List.getElem?_eq_some_iff.1 hx).1
  obtain ⟨c0, Av, nv, cv, c1, hv⟩ := h3 i x hx
  obtain ⟨ho, hb⟩ := hv.1 rfl
  obtain ⟨g, cap, rfl, _⟩ := h1.form (by omega)
  have hc := h1.cells (g := g) rfl (i * 2 + 1) _ c1
  rw [Addr.add_lit, Nat.zero_add] at hc
  exact ⟨g, cap, Av, nv, cv, rfl, hc, h1.frozenAt _, ho, hb, by have := ho.1; simpa using this⟩
/-- A value more. -/
theorem AddS.app {i g c nv' cv' : Nat} {Av' : Option Addr} {x : ByteArray × List ByteArray} {y : ByteArray} (h : AddS w0 w (.slice (some ⟨g, 0, none⟩) hs.length c) hs (some i) ab) (hx : hs[i]? = some x)
    (hown : w'.ownsRow w0.heap.size 9 1 (.slice Av' nv' cv') nv' ((x.2 ++ [y]).map Value.string)) (hgrow : w.grownBy w' ab) (hlie : (Value.slice Av' nv' cv').ownBlock = ab ∨ (Value.slice Av' nv' cv').ownBlock = some w.heap.size) :
    AddS w0 (w'.setCell ⟨g, i * 2 + 1, none⟩ (.slice Av' nv' cv')) (.slice (some ⟨g, 0, none⟩) hs.length c) (hs.set i (x.1, x.2 ++ [y])) (some i) (Value.slice Av' nv' cv').ownBlock := by
  obtain ⟨xs, h1, h2, h3⟩ := h.row
  have hj := (List.getElem?_eq_some_iff.1 hx).1
  have hl := h1.1
  have hog : (Value.slice (some ⟨g, 0, none⟩) hs.length c).ownBlock = some g := rfl
  have hgl := h1.lt g rfl
  have hga : ab ≠ some g := fun e => (h.apart g e).1 rfl
  have hgn : (Value.slice Av' nv' cv').ownBlock ≠ some g := fun e => by
    rcases hlie with e2 | e2
    · exact hga (e2.symm.trans e)
    · have := Option.some.inj (e2.symm.trans e)
      omega
  have h1' : w'.ownsRow w0.heap.size 81 2 (.slice (some ⟨g, 0, none⟩) hs.length c) hs.length xs := h1.kept hgrow (.inr (fun e => hga (e.symm.trans hog)))
  obtain ⟨s1, s2⟩ := h1'.stored (i * 2 + 1) (.slice Av' nv' cv')
  have hb1 : Below w0.heap.size w w' := (Below.refl w0.heap.size w).grown hgrow h.below.size (fun j hj => (h.apart j hj).2.1)
  have hsz : w0.heap.size ≤ w'.heap.size := Nat.le_trans h.below.size hgrow.size
  have hb2 : Below w0.heap.size w' (w'.setCell ⟨g, i * 2 + 1, none⟩ (.slice Av' nv' cv')) := (Below.refl w0.heap.size w').grown s2 hsz (fun j hj => by
    obtain rfl := Option.some.inj hj
    exact hgl.1)
  have hown3 := hown.kept s2 (.inr hgn)
  refine ⟨h.below.trans (hb1.trans hb2), fun k hk => ?_, _, by rw [List.length_set]; exact s1, fun u hu => ?_, fun j z hz => ?_⟩
  · refine ⟨fun e => hgn (hk.trans (e.symm.trans hog)), ?_⟩
    exact ⟨(hown3.lt k hk).1, (hown3.lt k hk).2⟩
  · rcases List.mem_or_eq_of_mem_set hu with hu | rfl
    · exact h2 u hu
    · rfl
  · by_cases hji : j = i
    · subst hji
      rw [List.getElem?_set_self hj] at hz
      obtain rfl := Option.some.inj hz
      refine ⟨?_, Av', nv', cv', ?_, fun _ => ⟨hown3, rfl⟩, fun e => absurd rfl e⟩
      · rw [List.getElem?_set_ne (by omega)]
        exact (h3 j x hx).1
      · rw [List.getElem?_set_self (by omega)]
    · rw [List.getElem?_set_ne (fun e => hji e.symm)] at hz
      obtain ⟨c0, A1, n1, d1, c1, hv⟩ := h3 j z hz
      refine ⟨?_, A1, n1, d1, ?_, fun e => absurd (Option.some.inj e).symm hji, fun _ => ?_⟩
      · rw [List.getElem?_set_ne (by omega)]; exact c0
      · rw [List.getElem?_set_ne (by omega)]; exact c1
      · refine (hv.2 (fun e => hji (Option.some.inj e).symm)).keep (fun k hk => ?_) (fun k hk => ⟨hk.1, ?_, hk.2.2.1, fun e => ?_⟩)
        · rw [s2.block k (Nat.lt_of_lt_of_le hk.2.1 hgrow.size) (fun e => hk.2.2.1 (hog.trans e.symm)), hgrow.block k hk.2.1 (fun e => hk.2.2.2 e.symm)]
        · exact Nat.lt_of_lt_of_le hk.2.1 (Nat.le_trans hgrow.size s2.size)
        · rcases hlie with e2 | e2
          · exact hk.2.2.2 (e2.symm.trans e)
          · have := Option.some.inj (e2.symm.trans e)
            have := hk.2.1
            omega
/-- Behind the append, ahead of the store: the cell still stands. -/
theorem AddS.mid {i g c : Nat} {x : ByteArray × List ByteArray} (h : AddS w0 w (.slice (some ⟨g, 0, none⟩) hs.length c) hs (some i) ab) (hx : hs[i]? = some x) (hgrow : w.grownBy w' ab) : (∃ u, w'.cell? ⟨g, i * 2 + 1, none⟩ = some u) ∧ w'.frozen? ⟨g, i * 2 + 1, none⟩ = false := by
  obtain ⟨xs, h1, h2, h3⟩ := h.row
  obtain ⟨c0, Av, nv, cv, c1, hv⟩ := h3 i x hx
  have h1' : w'.ownsRow w0.heap.size 81 2 (.slice (some ⟨g, 0, none⟩) hs.length c) hs.length xs := h1.kept hgrow (.inr (fun e => (h.apart g e.symm).1 rfl))
  have hc := h1'.cells (g := g) rfl (i * 2 + 1) _ c1
  rw [Addr.add_lit, Nat.zero_add] at hc
  exact ⟨⟨_, hc⟩, h1'.frozenAt _⟩
end

end Go.Proofs.YtklkgddldndmmaaDoor

/- Where a line ends, where a key ends, where a body ends: plain laws of the first place of a sublist. -/
namespace Go.Proofs.YtklkgddldndmmaaDoor
open Go.RowKit
set_option linter.unusedVariables false
set_option linter.unusedSimpArgs false

theorem idx_hit {a p t : List UInt8} (h : ∀ j, j < a.length → p.isPrefixOf ((a ++ p ++ t).drop j) = false) : Lib.index (a ++ p ++ t) p = (a.length : Int) := by
  refine Lib.index_hit (i := a.length) (fun j hj => h j hj) (by simp) ?_
  unfold Lib.occAt
  rw [List.append_assoc, List.drop_left, List.isPrefixOf_iff_prefix]
  exact List.prefix_append _ _
theorem idx_first {a q t : List UInt8} {c : UInt8} (h : c ∉ a) : Lib.index (a ++ (c :: q) ++ t) (c :: q) = (a.length : Int) := by
  refine idx_hit fun j hj => ?_
  have e : (a ++ (c :: q) ++ t).drop j = a[j] :: (a ++ (c :: q) ++ t).drop (j + 1) := by
    rw [List.drop_eq_getElem_cons (by simp; omega)]
    congr 1
    rw [List.getElem_append_left (by simp; omega), List.getElem_append_left hj]
  rw [e]
  have hc : (c == a[j]) = false := by
    rw [beq_eq_false_iff_ne]
    intro he
    exact h (he ▸ List.getElem_mem hj)
  simp [List.isPrefixOf, hc]
/-- The end of a body: the line break ahead of the next delimiter. -/
theorem idx_body {l q t : List UInt8} {c : UInt8} (hq : c ∉ q) (hl : Lib.index l q < 0) : Lib.index (l ++ (c :: q) ++ t) (c :: q) = (l.length : Int) := by
  refine idx_hit fun j hj => ?_
  rw [Bool.eq_false_iff]
  intro hp
  rw [List.isPrefixOf_iff_prefix] at hp
  obtain ⟨r, hr⟩ := hp
  have hget : ∀ i, i < (c :: q).length → (l ++ (c :: q) ++ t)[j + i]? = (c :: q)[i]? := fun i hi => by
    rw [← List.getElem?_drop, ← hr, List.getElem?_append_left hi]
  by_cases hs : l.length - j < (c :: q).length
  · have h1 := hget (l.length - j) hs
    rw [show j + (l.length - j) = l.length by omega, List.append_assoc, List.getElem?_append_right (Nat.le_refl _), Nat.sub_self] at h1
    obtain ⟨m, hm⟩ : ∃ m, l.length - j = m + 1 := ⟨l.length - j - 1, by omega⟩
    rw [hm] at h1
    simp at h1
    exact hq (List.mem_of_getElem? h1.symm)
  · have hs' : (c :: q).length ≤ l.length - j := Nat.le_of_not_lt hs
    simp only [List.length_cons] at hs'
    have hocc : Lib.occAt l q (j + 1) = true := by
      unfold Lib.occAt
      rw [List.isPrefixOf_iff_prefix]
      refine ⟨(l.drop (j + 1)).drop q.length, ?_⟩
      refine List.ext_getElem? fun i => ?_
      by_cases hi : i < q.length
      · have h1 := hget (i + 1) (by simp; omega)
        rw [List.append_assoc, List.getElem?_append_left (by omega)] at h1
        rw [List.getElem?_append_left hi, List.getElem?_drop, show j + 1 + i = j + (i + 1) by omega, h1, List.getElem?_cons_succ]
      · rw [List.getElem?_append_right (by omega), List.getElem?_drop, List.getElem?_drop, List.getElem?_drop]
        congr 1
        omega
    rcases Lib.index_spec l q with ⟨_, h2⟩ | ⟨i, h2, _⟩
    · rw [h2 (j + 1) (by omega)] at hocc
      cases hocc
    · omega

theorem key_no {l : List UInt8} (h : keyB l = true) {c : UInt8} (hc : tokB c = false) : c ∉ l := fun hm => by
  unfold keyB at h
  rw [Bool.and_eq_true, List.all_eq_true] at h
  rw [h.1 c hm] at hc
  cases hc
theorem plain_no {l : List UInt8} (h : plainB l = true) {c : UInt8} (hc : c.toNat < 32) : c ∉ l := fun hm => by
  unfold plainB at h
  rw [Bool.and_eq_true] at h
  have h1 := h.1
  unfold printB at h1
  rw [List.all_eq_true] at h1
  have h2 := h1 c hm
  rw [Bool.and_eq_true, decide_eq_true_eq] at h2
  omega
theorem bound_no {l : List UInt8} (h : boundB l = true) {c : UInt8} (hc : okB c = false) : c ∉ l := fun hm => by
  unfold boundB at h
  rw [Bool.and_eq_true, Bool.and_eq_true, Bool.and_eq_true, List.all_eq_true] at h
  rw [h.1.1.1 c hm] at hc
  cases hc

/-- A line of a header, without its line break. -/
def rowT (k v : List UInt8) : List UInt8 := k ++ colon ++ v
theorem rowT_len (k v : List UInt8) : (rowT k v).length = k.length + 2 + v.length := by simp [rowT, colon]; omega
theorem rowT_end {k v : List UInt8} (hk : keyB k = true) (hv : plainB v = true) (t : List UInt8) : Lib.index (rowT k v ++ [13, 10] ++ t) [13, 10] = ((rowT k v).length : Int) := by
  refine idx_first fun h => ?_
  unfold rowT at h
  rcases List.mem_append.1 h with h | h
  · rcases List.mem_append.1 h with h | h
    · exact key_no hk (by decide) h
    · simp [colon] at h
  · exact plain_no hv (by decide) h
theorem rowT_key {k v : List UInt8} (hk : keyB k = true) : Lib.index (rowT k v) [58, 32] = (k.length : Int) := idx_first (key_no hk (by decide))
theorem none_end (t : List UInt8) : Lib.index ([13, 10] ++ t) [13, 10] = ((0 : Nat) : Int) := idx_first (a := []) (by simp)
theorem delim_end {bd : List UInt8} (hb : boundB bd = true) (x t : List UInt8) (hx : x = [] ∨ x = [45, 45]) : Lib.index ([45, 45] ++ bd ++ x ++ [13, 10] ++ t) [13, 10] = (([45, 45] ++ bd ++ x).length : Int) := by
  refine idx_first fun h => ?_
  rcases List.mem_append.1 h with h | h
  · rcases List.mem_append.1 h with h | h
    · simp at h
    · exact bound_no hb (by decide) h
  · rcases hx with rfl | rfl <;> simp at h
theorem body_end {bd l : List UInt8} (hb : boundB bd = true) (hf : freeB l bd = true) (t : List UInt8) : Lib.index (l ++ (13 :: 10 :: 45 :: 45 :: bd) ++ t) (13 :: 10 :: 45 :: 45 :: bd) = (l.length : Int) := by
  refine idx_body (fun h => ?_) ?_
  · simp only [List.mem_cons] at h
    rcases h with h | h | h | h
    · exact absurd h (by decide)
    · exact absurd h (by decide)
    · exact absurd h (by decide)
    · exact bound_no hb (by decide) h
  · unfold freeB at hf
    rw [Bool.and_eq_true, decide_eq_true_eq] at hf
    exact hf.2

end Go.Proofs.YtklkgddldndmmaaDoor

/- A header read line by line is the header in canonical form: the plain law. -/
namespace Go.Proofs.YtklkgddldndmmaaDoor
open Go.RowKit
set_option linter.unusedVariables false
set_option linter.unusedSimpArgs false

abbrev PairB := ByteArray × ByteArray
def pairsH (hs : HdrL) : List PairB := hs.flatMap fun h => h.2.map fun y => (h.1, y)
def pairsT (ls : List PairB) : List UInt8 := ls.flatMap fun p => rowT p.1.data.toList p.2.data.toList ++ [13, 10]
theorem pairsT_head (hs : HdrL) : pairsT (pairsH hs) = headT hs := by
  unfold pairsT pairsH headT linesT
  rw [List.flatMap_assoc]
  congr 1
  funext h
  rw [List.flatMap_map]
  rfl
theorem pairsH_len : ∀ hs : HdrL, (pairsH hs).length = (hs.map fun h => h.2.length).sum
  | [] => rfl
  | h :: r => by
    have ih := pairsH_len r
    unfold pairsH at ih ⊢
    rw [List.flatMap_cons, List.length_append, ih]
    simp

/-- A header under way, and the place of the key that had a value last. -/
abbrev StR := HdrL × Option Nat
def stepR (s : StR) (p : PairB) : StR :=
  match s.1[posH s.1 (cKey p.1)]? with
  | some x => if x.1 = cKey p.1 then (s.1.set (posH s.1 (cKey p.1)) (x.1, x.2 ++ [p.2]), some (posH s.1 (cKey p.1))) else (insAt s.1 (posH s.1 (cKey p.1)) (cKey p.1, [p.2]), some (posH s.1 (cKey p.1)))
  | none => (insAt s.1 (posH s.1 (cKey p.1)) (cKey p.1, [p.2]), some (posH s.1 (cKey p.1)))
/-- A value is put to the key that had one last, or to a new one. -/
def okR (s : StR) (p : PairB) : Prop := ∀ x, s.1[posH s.1 (cKey p.1)]? = some x → x.1 = cKey p.1 → s.2 = some (posH s.1 (cKey p.1))
def runOk : StR → List PairB → Prop
  | _, [] => True
  | s, p :: r => okR s p ∧ runOk (stepR s p) r
theorem runOk_app : ∀ (a b : List PairB) (s : StR), runOk s a → runOk (a.foldl stepR s) b → runOk s (a ++ b)
  | [], b, s, _, h => h
  | p :: r, b, s, h, h2 => ⟨h.1, runOk_app r b _ h.2 h2⟩

theorem less_irrefl (k : ByteArray) : lessB k k = false := by
  rw [Bool.eq_false_iff]
  intro h
  exact absurd (bytesLess_lt h) (List.lt_irrefl _)
theorem stepR_new (s : StR) (p : PairB) (h : ∀ x ∈ s.1, x.1 ≠ cKey p.1) : stepR s p = (insAt s.1 (posH s.1 (cKey p.1)) (cKey p.1, [p.2]), some (posH s.1 (cKey p.1))) ∧ okR s p := by
  refine ⟨?_, fun x hx he => absurd he (h x (List.mem_of_getElem? hx))⟩
  unfold stepR
  split
  · next x hx => rw [if_neg (h x (List.mem_of_getElem? hx))]
  · rfl
theorem ins_take {out : HdrL} {i : Nat} (hi : i ≤ out.length) : (out.take i).length = i := by rw [List.length_take]; omega
theorem ins_at {out : HdrL} {i : Nat} (hi : i ≤ out.length) (x : ByteArray × List ByteArray) : (insAt out i x)[i]? = some x := by
  unfold insAt
  rw [List.append_assoc, List.getElem?_append_right (by rw [ins_take hi]; omega), ins_take hi, Nat.sub_self]
  rfl
theorem ins_set {out : HdrL} {i : Nat} (hi : i ≤ out.length) (x y : ByteArray × List ByteArray) : (insAt out i x).set i y = insAt out i y := by
  unfold insAt
  rw [List.append_assoc, List.set_append_right _ _ (by rw [ins_take hi]; omega), ins_take hi, Nat.sub_self]
  simp
theorem posH_ins (out : HdrL) (k : ByteArray) (vs : List ByteArray) : posH (insAt out (posH out k) (k, vs)) k = posH out k := by
  have hi := posH_le out k
  have h1 : ∀ x ∈ out.take (posH out k), lessB x.1 k = true := fun x hx => by
    obtain ⟨j, hj⟩ := List.getElem?_of_mem hx
    rw [List.getElem?_take] at hj
    split at hj
    · next hlt => exact posH_lt out k j x hlt hj
    · cases hj
  obtain ⟨q, hq⟩ : ∃ q, posH out k = q := ⟨_, rfl⟩
  rw [hq] at h1 hi ⊢
  unfold posH insAt
  rw [List.append_assoc, List.takeWhile_append_of_pos (by simpa using h1), List.singleton_append, List.takeWhile_cons_of_neg (by simp [less_irrefl]), List.append_nil, ins_take hi]
theorem stepR_same (out : HdrL) (k : ByteArray) (vs : List ByteArray) (p : PairB) (hp : cKey p.1 = k) :
    stepR (insAt out (posH out k) (k, vs), some (posH out k)) p = (insAt out (posH out k) (k, vs ++ [p.2]), some (posH out k)) ∧ okR (insAt out (posH out k) (k, vs), some (posH out k)) p := by
  have hi := posH_le out k
  constructor
  · unfold stepR
    dsimp only
    rw [hp, posH_ins, ins_at hi]
    dsimp only
    rw [if_pos rfl, ins_set hi]
  · intro x hx he
    dsimp only
    rw [hp, posH_ins]
theorem run_vals (out : HdrL) (k : ByteArray) : ∀ (ys vs : List ByteArray), runOk (insAt out (posH out (cKey k)) (cKey k, vs), some (posH out (cKey k))) (ys.map fun y => (k, y)) ∧
    (ys.map fun y => (k, y)).foldl stepR (insAt out (posH out (cKey k)) (cKey k, vs), some (posH out (cKey k))) = (insAt out (posH out (cKey k)) (cKey k, vs ++ ys), some (posH out (cKey k)))
  | [], vs => by simp [runOk]
  | y :: r, vs => by
    obtain ⟨h1, h2⟩ := stepR_same out (cKey k) vs (k, y) rfl
    obtain ⟨h3, h4⟩ := run_vals out k r (vs ++ [y])
    refine ⟨⟨h2, by rw [h1]; exact h3⟩, ?_⟩
    rw [List.map_cons, List.foldl_cons, h1]
    rw [h4, List.append_assoc]
    rfl
theorem run_head (s : StR) (h : ByteArray × List ByteArray) (hne : 0 < h.2.length) (hn : ∀ x ∈ s.1, x.1 ≠ cKey h.1) : runOk s (h.2.map fun y => (h.1, y)) ∧
    (h.2.map fun y => (h.1, y)).foldl stepR s = (insH s.1 (cKey h.1, h.2), some (posH s.1 (cKey h.1))) := by
  obtain ⟨k, vs⟩ := h
  cases vs with
  | nil => simp at hne
  | cons y r =>
    obtain ⟨h1, h2⟩ := stepR_new s (k, y) hn
    obtain ⟨h3, h4⟩ := run_vals s.1 k r [y]
    refine ⟨⟨h2, by rw [h1]; exact h3⟩, ?_⟩
    rw [List.map_cons, List.foldl_cons, h1, h4]
    rfl
theorem canonH_keys : ∀ (n : Nat) (hs : HdrL), hs.length = n → ∀ x ∈ canonH hs, ∃ h ∈ hs, x.1 = cKey h.1
  | 0, hs, hn, x, hx => by
    obtain rfl := List.eq_nil_of_length_eq_zero hn
    simp [canonH] at hx
  | n + 1, hs, hn, x, hx => by
    have hne : hs ≠ [] := by rintro rfl; simp at hn
    have e := (List.dropLast_concat_getLast hne).symm
    rw [e, canonH_snoc] at hx
    unfold insH insAt at hx
    have hin : x ∈ canonH hs.dropLast ∨ x.1 = cKey (hs.getLast hne).1 := by
      rcases List.mem_append.1 hx with hx | hx
      · rcases List.mem_append.1 hx with hx | hx
        · exact .inl (List.mem_of_mem_take hx)
        · simp only [List.mem_singleton] at hx
          exact .inr (by rw [hx])
      · exact .inl (List.mem_of_mem_drop hx)
    rcases hin with hin | hin
    · obtain ⟨h, hm, he⟩ := canonH_keys n hs.dropLast (by rw [List.length_dropLast]; omega) x hin
      exact ⟨h, List.dropLast_subset _ hm, he⟩
    · exact ⟨_, List.getLast_mem hne, hin⟩
theorem cKey_eq {a b : ByteArray} (h : cKey a = cKey b) : canonL a.data.toList = canonL b.data.toList := by
  unfold cKey at h
  have := congrArg (fun x : ByteArray => x.data.toList) h
  simpa using this
theorem run_all {hs : HdrL} (hg : HeadOk hs) : ∀ n, n ≤ hs.length → runOk ([], none) (pairsH (hs.take n)) ∧ ((pairsH (hs.take n)).foldl stepR ([], none)).1 = canonH (hs.take n)
  | 0, _ => by simp [pairsH, runOk, canonH]
  | n + 1, hn => by
    obtain ⟨h1, h2⟩ := run_all hg n (by omega)
    obtain ⟨h, hh⟩ : ∃ h, hs[n]? = some h := ⟨_, List.getElem?_eq_getElem (by omega)⟩
    have e : pairsH (hs.take (n + 1)) = pairsH (hs.take n) ++ h.2.map fun y => (h.1, y) := by
      rw [take_at hh]
      unfold pairsH
      simp
    obtain ⟨cnt, ht⟩ := hg
    have ho := ht.each n h (by omega) hh
    obtain ⟨h3, h4⟩ := run_head ((pairsH (hs.take n)).foldl stepR ([], none)) h ho.more (fun x hx => by
      rw [h2] at hx
      obtain ⟨g, hm, he⟩ := canonH_keys _ _ rfl x hx
      rw [he]
      intro hk
      obtain ⟨i, hi⟩ := List.getElem?_of_mem hm
      rw [List.getElem?_take] at hi
      split at hi
      · next hlt => exact ht.dist i n g h hlt (by omega) hi hh (cKey_eq hk)
      · cases hi)
    rw [e]
    refine ⟨runOk_app _ _ _ h1 h3, ?_⟩
    rw [List.foldl_append, h4, h2, take_at hh, canonH_snoc]
theorem HeadOk.run {hs : HdrL} (hg : HeadOk hs) : runOk ([], none) (pairsH hs) ∧ ((pairsH hs).foldl stepR ([], none)).1 = canonH hs := by
  have h := run_all hg hs.length (Nat.le_refl _)
  rwa [List.take_length] at h
/-- What a line of a written header is. -/
structure OkP (p : PairB) : Prop where
  key : keyB p.1.data.toList = true
  val : plainB p.2.data.toList = true
  len : p.1.size + 2 + p.2.size ≤ 998
theorem HeadOk.pairs {hs : HdrL} (hg : HeadOk hs) : (∀ p ∈ pairsH hs, OkP p) ∧ (pairsH hs).length ≤ 100 := by
  refine ⟨fun p hp => ?_, by rw [pairsH_len]; exact hg.sum⟩
  unfold pairsH at hp
  rw [List.mem_flatMap] at hp
  obtain ⟨h, hh, hp⟩ := hp
  rw [List.mem_map] at hp
  obtain ⟨y, hy, rfl⟩ := hp
  have ho := hg.each h hh
  have hv := ho.vals y hy
  exact ⟨ho.key, hv.1, hv.2⟩
theorem stepR_len (s : StR) (p : PairB) : (stepR s p).1.length ≤ s.1.length + 1 := by
  unfold stepR
  split
  · split
    · simp
    · dsimp only
      rw [insAt_len _ _ _ (posH_le _ _)]
      omega
  · dsimp only
    rw [insAt_len _ _ _ (posH_le _ _)]
    omega

end Go.Proofs.YtklkgddldndmmaaDoor
