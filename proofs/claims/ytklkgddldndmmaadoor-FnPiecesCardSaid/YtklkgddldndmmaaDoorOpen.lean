/- Lists of headers and of parts that came in: what they read as, and how much they hold at least. -/
import Derived.Test.YtklkgddldndmmaaDoorGood
import Derived.Test.YtklkgddldndmmaaDoorLaid
import Derived.Test.YtklkgddldndmmaaDoorSetsLaw
import Derived.Deep.Slices
import Derived.Deep.Fields
import Derived.ChangeSame
namespace Go.Proofs.YtklkgddldndmmaaDoor
open Go.RowKit Go.ChangeShapes Go.WideShapes Go.Deep
set_option linter.unusedVariables false
set_option linter.unusedSimpArgs false

/-! ### How much a reading holds -/
theorem bulk_one {H : Type} (d : DataW H) : 1 ≤ Rows.uptoBulk d := by
  cases d with
  | lit l => cases l <;> simp [Rows.uptoBulk]
  | nil => simp [Rows.uptoBulk]
  | ptr d => simp [Rows.uptoBulk]
  | slice elems spare => simp [Rows.uptoBulk]
  | agg parts => simp [Rows.uptoBulk]
  | iface t d => simp [Rows.uptoBulk]
  | map entries => simp [Rows.uptoBulk]
  | held h => simp [Rows.uptoBulk]
theorem bulk_part {H : Type} {d : DataW H} {l : List (DataW H)} (h : d ∈ l) : Rows.uptoBulk d ≤ Rows.uptoBulkAll l := by
  induction l with
  | nil => cases h
  | cons x r ih =>
    simp only [Rows.uptoBulkAll]
    cases List.mem_cons.1 h with
    | inl e => subst e; omega
    | inr e => have := ih e; omega
theorem bulk_len {H : Type} (l : List (DataW H)) : l.length ≤ Rows.uptoBulkAll l := by
  induction l with
  | nil => simp [Rows.uptoBulkAll]
  | cons x r ih => have := bulk_one x; simp only [Rows.uptoBulkAll, List.length_cons]; omega
theorem bulk_slice {H : Type} (elems spare : List (DataW H)) : elems.length ≤ Rows.uptoBulk (.slice elems spare) := by
  have h1 := bulk_len elems
  simp only [Rows.uptoBulk]
  omega
theorem bulk_elem {H : Type} {d : DataW H} {elems spare : List (DataW H)} (h : d ∈ elems) : Rows.uptoBulk d ≤ Rows.uptoBulk (.slice elems spare) := by
  have h1 := bulk_part h
  simp only [Rows.uptoBulk]
  omega
theorem bulk_agg {H : Type} {d : DataW H} {l : List (DataW H)} (h : d ∈ l) : Rows.uptoBulk d ≤ Rows.uptoBulk (.agg l) := by
  have h1 := bulk_part h
  simp only [Rows.uptoBulk]
  omega

theorem choose_list {α : Type} {P : Nat → α → Prop} : ∀ n : Nat, (∀ i, i < n → ∃ x, P i x) → ∃ l : List α, l.length = n ∧ ∀ (i : Nat) x, l[i]? = some x → P i x
  | 0, _ => ⟨[], rfl, fun i x h => by simp at h⟩
  | n + 1, h => by
    obtain ⟨l, hl, hp⟩ := choose_list n (fun i hi => h i (by omega))
    obtain ⟨x, hx⟩ := h n (by omega)
    refine ⟨l ++ [x], by simp [hl], fun i y hy => ?_⟩
    by_cases hi : i < n
    · rw [List.getElem?_append_left (by omega)] at hy
      exact hp i y hy
    · have h1 := (List.getElem?_eq_some_iff.1 hy).1
      simp [hl] at h1
      obtain rfl : i = n := by omega
      rw [List.getElem?_append_right (by omega), hl] at hy
      simp at hy
      subst hy
      exact hx

section
variable {H : Type} {enc : TypeId × Value → H} {w : World}
theorem open_fields {t e : TypeId} {fs : Array Field} {fuel : Nat} {cs : List Value} {x : DataW H × List MemPlace} (ht : Tryd.prog.underlying t = some (.slice e)) (he : Tryd.prog.underlying e = some (.struct fs))
    (hone : oneCellFields Tryd.prog fs = true) (hC : Tryd.prog.cellsOf e = fs.size) (h : DataW.trod enc Tryd.prog w 0 (fun _ => true) true fuel t cs = some x) :
    (cs = [.slice none 0 0] ∧ x = (.nil, [])) ∨
    ∃ (a : Addr) (len cap : Nat) (D : Nat → DataW H) (sp : List (DataW H)), cs = [.slice (some a) len cap] ∧ len ≤ cap ∧ cap ≤ maxLen ∧ x.1 = .slice ((List.range len).map D) sp ∧
      ∀ i, i < len → ∃ (ys : List (DataW H × List MemPlace)) (n : Nat), D i = .agg (ys.map (·.1)) ∧ ys.length = fs.size ∧
        ∀ (j : Nat) (f : Field), fs[j]? = some f → ∃ (v : Value) (y : DataW H × List MemPlace), w.cell? (a.add (i * fs.size + j)) = some v ∧ ys[j]? = some y ∧ DataW.trod enc Tryd.prog w 0 (fun _ => true) true n f.type [v] = some y := by
  rcases open_slice ht h with h0 | ⟨a, len, cap, m, n, D, Pl, hcs, hb, hl, hm, hmm, hx, hi⟩
  · exact .inl h0
  · refine .inr ⟨a, len, cap, D, _, hcs, hl, hm, by rw [hx], fun i hil => ?_⟩
    have him : i < m := by rw [hmm]; simp; omega
    obtain ⟨cs', hc, ht'⟩ := hi i him
    rw [hC] at hc
    obtain ⟨ys, n', hn', hy, hlen, hyl, hf⟩ := DataW.trod_struct he ht'
    obtain ⟨_, hcl, hat⟩ := World.cells?_some hc
    simp only [Prod.mk.injEq] at hy
    refine ⟨ys, n', hy.1, hyl, fun j f hj => ?_⟩
    obtain ⟨ho, hk⟩ := hone_of hone j f hj
    have hjl : j < fs.size := (Array.getElem?_eq_some_iff.1 hj).1
    have hcell := hat j hjl
    have hv : cs'[j]? = some (cs'[j]'(by omega)) := List.getElem?_eq_getElem (by omega)
    have h1 := hf j f hj
    rw [ho, hk] at h1
    have hone' : (cs'.drop j).take 1 = [cs'[j]'(by omega)] := by
      rw [List.drop_eq_getElem_cons (by omega)]
      rfl
    rw [hone'] at h1
    have hys : ys[j]? = some (ys[j]'(by omega)) := List.getElem?_eq_getElem (by omega)
    refine ⟨_, _, ?_, hys, h1.trans hys⟩
    rw [← Go.Deep.add_add, hcell, hv]

theorem cells31 : Tryd.prog.cellsOf 31 = 1 := by kernel_rfl
theorem cells81 : Tryd.prog.cellsOf 81 = 2 := by kernel_rfl
theorem cells41 : Tryd.prog.cellsOf 41 = 2 := by kernel_rfl
theorem at_spot {a : Addr} {v : Value} (h : w.cell? (a.add 0) = some v) : a.spot = none := by
  rw [add_zero] at h
  exact World.cell?_spot h

/-- A []string. -/
theorem open_strs {fuel : Nat} {v : Value} {y : DataW H × List MemPlace} (h : DataW.trod enc Tryd.prog w 0 (fun _ => true) true fuel 23 [v] = some y) :
    ∃ A n c, v = .slice A n c ∧ ∃ ss : List ByteArray, ss.length = n ∧ Rd w w.heap.size 1 A n (ss.map Value.string) ∧ n ≤ maxLen := by
  rcases open_slice Tryd.underlying23 h with ⟨hcs, hx⟩ | ⟨a, len, cap, m, n, D, Pl, hcs, hb, hl, hm, hmm, hx, hi⟩
  · simp at hcs
    subst hcs
    exact ⟨_, _, _, rfl, [], rfl, Rd.none_, Nat.zero_le _⟩
  · simp at hcs
    subst hcs
    obtain ⟨ss, h1, h2, h3⟩ := open_names (d := y.1) (p := y.2) Tryd.underlying23 Tryd.underlying9 cells9 ⟨fuel, h⟩
    exact ⟨_, _, _, rfl, ss, h1, h2, h3⟩

/-- A []byte. -/
theorem open_byts {fuel : Nat} {v : Value} {y : DataW H × List MemPlace} (h : DataW.trod enc Tryd.prog w 0 (fun _ => true) true fuel 31 [v] = some y) :
    ∃ A n c, v = .slice A n c ∧ ∃ l : List UInt8, RdB w w.heap.size A n l ∧ n ≤ c ∧ c ≤ maxLen ∧ n ≤ Rows.uptoBulk y.1 := by
  rcases open_slice Tryd.underlying31 h with ⟨hcs, hx⟩ | ⟨a, len, cap, m, n, D, Pl, hcs, hb, hl, hm, hmm, hx, hi⟩
  · simp at hcs
    subst hcs
    exact ⟨_, _, _, rfl, [], Rd.none_, Nat.le_refl _, Nat.zero_le _, Nat.zero_le _⟩
  · simp at hcs
    subst hcs
    obtain ⟨l, h1, h2⟩ := open_bytes (d := y.1) (p := y.2) Tryd.underlying31 Tryd.underlying5 cells5 ⟨fuel, h⟩
    refine ⟨_, _, _, rfl, l, h1, hl, hm, ?_⟩
    have := bulk_slice ((List.range len).map D) ((List.range (m - len)).map fun j => D (len + j))
    rw [hx]
    simpa using this

/-- A []Header. -/
theorem open_hdrs {fuel : Nat} {v : Value} {y : DataW H × List MemPlace} (h : DataW.trod enc Tryd.prog w 0 (fun _ => true) true fuel 39 [v] = some y) :
    ∃ A n c, v = .slice A n c ∧ ∃ hs : HdrL, RdH w w.heap.size A n hs ∧ n ≤ c ∧ c ≤ maxLen ∧ (∀ h ∈ hs, h.2.length ≤ maxLen) ∧ n ≤ Rows.uptoBulk y.1 := by
  rcases open_fields Tryd.underlying39 Tryd.underlying81 (by kernel_rfl) cells81 h with ⟨hcs, hx⟩ | ⟨a, len, cap, D, sp, hcs, hl, hm, hx, hi⟩
  · simp at hcs
    subst hcs
    exact ⟨_, _, _, rfl, [], ⟨rfl, fun h => absurd h (by omega)⟩, Nat.le_refl _, Nat.zero_le _, (fun h hh => by cases hh), Nat.zero_le _⟩
  · simp at hcs
    subst hcs
    obtain ⟨hs, hlen, hp⟩ := choose_list (α := ByteArray × List ByteArray) (P := fun i x => w.cell? (a.add (i * 2 + 0)) = some (.string x.1) ∧ ∃ Av nv cv, w.cell? (a.add (i * 2 + 1)) = some (.slice Av nv cv) ∧ Rd w w.heap.size 1 Av nv (x.2.map Value.string) ∧ x.2.length ≤ maxLen) len (fun i hil => by
      obtain ⟨ys, n, hD, hyl, hf⟩ := hi i hil
      obtain ⟨v0, y0, c0, _, t0⟩ := hf 0 _ rfl
      obtain ⟨v1, y1, c1, _, t1⟩ := hf 1 _ rfl
      obtain ⟨s, hs, _⟩ := DataW.trod_string Tryd.underlying9 t0
      simp at hs
      subst hs
      obtain ⟨Av, nv, cv, rfl, ss, h1, h2, h3⟩ := open_strs t1
      exact ⟨(s, ss), c0, Av, nv, cv, c1, h2, by show ss.length ≤ _; rw [h1]; exact h3⟩)
    refine ⟨_, _, _, rfl, hs, ⟨hlen, fun hn => ?_⟩, hl, hm, fun x hx => ?_, ?_⟩
    · obtain ⟨x, hx⟩ : ∃ x, hs[0]? = some x := ⟨_, List.getElem?_eq_getElem (by omega)⟩
      have hsp := at_spot (hp 0 x hx).1
      have hlt := cell_lt (hp 0 x hx).1
      obtain ⟨b, o, s⟩ := a
      obtain rfl : s = none := hsp
      rw [block_add] at hlt
      refine ⟨b, o, rfl, hlt, fun i x hx => ?_⟩
      obtain ⟨c0, Av, nv, cv, c1, h2, _⟩ := hp i x hx
      rw [Addr.add_lit] at c0 c1
      exact ⟨by rw [Nat.add_zero] at c0; exact c0, Av, nv, cv, by rw [Nat.add_assoc]; exact c1, h2⟩
    · obtain ⟨i, hi⟩ := List.getElem?_of_mem hx
      obtain ⟨_, _, _, _, _, _, h3⟩ := hp i x hi
      exact h3
    · have := bulk_slice ((List.range len).map D) sp
      rw [hx]
      simpa using this

/-- A []Part. -/
theorem open_parts {fuel : Nat} {v : Value} {y : DataW H × List MemPlace} (h : DataW.trod enc Tryd.prog w 0 (fun _ => true) true fuel 28 [v] = some y) :
    ∃ A n c, v = .slice A n c ∧ ∃ ps : List PartL, RdQ w w.heap.size A n ps ∧ n ≤ c ∧ c ≤ maxLen ∧ (∀ p ∈ ps, p.1.length ≤ maxLen ∧ (∀ h ∈ p.1, h.2.length ≤ maxLen) ∧ p.2.length ≤ Rows.uptoBulk y.1) ∧ n ≤ Rows.uptoBulk y.1 := by
  rcases open_fields Tryd.underlying28 Tryd.underlying41 (by kernel_rfl) cells41 h with ⟨hcs, hx⟩ | ⟨a, len, cap, D, sp, hcs, hl, hm, hx, hi⟩
  · simp at hcs
    subst hcs
    exact ⟨_, _, _, rfl, [], ⟨rfl, fun h => absurd h (by omega)⟩, Nat.le_refl _, Nat.zero_le _, (fun h hh => by cases hh), Nat.zero_le _⟩
  · simp at hcs
    subst hcs
    obtain ⟨ps, hlen, hp⟩ := choose_list (α := PartL) (P := fun i x => ∃ Ah nh ch Ab nb cb, w.cell? (a.add (i * 2 + 0)) = some (.slice Ah nh ch) ∧ w.cell? (a.add (i * 2 + 1)) = some (.slice Ab nb cb) ∧ RdH w w.heap.size Ah nh x.1 ∧ RdB w w.heap.size Ab nb x.2 ∧ nh ≤ ch ∧ ch ≤ maxLen ∧ nb ≤ cb ∧ x.1.length ≤ maxLen ∧ (∀ h ∈ x.1, h.2.length ≤ maxLen) ∧ x.2.length ≤ Rows.uptoBulk y.1) len (fun i hil => by
      obtain ⟨ys, n, hD, hyl, hf⟩ := hi i hil
      obtain ⟨v0, y0, c0, _, t0⟩ := hf 0 _ rfl
      obtain ⟨v1, y1, c1, hy1, t1⟩ := hf 1 _ rfl
      obtain ⟨Ah, nh, ch, rfl, hs, h1, h2, h3, h4, _⟩ := open_hdrs t0
      obtain ⟨Ab, nb, cb, rfl, l, g1, g2, g3, g4⟩ := open_byts t1
      refine ⟨(hs, l), Ah, nh, ch, Ab, nb, cb, c0, c1, h1, g1, h2, h3, g2, ?_, h4, ?_⟩
      · show hs.length ≤ _
        rw [h1.1]
        exact Nat.le_trans h2 h3
      · show l.length ≤ _
        rw [g1.len, hx]
        refine Nat.le_trans g4 (Nat.le_trans (bulk_agg (l := ys.map (·.1)) (List.mem_map_of_mem (List.mem_of_getElem? hy1))) ?_)
        rw [← hD]
        exact bulk_elem (List.mem_map_of_mem (List.mem_range.2 hil)))
    refine ⟨_, _, _, rfl, ps, ⟨hlen, fun hn => ?_⟩, hl, hm, fun x hx => ?_, ?_⟩
    · obtain ⟨x, hx⟩ : ∃ x, ps[0]? = some x := ⟨_, List.getElem?_eq_getElem (by omega)⟩
      obtain ⟨Ah, nh, ch, Ab, nb, cb, c0, _⟩ := hp 0 x hx
      have hsp := at_spot c0
      have hlt := cell_lt c0
      obtain ⟨b, o, s⟩ := a
      obtain rfl : s = none := hsp
      rw [block_add] at hlt
      refine ⟨b, o, rfl, hlt, fun i x hx => ?_⟩
      obtain ⟨Ah, nh, ch, Ab, nb, cb, c0, c1, h1, h2, h3, h4, h5, _⟩ := hp i x hx
      rw [Addr.add_lit] at c0 c1
      exact ⟨Ah, nh, ch, Ab, nb, cb, by rw [Nat.add_zero] at c0; exact c0, by rw [Nat.add_assoc]; exact c1, h1, h2, h3, h4, h5⟩
    · obtain ⟨i, hi⟩ := List.getElem?_of_mem hx
      obtain ⟨_, _, _, _, _, _, _, _, _, _, _, _, _, h6, h7, h8⟩ := hp i x hi
      exact ⟨h6, h7, h8⟩
    · have := bulk_slice ((List.range len).map D) sp
      rw [hx]
      simpa using this
end
end Go.Proofs.YtklkgddldndmmaaDoor
