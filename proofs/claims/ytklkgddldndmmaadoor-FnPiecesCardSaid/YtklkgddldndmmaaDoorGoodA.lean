/- What a fine header gives; parts that read as a list, with their capacities. No walk. -/
import Derived.Test.YtklkgddldndmmaaDoorHeadC
namespace Go.Proofs.YtklkgddldndmmaaDoor
open Go.RowKit
set_option linter.unusedVariables false
set_option linter.unusedSimpArgs false

theorem bytesLess_lt : ∀ {a b : List UInt8}, Op.bytesLess a b = true → a < b
  | _, [], h => by simp [Op.bytesLess] at h
  | [], _ :: _, _ => by simp
  | x :: r, y :: t, h => by
    simp only [Op.bytesLess, Bool.or_eq_true, Bool.and_eq_true, decide_eq_true_eq, beq_iff_eq] at h
    rw [List.cons_lt_cons_iff]
    rcases h with h | ⟨h1, h2⟩
    · exact .inl h
    · exact .inr ⟨h1, bytesLess_lt h2⟩
theorem Less.lt {a b : ByteArray} (h : Less a b) : a.data.toList < b.data.toList := by
  have := bytesLess_lt h
  rwa [ByteArray.toList_eq, ByteArray.toList_eq] at this

/-- A header that may be written. -/
def HeadOk (hs : HdrL) : Prop := ∃ cnt, HeadTo hs hs.length cnt
theorem sum_le {l : List Nat} {x : Nat} (h : x ∈ l) : x ≤ l.sum := by
  induction l with
  | nil => cases h
  | cons y r ih =>
    rw [List.sum_cons]
    rcases List.mem_cons.1 h with rfl | h
    · omega
    · have := ih h; omega
theorem len_sum (l : List Nat) (h : ∀ x ∈ l, 1 ≤ x) : l.length ≤ l.sum := by
  induction l with
  | nil => simp
  | cons y r ih =>
    rw [List.sum_cons, List.length_cons]
    have := h y (List.mem_cons_self ..)
    have := ih (fun x hx => h x (List.mem_cons_of_mem _ hx))
    omega
section
variable {hs : HdrL} (h : HeadOk hs)
include h
theorem HeadOk.each : ∀ x ∈ hs, OkH x := by
  obtain ⟨cnt, h⟩ := h
  exact all_of_idx (Nat.le_refl _) h.each
theorem HeadOk.sum : (hs.map fun x => x.2.length).sum ≤ 100 := by
  obtain ⟨cnt, h⟩ := h
  have h1 := h.tot
  have h2 := h.le
  rw [List.take_length] at h1
  omega
theorem HeadOk.len : hs.length ≤ 100 := by
  have h1 := h.sum
  have h2 := len_sum (hs.map fun x => x.2.length) (fun y hy => by
    obtain ⟨x, hx, rfl⟩ := List.mem_map.1 hy
    exact (h.each x hx).more)
  rw [List.length_map] at h2
  omega
theorem HeadOk.lt : ∀ (d i : Nat) x y, hs[i]? = some x → hs[i + 1 + d]? = some y → x.1.data.toList < y.1.data.toList := by
  obtain ⟨cnt, h⟩ := h
  intro d
  induction d with
  | zero =>
    intro i x y hx hy
    exact (h.asc i x y (List.getElem?_eq_some_iff.1 hy).1 hx hy).lt
  | succ d ih =>
    intro i x y hx hy
    have hl := (List.getElem?_eq_some_iff.1 hy).1
    obtain ⟨z, hz⟩ : ∃ z, hs[i + 1 + d]? = some z := ⟨_, List.getElem?_eq_getElem (by omega)⟩
    exact List.lt_trans (ih i x z hx hz) (h.asc (i + 1 + d) z y hl hz hy).lt
theorem HeadOk.asc : Asc hs := by
  refine ⟨fun i j x y hij hx hy => ?_, fun x hx => ?_⟩
  · exact h.lt (j - i - 1) i x y hx (by rw [show i + 1 + (j - i - 1) = j by omega]; exact hy)
  · have ho := h.each x hx
    have h1 := h.sum
    have h2 := sum_le (List.mem_map_of_mem (f := fun x : ByteArray × List ByteArray => x.2.length) hx)
    refine ⟨ho.more, by omega, ?_⟩
    obtain ⟨v, hv⟩ : ∃ v, v ∈ x.2 := ⟨_, List.getElem_mem ho.more⟩
    have := (ho.vals v hv).2
    unfold maxLen
    omega
omit h in
theorem linesT_len (k : List UInt8) (vs : List ByteArray) (hv : ∀ v ∈ vs, k.length + 2 + v.size ≤ 998) : (linesT k vs).length ≤ 1000 * vs.length := by
  induction vs with
  | nil => simp [linesT]
  | cons v r ih =>
    have h1 := hv v (List.mem_cons_self ..)
    have h2 := ih (fun x hx => hv x (List.mem_cons_of_mem _ hx))
    have h3 : (lineT k v.data.toList).length = k.length + v.size + 4 := by
      simp only [lineT, colon, crlf, List.length_append, len_data, List.length_cons, List.length_nil]; omega
    unfold linesT at h2 ⊢
    rw [List.flatMap_cons, List.length_append, List.length_cons, h3]
    omega
omit h in
theorem headT_len (hs : HdrL) (hv : ∀ x ∈ hs, OkH x) : (headT hs).length ≤ 1000 * (hs.map fun x => x.2.length).sum := by
  induction hs with
  | nil => simp [headT]
  | cons x r ih =>
    have h1 := ih (fun y hy => hv y (List.mem_cons_of_mem _ hy))
    have h2 := linesT_len x.1.data.toList x.2 (fun v hvv => by rw [len_data]; exact ((hv x (List.mem_cons_self ..)).vals v hvv).2)
    unfold headT at h1 ⊢
    rw [List.flatMap_cons, List.length_append, List.map_cons, List.sum_cons]
    omega
theorem HeadOk.txt : (headT hs).length ≤ 100000 := by
  have h1 := headT_len hs h.each
  have h2 := h.sum
  omega
end
theorem HeadOk.fit {p : PartL} (h : HeadOk p.1) : Fit p := ⟨h.asc, by have := h.len; omega, by have := h.txt; omega⟩

/-- Parts that may be written and read again. -/
def GoodP (ps : List PartL) (bd : ByteArray) : Prop := (∀ p ∈ ps, HeadOk p.1 ∧ freeB p.2 bd.data.toList = true) ∧ boundB bd.data.toList = true

/-- A []Part that reads as a list of parts; what its slices may hold. -/
def RdQ (w : World) (B : Nat) (A : Option Addr) (n : Nat) (ps : List PartL) : Prop :=
  ps.length = n ∧ (0 < n → ∃ b o, A = some ⟨b, o, none⟩ ∧ b < B ∧ ∀ (i : Nat) p, ps[i]? = some p → ∃ Ah nh ch Ab nb cb, w.cell? ⟨b, o + i * 2, none⟩ = some (.slice Ah nh ch) ∧ w.cell? ⟨b, o + i * 2 + 1, none⟩ = some (.slice Ab nb cb) ∧ RdH w B Ah nh p.1 ∧ RdB w B Ab nb p.2 ∧ nh ≤ ch ∧ ch ≤ 9223372036854775807 ∧ nb ≤ cb)
theorem RdQ.rdp {w : World} {B : Nat} {A : Option Addr} {n : Nat} {ps : List PartL} (h : RdQ w B A n ps) : RdP w B A n ps :=
  ⟨h.1, fun hn => by
    obtain ⟨b, o, e, hB, hc⟩ := h.2 hn
    refine ⟨b, o, e, hB, fun i x hx => ?_⟩
    obtain ⟨Ah, nh, ch, Ab, nb, cb, c1, c2, h1, h2, _⟩ := hc i x hx
    exact ⟨Ah, nh, ch, Ab, nb, cb, c1, c2, h1, h2⟩⟩
theorem RdQ.below {w w' : World} {B : Nat} {A : Option Addr} {n : Nat} {ps : List PartL} (h : RdQ w B A n ps) (hb : Below B w w') : RdQ w' B A n ps :=
  ⟨h.1, fun hn => by
    obtain ⟨b, o, e, hB, hc⟩ := h.2 hn
    refine ⟨b, o, e, hB, fun i x hx => ?_⟩
    obtain ⟨Ah, nh, ch, Ab, nb, cb, c1, c2, h1, h2, h3⟩ := hc i x hx
    exact ⟨Ah, nh, ch, Ab, nb, cb, (hb.cell (p := ⟨b, o + i * 2, none⟩) hB).trans c1, (hb.cell (p := ⟨b, o + i * 2 + 1, none⟩) hB).trans c2, h1.below hb, h2.below hb, h3⟩⟩
theorem RdQ.more {w : World} {B B' : Nat} {A : Option Addr} {n : Nat} {ps : List PartL} (h : RdQ w B A n ps) (hB : B ≤ B') : RdQ w B' A n ps :=
  ⟨h.1, fun hn => by
    obtain ⟨b, o, e, hb, hc⟩ := h.2 hn
    refine ⟨b, o, e, by omega, fun i x hx => ?_⟩
    obtain ⟨Ah, nh, ch, Ab, nb, cb, c1, c2, h1, h2, h3⟩ := hc i x hx
    exact ⟨Ah, nh, ch, Ab, nb, cb, c1, c2, h1.more hB, h2.more hB, h3⟩⟩

end Go.Proofs.YtklkgddldndmmaaDoor
