/- Lists of parts put one behind the other: their cells, their text. -/
import Derived.Test.YtklkgddldndmmaaDoorGood
namespace Go.Proofs.YtklkgddldndmmaaDoor
open Go.RowKit
set_option linter.unusedVariables false
set_option linter.unusedSimpArgs false

/-- The cells of a []Part. -/
def CellsP (w : World) (B : Nat) (ps : List PartL) (cs : List Value) : Prop :=
  cs.length = ps.length * 2 ∧ (∀ u ∈ cs, u.oneCell' = true) ∧ ∀ (i : Nat) p, ps[i]? = some p → ∃ Ah nh ch Ab nb cb, cs[i * 2]? = some (.slice Ah nh ch) ∧ cs[i * 2 + 1]? = some (.slice Ab nb cb) ∧ RdH w B Ah nh p.1 ∧ RdB w B Ab nb p.2 ∧ nh ≤ ch ∧ ch ≤ 9223372036854775807 ∧ nb ≤ cb

theorem pairs_at : ∀ (l : List (Value × Value)) (i : Nat), (l.flatMap fun p => [p.1, p.2])[i * 2]? = l[i]?.map (·.1) ∧ (l.flatMap fun p => [p.1, p.2])[i * 2 + 1]? = l[i]?.map (·.2)
  | [], i => by simp
  | x :: r, 0 => by simp
  | x :: r, i + 1 => by
    have := pairs_at r i
    rw [show (i + 1) * 2 = i * 2 + 1 + 1 by omega]
    simpa using this
theorem pairs_len : ∀ (l : List (Value × Value)), (l.flatMap fun p => [p.1, p.2]).length = l.length * 2
  | [] => rfl
  | x :: r => by
    rw [List.flatMap_cons, List.length_append, pairs_len r, List.length_cons]
    simp
    omega
theorem choose_list' {α : Type} {P : Nat → α → Prop} : ∀ n : Nat, (∀ i, i < n → ∃ x, P i x) → ∃ l : List α, l.length = n ∧ ∀ (i : Nat) x, l[i]? = some x → P i x
  | 0, _ => ⟨[], rfl, fun i x h => by simp at h⟩
  | n + 1, h => by
    obtain ⟨l, hl, hp⟩ := choose_list' n (fun i hi => h i (by omega))
    obtain ⟨x, hx⟩ := h n (by omega)
    refine ⟨l ++ [x], by simp [hl], fun i y hy => ?_⟩
    by_cases hi : i < n
    · rw [List.getElem?_append_left (by omega)] at hy
      exact hp i y hy
    · have h1 := (List.getElem?_eq_some_iff.1 hy).1
      simp [hl] at h1
      obtain rfl : i = n := by omega
      rw [List.getElem?_append_right (by omega), hl] at hy
      simp at hy
      subst hy
      exact hx

theorem RdQ.cells {w : World} {B : Nat} {A : Option Addr} {n : Nat} {ps : List PartL} (h : RdQ w B A n ps) : ∃ cs, Rd w B 2 A n cs ∧ CellsP w B ps cs := by
  rcases Nat.eq_zero_or_pos n with h0 | h0
  · subst h0
    have : ps = [] := List.eq_nil_of_length_eq_zero h.1
    subst this
    exact ⟨[], ⟨rfl, fun h => absurd h (by omega)⟩, rfl, fun u hu => by simp at hu, fun i p hp => by simp at hp⟩
  · obtain ⟨b, o, rfl, hb, hc⟩ := h.2 h0
    obtain ⟨l, hl, hp⟩ := choose_list' (α := Value × Value) (P := fun i x => w.cell? ⟨b, o + i * 2, none⟩ = some x.1 ∧ w.cell? ⟨b, o + i * 2 + 1, none⟩ = some x.2 ∧ ∀ p, ps[i]? = some p → ∃ Ah nh ch Ab nb cb, x.1 = .slice Ah nh ch ∧ x.2 = .slice Ab nb cb ∧ RdH w B Ah nh p.1 ∧ RdB w B Ab nb p.2 ∧ nh ≤ ch ∧ ch ≤ 9223372036854775807 ∧ nb ≤ cb) n (fun i hi => by
      obtain ⟨p, hp⟩ : ∃ p, ps[i]? = some p := ⟨_, List.getElem?_eq_getElem (by rw [h.1]; exact hi)⟩
      obtain ⟨Ah, nh, ch, Ab, nb, cb, c1, c2, h1, h2, h3, h4, h5⟩ := hc i p hp
      refine ⟨(_, _), c1, c2, fun q hq => ?_⟩
      rw [hp] at hq
      obtain rfl := Option.some.inj hq
      exact ⟨Ah, nh, ch, Ab, nb, cb, rfl, rfl, h1, h2, h3, h4, h5⟩)
    have hget : ∀ (i : Nat) p, ps[i]? = some p → ∃ x, l[i]? = some x := fun i p hi => ⟨_, List.getElem?_eq_getElem (by rw [hl, ← h.1]; exact (List.getElem?_eq_some_iff.1 hi).1)⟩
    refine ⟨l.flatMap fun p => [p.1, p.2], ⟨by rw [pairs_len, hl], fun _ => ⟨b, o, rfl, hb, fun j u hu => ?_⟩⟩, by rw [pairs_len, hl, h.1], fun u hu => ?_, fun i p hi => ?_⟩
    · obtain ⟨i, hi⟩ : ∃ i, j = i * 2 ∨ j = i * 2 + 1 := ⟨j / 2, by omega⟩
      rcases hi with rfl | rfl
      · rw [(pairs_at l i).1] at hu
        obtain ⟨x, hx, rfl⟩ := Option.map_eq_some_iff.1 hu
        exact (hp i x hx).1
      · rw [(pairs_at l i).2] at hu
        obtain ⟨x, hx, rfl⟩ := Option.map_eq_some_iff.1 hu
        exact (hp i x hx).2.1
    · rw [List.mem_flatMap] at hu
      obtain ⟨x, hx, hu⟩ := hu
      obtain ⟨i, hi⟩ := List.getElem?_of_mem hx
      have hil : i < ps.length := by rw [h.1, ← hl]; exact (List.getElem?_eq_some_iff.1 hi).1
      obtain ⟨Ah, nh, ch, Ab, nb, cb, e1, e2, _⟩ := (hp i x hi).2.2 _ (List.getElem?_eq_getElem hil)
      simp only [List.mem_cons, List.not_mem_nil, or_false] at hu
      rcases hu with rfl | rfl
      · rw [e1]; rfl
      · rw [e2]; rfl
    · obtain ⟨x, hx⟩ := hget i p hi
      obtain ⟨Ah, nh, ch, Ab, nb, cb, e1, e2, hr⟩ := (hp i x hx).2.2 p hi
      refine ⟨Ah, nh, ch, Ab, nb, cb, ?_, ?_, hr⟩
      · rw [(pairs_at l i).1, hx, ← e1]; rfl
      · rw [(pairs_at l i).2, hx, ← e2]; rfl

theorem CellsP.below {w w' : World} {B : Nat} {ps : List PartL} {cs : List Value} (h : CellsP w B ps cs) (hb : Below B w w') : CellsP w' B ps cs :=
  ⟨h.1, h.2.1, fun i p hp => by
    obtain ⟨Ah, nh, ch, Ab, nb, cb, c1, c2, h1, h2, h3⟩ := h.2.2 i p hp
    exact ⟨Ah, nh, ch, Ab, nb, cb, c1, c2, h1.below hb, h2.below hb, h3⟩⟩
theorem CellsP.more {w : World} {B B' : Nat} {ps : List PartL} {cs : List Value} (h : CellsP w B ps cs) (hB : B ≤ B') : CellsP w B' ps cs :=
  ⟨h.1, h.2.1, fun i p hp => by
    obtain ⟨Ah, nh, ch, Ab, nb, cb, c1, c2, h1, h2, h3⟩ := h.2.2 i p hp
    exact ⟨Ah, nh, ch, Ab, nb, cb, c1, c2, h1.more hB, h2.more hB, h3⟩⟩
theorem CellsP.app {w : World} {B : Nat} {a b : List PartL} {ca cb : List Value} (h : CellsP w B a ca) (k : CellsP w B b cb) : CellsP w B (a ++ b) (ca ++ cb) := by
  refine ⟨by rw [List.length_append, List.length_append, h.1, k.1, Nat.add_mul], fun u hu => ?_, fun i p hp => ?_⟩
  · rcases List.mem_append.1 hu with hu | hu
    · exact h.2.1 u hu
    · exact k.2.1 u hu
  · by_cases hi : i < a.length
    · rw [List.getElem?_append_left hi] at hp
      obtain ⟨Ah, nh, ch, Ab, nb, cb, c1, c2, hr⟩ := h.2.2 i p hp
      have hl := h.1
      exact ⟨Ah, nh, ch, Ab, nb, cb, by rw [List.getElem?_append_left (by omega)]; exact c1, by rw [List.getElem?_append_left (by omega)]; exact c2, hr⟩
    · rw [List.getElem?_append_right (by omega)] at hp
      obtain ⟨Ah, nh, ch, Ab, nb, cb, c1, c2, hr⟩ := k.2.2 (i - a.length) p hp
      have hl := h.1
      refine ⟨Ah, nh, ch, Ab, nb, cb, ?_, ?_, hr⟩
      · rw [List.getElem?_append_right (by omega), hl, show i * 2 - a.length * 2 = (i - a.length) * 2 by omega]; exact c1
      · rw [List.getElem?_append_right (by omega), hl, show i * 2 + 1 - a.length * 2 = (i - a.length) * 2 + 1 by omega]; exact c2
theorem CellsP.rdq {w : World} {B n : Nat} {A : Option Addr} {ps : List PartL} {cs : List Value} (h : CellsP w B ps cs) (hr : Rd w B 2 A n cs) : RdQ w B A n ps := by
  have hl := h.1
  have hl2 := hr.1
  refine ⟨by omega, fun hn => ?_⟩
  obtain ⟨b, o, rfl, hb, hc⟩ := hr.2 hn
  refine ⟨b, o, rfl, hb, fun i p hp => ?_⟩
  obtain ⟨Ah, nh, ch, Ab, nb, cb, c1, c2, hr⟩ := h.2.2 i p hp
  exact ⟨Ah, nh, ch, Ab, nb, cb, hc _ _ c1, by rw [Nat.add_assoc]; exact hc _ _ c2, hr⟩

/-! ### The text -/
theorem bodyFrom_pos (bd : List UInt8) : ∀ (ps : List PartL) (k k' : Nat), 0 < k → 0 < k' → bodyFrom bd k ps = bodyFrom bd k' ps
  | [], _, _, _, _ => rfl
  | p :: r, k, k', h, h' => by
    simp only [bodyFrom]
    rw [bodyFrom_pos bd r (k + 1) (k' + 1) (by omega) (by omega)]
    unfold sepT
    rw [if_neg (by omega), if_neg (by omega)]
theorem bodyFrom_sep (bd : List UInt8) (ps : List PartL) (k : Nat) (h : 0 < k) (h0 : ps ≠ []) : bodyFrom bd k ps = crlf ++ bodyT bd ps := by
  cases ps with
  | nil => exact absurd rfl h0
  | cons p r =>
    unfold bodyT
    simp only [bodyFrom]
    rw [bodyFrom_pos bd r (k + 1) (0 + 1) (by omega) (by omega)]
    unfold sepT
    rw [if_neg (by omega), if_pos rfl]
    simp only [List.append_assoc, List.nil_append]
theorem writeT_app (bd : List UInt8) (a b : List PartL) (ha : a ≠ []) (hb : b ≠ []) : writeT bd (a ++ b) = bodyT bd a ++ crlf ++ writeT bd b := by
  unfold writeT
  have : bodyT bd (a ++ b) = bodyT bd a ++ (crlf ++ bodyT bd b) := by
    have h := bodyFrom_app bd a b 0
    unfold bodyT at h ⊢
    rw [h, bodyFrom_sep bd b _ (by have := List.length_pos_iff.2 ha; omega) hb]
    rfl
  rw [this]
  simp only [List.append_assoc]
theorem bodyFrom_len (bd : List UInt8) (m : Nat) : ∀ (ps : List PartL) (k : Nat), (∀ p ∈ ps, (headT p.1).length ≤ 100000 ∧ p.2.length ≤ m) → (bodyFrom bd k ps).length ≤ ps.length * (bd.length + 100008 + m)
  | [], _, _ => by simp [bodyFrom]
  | p :: r, k, h => by
    have h1 := bodyFrom_len bd m r (k + 1) (fun q hq => h q (List.mem_cons_of_mem _ hq))
    have h2 := h p (List.mem_cons_self ..)
    have h3 : (sepT k).length ≤ 2 := by unfold sepT; split <;> simp [crlf]
    have h4 : (crlf : List UInt8).length = 2 := rfl
    have h5 : (dashes : List UInt8).length = 2 := rfl
    simp only [bodyFrom, delimT, partT, List.length_append, List.length_cons]
    rw [Nat.add_mul, Nat.one_mul]
    omega
theorem bodyT_len {bd : ByteArray} {ps : List PartL} (hg : GoodP ps bd) {m n : Nat} (hm : ∀ p ∈ ps, p.2.length ≤ m) (hn : ps.length ≤ n) : (bodyT bd.data.toList ps).length ≤ n * (100078 + m) := by
  have hb : bd.size ≤ 70 := by
    have h := hg.2
    unfold boundB at h
    rw [len_data] at h
    simp at h
    omega
  have h1 := bodyFrom_len bd.data.toList m ps 0 (fun p hp => ⟨(hg.1 p hp).1.txt, hm p hp⟩)
  rw [len_data] at h1
  refine Nat.le_trans h1 (Nat.le_trans (Nat.mul_le_mul_left _ (show bd.size + 100008 + m ≤ 100078 + m by omega)) (Nat.mul_le_mul_right _ hn))
theorem GoodP.app {a b : List PartL} {bd : ByteArray} (ha : GoodP a bd) (hb : GoodP b bd) : GoodP (a ++ b) bd := ⟨fun p hp => by
  rcases List.mem_append.1 hp with h | h
  · exact ha.1 p h
  · exact hb.1 p h, ha.2⟩

end Go.Proofs.YtklkgddldndmmaaDoor
