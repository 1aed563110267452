/- Texts of the proof, joined: Good, AppendA, Write. -/
import Derived.Test.YtklkgddldndmmaaDoorM08
import Derived.Deep.CutRange
import Derived.Test.YtklkgddldndmmaaDoorM06
/- The walks of spec.Good, and of what bounds lists of parts. -/
namespace Go.Proofs.YtklkgddldndmmaaDoor
open Go.RowKit
set_option linter.unusedVariables false
set_option linter.unusedSimpArgs false

theorem free_q {A : Option Addr} {n c B : Nat} {bd : ByteArray} {l : List UInt8} (b : Bool) (h : freeB l bd.data.toList = b) {w : World} (hnc : n ≤ c) (hn : n ≤ 140737488000000) (hbd : bd.size ≤ 16777216) (hB : B ≤ w.heap.size) (hr : RdB w B A n l) :
    Calls Tryd.prog 36 #[.slice A n c, .string bd] w fun e' w' => e' = .returned (.bool b) ∧ Below w.heap.size w w' :=
  (free_any A n c B bd l w hnc hn hbd hB hr).mono fun _ _ ⟨he, hw⟩ => ⟨by rw [he, h], hw⟩

set_option maxRecDepth 100000 in
set_option maxHeartbeats 4000000 in
theorem good_any (A : Option Addr) (n c : Nat) (ps : List PartL) (bd : ByteArray) (w : World) (hn : n ≤ 2147483647) (hbd : bd.size ≤ 16777216) (hf : ∀ p ∈ ps, FitHs p.1) (hlen : ∀ p ∈ ps, p.2.length ≤ 140737488000000) (hr : RdQ w w.heap.size A n ps) :
    Calls Tryd.prog 15 #[.slice A n c, .string bd] w fun e w' => SayB (GoodP ps bd) e ∧ Below w.heap.size w w' := by
  have HR := Lib.hid hr
  have HF := Lib.hid hf
  have HLn := Lib.hid hlen
  obtain ⟨ok, hok⟩ : ∃ ok, boundB bd.data.toList = ok := ⟨_, rfl⟩
  have HB0 := Lib.hid (bound_q bd (by omega) ok hok)
  have HOk := Lib.hid hok
  clear hr hf hlen hok
  go_enter Tryd.func15, Tryd.ntmps15
  go_wp2_with fail
  go_loopw [9] (fun i wr => ∃ k : Nat, k ≤ n ∧ i = .int .i64 k ∧ Hid (∀ (i : Nat) p, i < k → ps[i]? = some p → HeadOk p.1 ∧ freeB p.2 bd.data.toList = true) ∧ Hid (Below w.heap.size w wr)) (fun i _ => n - (intOf i).toNat)
  case atStart => exact ⟨0, Nat.zero_le _, rfl, Lib.hid (fun i p h => absurd h (by omega)), Lib.hid (Below.refl _ _)⟩
  case round =>
    obtain ⟨k, hk, rfl, HP, HB⟩ := hrel
    by_cases hlt : k < n
    · obtain ⟨b, o, rfl, hb, hcl⟩ := HR.out.2 (by omega)
      obtain ⟨p, hp⟩ : ∃ p, ps[k]? = some p := ⟨_, List.getElem?_eq_getElem (by rw [HR.out.1]; exact hlt)⟩
      obtain ⟨Ah, nh, ch, Ab, nb, cb, c1, c2, hH, hY, hch, hcm, hcb⟩ := hcl k p hp
      have d1 := (HB.out.cell (p := ⟨b, o + k * 2, none⟩) hb).trans c1
      have d2 := (HB.out.cell (p := ⟨b, o + k * 2 + 1, none⟩) hb).trans c2
      have hnb : nb ≤ 140737488000000 := by have h := HLn.out p (List.mem_of_getElem? hp); have h2 := hY.len; omega
      have hfp := HF.out p (List.mem_of_getElem? hp)
      have hsz0 := HB.out.size
      have hal := (Below.refl wr.heap.size wr).alloc (Nat.le_refl _) (.cells #[.slice Ah nh ch, .slice Ab nb cb] 41)
      have g1 : (wr.alloc (.cells #[.slice Ah nh ch, .slice Ab nb cb] 41)).heap[wr.heap.size]? = some (.cells #[.slice Ah nh ch, .slice Ab nb cb] 41 (0, 0)) := heap_alloc_new wr _
      obtain ⟨wa, hwa⟩ : ∃ y, y = wr.alloc (.cells #[.slice Ah nh ch, .slice Ab nb cb] 41) := ⟨_, rfl⟩
      have HBa := Lib.hid (show Below w.heap.size w wa by rw [hwa]; exact HB.out.trans (hal.mono hsz0))
      have hsa : wr.heap.size < wa.heap.size := by rw [hwa]; simp
      rw [← hwa] at g1
      have k1 : wa.cell? ⟨wr.heap.size, 0, none⟩ = some (.slice Ah nh ch) := by rw [Lib.cell_of_heap g1]; rfl
      have k2 : wa.cell? ⟨wr.heap.size, 1, none⟩ = some (.slice Ab nb cb) := by rw [Lib.cell_of_heap g1]; rfl
      have HHd := Lib.hid (headC_any Ah nh ch p.1 wa hch hcm hfp ((hH.below HBa.out).more HBa.out.size))
      have HYa := Lib.hid (hY.below HBa.out)
      have hHl : p.1.length = nh := hH.1
      have HP2 := Lib.hid hp
      clear hcl c1 c2 hH hY g1 hal hp hfp
      go_wp2_with fail
      rw [← hwa]
      clear hwa d1 d2
      go_wp2_with fail
      refine HHd.out.mono ?_
      rintro e w1 ⟨⟨x, rfl, hx⟩, hb1⟩
      have HB1 := Lib.hid (HBa.out.trans (hb1.mono HBa.out.size))
      cases x with
      | false =>
        clear hx hb1
        go_wp2
        go_ret
        exact ⟨SayB.no, HB1.out⟩
      | true =>
        have HX := Lib.hid (show HeadOk p.1 by unfold HeadOk; rw [hHl]; exact hx rfl)
        have k2' := (hb1.cell (p := ⟨wr.heap.size, 1, none⟩) hsa).trans k2
        have HYb := Lib.hid ((HYa.out.below (hb1.mono HBa.out.size)).more (B' := w1.heap.size) HB1.out.size)
        clear hx hb1 k1 k2
        cases hfr : freeB p.2 bd.data.toList with
        | false =>
          have HFr := Lib.hid (free_q (A := Ab) (n := nb) (c := cb) false hfr hcb hnb hbd (Nat.le_refl _) HYb.out)
          clear hfr
          go_wp2_with fail
          refine HFr.out.mono ?_
          rintro e w2 ⟨rfl, hb2⟩
          have HB2 := Lib.hid (HB1.out.trans (hb2.mono HB1.out.size))
          clear hb2
          go_wp2
          go_ret
          exact ⟨SayB.no, HB2.out⟩
        | true =>
          have HFr := Lib.hid (free_q (A := Ab) (n := nb) (c := cb) true hfr hcb hnb hbd (Nat.le_refl _) HYb.out)
          have HN := Lib.hid (idx_succ HP.out HP2.out ⟨HX.out, hfr⟩)
          clear hfr
          go_wp2_with fail
          refine HFr.out.mono ?_
          rintro e w2 ⟨rfl, hb2⟩
          have HB2 := Lib.hid (HB1.out.trans (hb2.mono HB1.out.size))
          clear hb2
          go_wp2_with fail
          go_roundw
          case rel => exact ⟨k + 1, by omega, by go_num, HN, HB2⟩
          case measure => simp [intOf]; omega
    · have HN := Lib.hid (all_of_idx (n := k) (by rw [HR.out.1]; omega) HP.out)
      go_wp2_with fail
      refine (HB0.out _).mono ?_
      rintro e w1 ⟨rfl, rfl⟩
      go_wp2
      go_ret
      exact ⟨⟨ok, rfl, fun h => ⟨HN.out, by rw [HOk.out, h]⟩⟩, HB.out⟩

def FitP (p : PartL) : Prop := FitHs p.1 ∧ Few p.2
set_option maxHeartbeats 2000000 in
theorem fits4_any (p : PartL) (Ah Ab : Option Addr) (nh ch nb cb : Nat) (w : World) (hn : nh ≤ 9223372036854775807) (hbig : ∀ h ∈ p.1, h.2.length ≤ 9223372036854775807) (hr : RdH w w.heap.size Ah nh p.1) (hnb : p.2.length = nb) :
    Calls Tryd.prog 34 #[.agg #[.slice Ah nh ch, .slice Ab nb cb]] w fun e w' => SayB (FitP p) e ∧ Below w.heap.size w w' := by
  have hal := (Below.refl w.heap.size w).alloc (Nat.le_refl _) (.cells #[.slice Ah nh ch, .slice Ab nb cb] 41)
  have g1 : (w.alloc (.cells #[.slice Ah nh ch, .slice Ab nb cb] 41)).heap[w.heap.size]? = some (.cells #[.slice Ah nh ch, .slice Ab nb cb] 41 (0, 0)) := heap_alloc_new w _
  have HC := Lib.hid (fits5_any Ah nh ch p.1 (w.alloc (.cells #[.slice Ah nh ch, .slice Ab nb cb] 41)) hn hbig ((hr.below hal).more hal.size))
  have HB := Lib.hid hal
  have HNb := Lib.hid hnb
  have k2 : (w.alloc (.cells #[.slice Ah nh ch, .slice Ab nb cb] 41)).cell? ⟨w.heap.size, 1, none⟩ = some (.slice Ab nb cb) := by rw [Lib.cell_of_heap g1]; rfl
  have K2 := Lib.hid k2
  clear hr hal g1 hbig k2 hnb
  go_enter Tryd.func34, Tryd.ntmps34
  go_wp2_with fail
  refine HC.out.mono ?_
  rintro e w1 ⟨⟨x, rfl, hx⟩, hb1⟩
  have HB1 := Lib.hid (HB.out.trans (hb1.mono (by simp)))
  cases x with
  | false =>
    clear hx hb1
    go_wp2
    go_ret
    exact ⟨SayB.no, HB1.out⟩
  | true =>
    have HX := Lib.hid (hx rfl)
    have k2' : w1.cell? ⟨w.heap.size, 1, none⟩ = some (.slice Ab nb cb) := (hb1.cell (p := ⟨w.heap.size, 1, none⟩) (by simp)).trans K2.out
    clear hx hb1
    by_cases h1 : nb ≤ 2147483647
    · go_wp2
      go_ret
      exact ⟨SayB.yes ⟨HX.out, by unfold Few; rw [HNb.out]; exact h1⟩, HB1.out⟩
    · go_wp2
      go_ret
      exact ⟨SayB.no, HB1.out⟩

set_option maxHeartbeats 2000000 in
theorem fits3_any (A : Option Addr) (n c : Nat) (ps : List PartL) (w : World) (hn : n ≤ 9223372036854775807) (hbig : ∀ p ∈ ps, p.1.length ≤ 9223372036854775807 ∧ ∀ h ∈ p.1, h.2.length ≤ 9223372036854775807) (hr : RdP w w.heap.size A n ps) :
    Calls Tryd.prog 14 #[.slice A n c] w fun e w' => SayB (Few ps ∧ ∀ p ∈ ps, FitP p) e ∧ Below w.heap.size w w' := by
  by_cases h1 : n ≤ 2147483647
  · have HR := Lib.hid hr
    have HG := Lib.hid hbig
    clear hr hbig
    go_enter Tryd.func14, Tryd.ntmps14
    go_wp2_with fail
    go_loopw [10] (fun i wr => ∃ k : Nat, k ≤ n ∧ i = .int .i64 k ∧ Hid (∀ (i : Nat) p, i < k → ps[i]? = some p → FitP p) ∧ Hid (Below w.heap.size w wr)) (fun i _ => n - (intOf i).toNat)
    case atStart => exact ⟨0, Nat.zero_le _, rfl, Lib.hid fun i s h => absurd h (by omega), Lib.hid (Below.refl _ _)⟩
    case round =>
      obtain ⟨k, hk, rfl, HP, HB⟩ := hrel
      by_cases hlt : k < n
      · obtain ⟨b, o, rfl, hb, hc⟩ := HR.out.2 (by omega)
        obtain ⟨p, hp⟩ : ∃ x, ps[k]? = some x := ⟨_, List.getElem?_eq_getElem (by rw [HR.out.1]; exact hlt)⟩
        obtain ⟨Ah, nh, ch, Ab, nb, cb, c1, c2, hH, hY⟩ := hc k p hp
        have d1 := (HB.out.cell (p := ⟨b, o + k * 2, none⟩) hb).trans c1
        have d2 := (HB.out.cell (p := ⟨b, o + k * 2 + 1, none⟩) hb).trans c2
        have hg := HG.out p (List.mem_of_getElem? hp)
        have hal := (Below.refl wr.heap.size wr).alloc (Nat.le_refl _) (.cells #[.slice Ah nh ch, .slice Ab nb cb] 41)
        have HBa := Lib.hid (HB.out.trans (hal.mono HB.out.size))
        have HC := Lib.hid (fits4_any p Ah Ab nh ch nb cb _ (by rw [← hH.1]; exact hg.1) hg.2 ((hH.below HBa.out).more HBa.out.size) hY.len)
        clear hc c1 c2 hal hH hY hg
        go_wp2_with fail
        refine (HC.out).mono ?_
        rintro e w1 ⟨⟨y, rfl, hy⟩, hb1⟩
        have HB1 := Lib.hid (HBa.out.trans (hb1.mono HBa.out.size))
        have HY := Lib.hid hy
        clear hy hb1
        cases y
        · go_wp2
          go_ret
          exact ⟨SayB.no, HB1.out⟩
        · have HN := Lib.hid (idx_succ HP.out hp (HY.out rfl))
          clear hp
          go_wp2_with fail
          go_roundw
          case rel => exact ⟨k + 1, by omega, by go_num, HN, HB1⟩
          case measure => simp [intOf]; omega
      · have HN := Lib.hid (show Few ps ∧ ∀ p ∈ ps, FitP p from ⟨by show _ ≤ _; rw [HR.out.1]; exact h1, all_of_idx (n := k) (by rw [HR.out.1]; omega) HP.out⟩)
        go_wp2
        go_ret
        exact ⟨SayB.yes HN.out, HB.out⟩
  · clear hr hbig
    go_enter Tryd.func14, Tryd.ntmps14
    go_wp2
    go_ret
    exact ⟨SayB.no, Below.refl _ _⟩

end Go.Proofs.YtklkgddldndmmaaDoor

/- Lists of parts put one behind the other: their cells, their text. -/
namespace Go.Proofs.YtklkgddldndmmaaDoor
open Go.RowKit
set_option linter.unusedVariables false
set_option linter.unusedSimpArgs false

/-- The cells of a []Part. -/
def CellsP (w : World) (B : Nat) (ps : List PartL) (cs : List Value) : Prop :=
  cs.length = ps.length * 2 ∧ (∀ u ∈ cs, u.oneCell' = true) ∧ ∀ (i : Nat) p, ps[i]? = some p → ∃ Ah nh ch Ab nb cb, cs[i * 2]? = some (.slice Ah nh ch) ∧ cs[i * 2 + 1]? = some (.slice Ab nb cb) ∧ RdH w B Ah nh p.1 ∧ RdB w B Ab nb p.2 ∧ nh ≤ ch ∧ ch ≤ 9223372036854775807 ∧ nb ≤ cb

theorem pairs_at : ∀ (l : List (Value × Value)) (i : Nat), (l.flatMap fun p => [p.1, p.2])[i * 2]? = l[i]?.map (·.1) ∧ (l.flatMap fun p => [p.1, p.2])[i * 2 + 1]? = l[i]?.map (·.2)
  | [], i => by simp
  | x :: r, 0 => by simp
  | x :: r, i + 1 => by
    have := pairs_at r i
    rw [show (i + 1) * 2 = i * 2 + 1 + 1 by omega]
    simpa using this
theorem pairs_len : ∀ (l : List (Value × Value)), (l.flatMap fun p => [p.1, p.2]).length = l.length * 2
  | [] => rfl
  | x :: r => by
    rw [List.flatMap_cons, List.length_append, pairs_len r, List.length_cons]
    simp
    omega
theorem choose_list' {α : Type} {P : Nat → α → Prop} : ∀ n : Nat, (∀ i, i < n → ∃ x, P i x) → ∃ l : List α, l.length = n ∧ ∀ (i : Nat) x, l[i]? = some x → P i x
  | 0, _ => ⟨[], rfl, fun i x h => by simp at h⟩
  | n + 1, h => by
    obtain ⟨l, hl, hp⟩ := choose_list' n (fun i hi => h i (by omega))
    obtain ⟨x, hx⟩ := h n (by omega)
    refine ⟨l ++ [x], by simp [hl], fun i y hy => ?_⟩
    by_cases hi : i < n
    · rw [List.getElem?_append_left (by omega)] at hy
      exact hp i y hy
    · have h1 := (List.getElem?_eq_some_iff.1 hy).1
      simp [hl] at h1
      obtain rfl : i = n := by omega
      rw [List.getElem?_append_right (by omega), hl] at hy
      simp at hy
      subst hy
      exact hx

theorem RdQ.cells {w : World} {B : Nat} {A : Option Addr} {n : Nat} {ps : List PartL} (h : RdQ w B A n ps) : ∃ cs, Rd w B 2 A n cs ∧ CellsP w B ps cs := by
  rcases Nat.eq_zero_or_pos n with h0 | h0
  · subst h0
    have : ps = [] := List.eq_nil_of_length_eq_zero h.1
    subst this
    exact ⟨[], ⟨rfl, fun h => absurd h (by omega)⟩, rfl, fun u hu => by simp at hu, fun i p hp => by simp at hp⟩
  · obtain ⟨b, o, rfl, hb, hc⟩ := h.2 h0
    obtain ⟨l, hl, hp⟩ := choose_list' (α := Value × Value) (P := fun i x => w.cell? ⟨b, o + i * 2, none⟩ = some x.1 ∧ w.cell? ⟨b, o + i * 2 + 1, none⟩ = some x.2 ∧ ∀ p, ps[i]? = some p → ∃ Ah nh ch Ab nb cb, x.1 = .slice Ah nh ch ∧ x.2 = .slice Ab nb cb ∧ RdH w B Ah nh p.1 ∧ RdB w B Ab nb p.2 ∧ nh ≤ ch ∧ ch ≤ 9223372036854775807 ∧ nb ≤ cb) n (fun i hi => by
      obtain ⟨p, hp⟩ : ∃ p, ps[i]? = some p := ⟨_, List.getElem?_eq_getElem (by rw [h.1]; exact hi)⟩
      obtain ⟨Ah, nh, ch, Ab, nb, cb, c1, c2, h1, h2, h3, h4, h5⟩ := hc i p hp
      refine ⟨(_, _), c1, c2, fun q hq => ?_⟩
      rw [hp] at hq
      obtain rfl := Option.some.inj hq
      exact ⟨Ah, nh, ch, Ab, nb, cb, rfl, rfl, h1, h2, h3, h4, h5⟩)
    have hget : ∀ (i : Nat) p, ps[i]? = some p → ∃ x, l[i]? = some x := fun i p hi => ⟨_, List.getElem?_eq_getElem (by rw [hl, ← h.1]; exact (List.getElem?_eq_some_iff.1 hi).1)⟩
    refine ⟨l.flatMap fun p => [p.1, p.2], ⟨by rw [pairs_len, hl], fun _ => ⟨b, o, rfl, hb, fun j u hu => ?_⟩⟩, by rw [pairs_len, hl, h.1], fun u hu => ?_, fun i p hi => ?_⟩
    · obtain ⟨i, hi⟩ : ∃ i, j = i * 2 ∨ j = i * 2 + 1 := ⟨j / 2, by omega⟩
      rcases hi with rfl | rfl
      · rw [(pairs_at l i).1] at hu
        obtain ⟨x, hx, rfl⟩ := Option.map_eq_some_iff.1 hu
        exact (hp i x hx).1
      · rw [(pairs_at l i).2] at hu
        obtain ⟨x, hx, rfl⟩ := Option.map_eq_some_iff.1 hu
        exact (hp i x hx).2.1
    · rw [List.mem_flatMap] at hu
      obtain ⟨x, hx, hu⟩ := hu
      obtain ⟨i, hi⟩ := List.getElem?_of_mem hx
      have hil : i < ps.length := by rw [h.1, ← hl]; exact (List.getElem?_eq_some_iff.1 hi).1
      obtain ⟨Ah, nh, ch, Ab, nb, cb, e1, e2, _⟩ := (hp i x hi).2.2 _ (List.getElem?_eq_getElem hil)
      simp only [List.mem_cons, List.not_mem_nil, or_false] at hu
      rcases hu with rfl | rfl
      · rw [e1]; rfl
      · rw [e2]; rfl
    · obtain ⟨x, hx⟩ := hget i p hi
      obtain ⟨Ah, nh, ch, Ab, nb, cb, e1, e2, hr⟩ := (hp i x hx).2.2 p hi
      refine ⟨Ah, nh, ch, Ab, nb, cb, ?_, ?_, hr⟩
      · rw [(pairs_at l i).1, hx, ← e1]; rfl
      · rw [(pairs_at l i).2, hx, ← e2]; rfl

theorem CellsP.below {w w' : World} {B : Nat} {ps : List PartL} {cs : List Value} (h : CellsP w B ps cs) (hb : Below B w w') : CellsP w' B ps cs :=
  ⟨h.1, h.2.1, fun i p hp => by
    obtain ⟨Ah, nh, ch, Ab, nb, cb, c1, c2, h1, h2, h3⟩ := h.2.2 i p hp
    exact ⟨Ah, nh, ch, Ab, nb, cb, c1, c2, h1.below hb, h2.below hb, h3⟩⟩
theorem CellsP.more {w : World} {B B' : Nat} {ps : List PartL} {cs : List Value} (h : CellsP w B ps cs) (hB : B ≤ B') : CellsP w B' ps cs :=
  ⟨h.1, h.2.1, fun i p hp => by
    obtain ⟨Ah, nh, ch, Ab, nb, cb, c1, c2, h1, h2, h3⟩ := h.2.2 i p hp
    exact ⟨Ah, nh, ch, Ab, nb, cb, c1, c2, h1.more hB, h2.more hB, h3⟩⟩
theorem CellsP.app {w : World} {B : Nat} {a b : List PartL} {ca cb : List Value} (h : CellsP w B a ca) (k : CellsP w B b cb) : CellsP w B (a ++ b) (ca ++ cb) := by
  refine ⟨by rw [List.length_append, List.length_append, h.1, k.1, Nat.add_mul], fun u hu => ?_, fun i p hp => ?_⟩
  · rcases List.mem_append.1 hu with hu | hu
    · exact h.2.1 u hu
    · exact k.2.1 u hu
  · by_cases hi : i < a.length
    · rw [List.getElem?_append_left hi] at hp
      obtain ⟨Ah, nh, ch, Ab, nb, cb, c1, c2, hr⟩ := h.2.2 i p hp
      have hl := h.1
      exact ⟨Ah, nh, ch, Ab, nb, cb, by rw [List.getElem?_append_left (by omega)]; exact c1, by rw [List.getElem?_append_left (by omega)]; exact c2, hr⟩
    · rw [List.getElem?_append_right (by omega)] at hp
      obtain ⟨Ah, nh, ch, Ab, nb, cb, c1, c2, hr⟩ := k.2.2 (i - a.length) p hp
      have hl := h.1
      refine ⟨Ah, nh, ch, Ab, nb, cb, ?_, ?_, hr⟩
      · rw [List.getElem?_append_right (by omega), hl, show i * 2 - a.length * 2 = (i - a.length) * 2 by omega]; exact c1
      · rw [List.getElem?_append_right (by omega), hl, show i * 2 + 1 - a.length * 2 = (i - a.length) * 2 + 1 by omega]; exact c2
theorem CellsP.rdq {w : World} {B n : Nat} {A : Option Addr} {ps : List PartL} {cs : List Value} (h : CellsP w B ps cs) (hr : Rd w B 2 A n cs) : RdQ w B A n ps := by
  have hl := h.1
  have hl2 := hr.1
  refine ⟨by omega, fun hn => ?_⟩
  obtain ⟨b, o, rfl, hb, hc⟩ := hr.2 hn
  refine ⟨b, o, rfl, hb, fun i p hp => ?_⟩
  obtain ⟨Ah, nh, ch, Ab, nb, cb, c1, c2, hr⟩ := h.2.2 i p hp
  exact ⟨Ah, nh, ch, Ab, nb, cb, hc _ _ c1, by rw [Nat.add_assoc]; exact hc _ _ c2, hr⟩

/-! ### The text -/
theorem bodyFrom_pos (bd : List UInt8) : ∀ (ps : List PartL) (k k' : Nat), 0 < k → 0 < k' → bodyFrom bd k ps = bodyFrom bd k' ps
  | [], _, _, _, _ => rfl
  | p :: r, k, k', h, h' => by
    simp only [bodyFrom]
    rw [bodyFrom_pos bd r (k + 1) (k' + 1) (by omega) (by omega)]
    unfold sepT
    rw [if_neg (by omega), if_neg (by omega)]
theorem bodyFrom_sep (bd : List UInt8) (ps : List PartL) (k : Nat) (h : 0 < k) (h0 : ps ≠ []) : bodyFrom bd k ps = crlf ++ bodyT bd ps := by
  cases ps with
  | nil => exact absurd rfl h0
  | cons p r =>
    unfold bodyT
    simp only [bodyFrom]
    rw [bodyFrom_pos bd r (k + 1) (0 + 1) (by omega) (by omega)]
    unfold sepT
    rw [if_neg (by omega), if_pos rfl]
    simp only [List.append_assoc, List.nil_append]
theorem writeT_app (bd : List UInt8) (a b : List PartL) (ha : a ≠ []) (hb : b ≠ []) : writeT bd (a ++ b) = bodyT bd a ++ crlf ++ writeT bd b := by
  unfold writeT
  have : bodyT bd (a ++ b) = bodyT bd a ++ (crlf ++ bodyT bd b) := by
    have h := bodyFrom_app bd a b 0
    unfold bodyT at h ⊢
    rw [h, bodyFrom_sep bd b _ (by have := List.length_pos_iff.2 ha; omega) hb]
    rfl
  rw [this]
  simp only [List.append_assoc]
theorem bodyFrom_len (bd : List UInt8) (m : Nat) : ∀ (ps : List PartL) (k : Nat), (∀ p ∈ ps, (headT p.1).length ≤ 100000 ∧ p.2.length ≤ m) → (bodyFrom bd k ps).length ≤ ps.length * (bd.length + 100008 + m)
  | [], _, _ => by simp [bodyFrom]
  | p :: r, k, h => by
    have h1 := bodyFrom_len bd m r (k + 1) (fun q hq => h q (List.mem_cons_of_mem _ hq))
    have h2 := h p (List.mem_cons_self ..)
    have h3 : (sepT k).length ≤ 2 := by unfold sepT; split <;> simp [crlf]
    have h4 : (crlf : List UInt8).length = 2 := rfl
    have h5 : (dashes : List UInt8).length = 2 := rfl
    simp only [bodyFrom, delimT, partT, List.length_append, List.length_cons]
    rw [Nat.add_mul, Nat.one_mul]
    omega
theorem bodyT_len {bd : ByteArray} {ps : List PartL} (hg : GoodP ps bd) {m n : Nat} (hm : ∀ p ∈ ps, p.2.length ≤ m) (hn : ps.length ≤ n) : (bodyT bd.data.toList ps).length ≤ n * (100078 + m) := by
  have hb : bd.size ≤ 70 := by
    have h := hg.2
    unfold boundB at h
    rw [len_data] at h
    simp at h
    omega
  have h1 := bodyFrom_len bd.data.toList m ps 0 (fun p hp => ⟨(hg.1 p hp).1.txt, hm p hp⟩)
  rw [len_data] at h1
  refine Nat.le_trans h1 (Nat.le_trans (Nat.mul_le_mul_left _ (show bd.size + 100008 + m ≤ 100078 + m by omega)) (Nat.mul_le_mul_right _ hn))
theorem GoodP.app {a b : List PartL} {bd : ByteArray} (ha : GoodP a bd) (hb : GoodP b bd) : GoodP (a ++ b) bd := ⟨fun p hp => by
  rcases List.mem_append.1 hp with h | h
  · exact ha.1 p h
  · exact hb.1 p h, ha.2⟩

end Go.Proofs.YtklkgddldndmmaaDoor

/- The walk of impl.Write. -/
namespace Go.Proofs.YtklkgddldndmmaaDoor
open Go.RowKit
set_option linter.unusedVariables false
set_option linter.unusedSimpArgs false

/-- What holds behind k parts. -/
structure LInv (W0 : World) (b : Nat) (bd : ByteArray) (ps : List PartL) (k : Nat) (w : World) : Prop where
  st : WSt W0.heap.size W0.heap.size b bd k (bodyT bd.data.toList (ps.take k)) w.heap.size w
  below : Below W0.heap.size W0 w

set_option maxRecDepth 1000000 in
set_option maxHeartbeats 8000000 in
theorem write_cap (bd : ByteArray) (A : Option Addr) (n c : Nat) (ps : List PartL) (W0 : World) (hb : boundB bd.data.toList = true) (hr : RdP W0 W0.heap.size A n ps) (h0 : 0 < n) (hn : n ≤ 2147483647) (hf : ∀ p ∈ ps, Fit p) (hlim : (bodyT bd.data.toList ps).length ≤ 140737488000000) :
    Calls Tryd.prog 16 #[.string bd, .slice A n c] W0 fun e w' => ∃ g c, e = .returned (.tuple #[.slice (some ⟨g, 0, none⟩) (writeT bd.data.toList ps).length c, .bool true]) ∧ RdB w' w'.heap.size (some ⟨g, 0, none⟩) (writeT bd.data.toList ps).length (writeT bd.data.toList ps) ∧ (writeT bd.data.toList ps).length ≤ c ∧ Below W0.heap.size W0 w' := by
  have hlen : bd.data.toList.length = bd.size := by simp
  have hbd : bd.size ≤ 70 := by
    have h' := hb
    unfold boundB at h'
    rw [hlen] at h'
    simp at h'
    omega
  have HR := Lib.hid hr
  have HF := Lib.hid hf
  have HL := Lib.hid hlim
  clear hr hf hlim
  go_enter Tryd.func16, Tryd.ntmps16
  go_wp2_with fail
  refine (writer_any _ _).mono ?_
  rintro e w1 ⟨rfl, rfl⟩
  obtain ⟨b, hbe⟩ : ∃ b, b = W0.heap.size + 1 := ⟨_, rfl⟩
  obtain ⟨w1, hw1⟩ : ∃ x, x = (W0.alloc (.cells #[.slice none 0 0, .int .i64 0, .int .i8 0] 59)).alloc (.cells #[.iface 55 (.pointer (some ⟨W0.heap.size, 0, none⟩)), .string ⟨#[]⟩, .pointer none] 95 (0, 0)) := ⟨_, rfl⟩
  have hbf1 : Buf w1 W0.heap.size W0.heap.size [] := by rw [hw1]; exact (Lib.fresh_isBuffer 59 5 W0).alloc _
  have hwr1 : Wr w1 b (.iface 55 (.pointer (some ⟨W0.heap.size, 0, none⟩))) ⟨#[]⟩ none := by
    unfold Wr
    rw [hw1]
    have hn := heap_alloc_new (W0.alloc (.cells #[.slice none 0 0, .int .i64 0, .int .i8 0] 59)) (.cells #[.iface 55 (.pointer (some ⟨W0.heap.size, 0, none⟩)), .string ⟨#[]⟩, .pointer none] 95 (0, 0))
    rw [show (W0.alloc (.cells #[.slice none 0 0, .int .i64 0, .int .i8 0] 59)).heap.size = b by rw [hbe]; simp] at hn
    exact hn
  have hB1 : Below W0.heap.size W0 w1 := by rw [hw1]; exact ((Below.refl W0.heap.size W0).alloc (Nat.le_refl _) _).alloc (by simp) _
  have hBb : W0.heap.size ≤ b := by omega
  go_wp2_with fail
  rw [← hw1, ← hbe]
  have HBe := Lib.hid hbe
  clear hw1 hbe
  refine (set_ok W0.heap.size W0.heap.size b _ _ bd [] w1 hwr1 hbf1 hBb hb).mono ?_
  rintro e w2 ⟨rfl, hwr2, hbf2, hB2⟩
  have HI0 := Lib.hid (show LInv W0 b bd ps 0 w2 from ⟨⟨hbf2, ⟨hBb, hbf2.lt, hwr2.lt⟩, .inl ⟨rfl, hwr2⟩⟩, hB1.trans hB2⟩)
  clear hwr1 hbf1 hB1 hwr2 hbf2 hB2
  go_wp2_with fail
  go_loopw [21] (fun i wr => ∃ k : Nat, k ≤ n ∧ i = .int .i64 k ∧ Hid (LInv W0 b bd ps k wr)) (fun i _ => n - (intOf i).toNat)
  case atStart => exact ⟨0, Nat.zero_le _, rfl, HI0⟩
  case round =>
    obtain ⟨k, hk, rfl, HI⟩ := hrel
    by_cases hlt : k < n
    · obtain ⟨bA, oA, rfl, hbA, hcA⟩ := HR.out.2 (by omega)
      have hkl : k < ps.length := by have := HR.out.1; omega
      obtain ⟨p, hp⟩ : ∃ x, ps[k]? = some x := ⟨_, List.getElem?_eq_getElem hkl⟩
      obtain ⟨Ah, nh, ch, Ab, nb, cb, c1, c2, hH, hBy⟩ := hcA k p hp
      have d1 := (HI.out.below.cell (p := ⟨bA, oA + k * 2, none⟩) hbA).trans c1
      have d2 := (HI.out.below.cell (p := ⟨bA, oA + k * 2 + 1, none⟩) hbA).trans c2
      clear hcA c1 c2
      have hF := HF.out p (List.mem_of_getElem? hp)
      have hnh : nh ≤ 1000 := by have h1 := hH.1; have h2 := hF.len; omega
      have hbl := body_len bd.data.toList hp
      have hnb := hBy.len
      have hlim := HL.out
      have hal := (Below.refl wr.heap.size wr).alloc (Nat.le_refl _) (.cells #[.slice Ah nh ch, .slice Ab nb cb] 41)
      have hsz0 : W0.heap.size ≤ wr.heap.size := HI.out.below.size
      have k1 : (wr.alloc (.cells #[.slice Ah nh ch, .slice Ab nb cb] 41)).heap[wr.heap.size]? = some (.cells #[.slice Ah nh ch, .slice Ab nb cb] 41 (0, 0)) := heap_alloc_new wr _
      obtain ⟨wa, hwa⟩ : ∃ y, y = wr.alloc (.cells #[.slice Ah nh ch, .slice Ab nb cb] 41) := ⟨_, rfl⟩
      have hBa : Below W0.heap.size W0 wa := by rw [hwa]; exact HI.out.below.trans (hal.mono hsz0)
      have HSa := Lib.hid (show WSt W0.heap.size W0.heap.size b bd k (bodyT bd.data.toList (ps.take k)) wr.heap.size wa by rw [hwa]; exact HI.out.st.below hal)
      have HHa := Lib.hid ((hH.below hBa).more hBa.size)
      have HYa := Lib.hid (hBy.below hBa)
      have hsa : wa.heap.size = wr.heap.size + 1 := by rw [hwa]; simp
      rw [← hwa] at k1
      have Hsa := Lib.hid hsa
      clear hal hH hBy hsa
      go_wp2_with fail
      rw [← hwa]
      clear hwa
      have cell0 : wa.cell? ⟨wr.heap.size, 0, none⟩ = some (.slice Ah nh ch) := by rw [Lib.cell_of_heap k1]; rfl
      go_wp2_with fail
      refine (head_any Ah nh ch p.1 wa hnh HHa.out hF.asc).mono ?_
      rintro e w3 ⟨rfl, gs, HIn⟩
      have hB3 := HIn.below
      have HO := HIn.ok HHa.out.1
      have hsz3 : W0.heap.size ≤ w3.heap.size := Nat.le_trans hBa.size hB3.size
      clear HIn cell0
      go_wp2_with fail
      refine (create_any (HSa.out.below hB3) HO hF.asc hnh hF.txt (Nat.le_trans hBa.size hB3.size) (by omega) (by omega)).mono ?_
      rintro e w4 ⟨p', rfl, hN⟩
      have hb4 : Below W0.heap.size W0 w4 := hBa.trans ((hB3.mono hBa.size).trans hN.made.below)
      have hk4 : w4.heap[wr.heap.size]? = some (.cells #[.slice Ah nh ch, .slice Ab nb cb] 41 (0, 0)) :=
        hN.kept wr.heap.size _ ((hB3.block wr.heap.size (by rw [Hsa.out]; omega)).trans k1) (Nat.lt_irrefl _) (fun c fz e => by cases e)
      have cell1 : w4.cell? ⟨wr.heap.size, 1, none⟩ = some (.slice Ab nb cb) := by rw [Lib.cell_of_heap hk4]; rfl
      have hlt4 : wr.heap.size < w4.heap.size := (Array.getElem?_eq_some_iff.1 hk4).1
      have n1' := fun w => nil_ahead93 ⟨p', 0, none⟩ w
      have n2' := fun w => method_write93 ⟨p', 0, none⟩ w
      have HN := Lib.hid hN
      have HR4 := Lib.hid ((HYa.out.below (hB3.mono hBa.size)).below hN.made.below |>.more (B' := w4.heap.size) hb4.size)
      have HW := Lib.hid (fun (W : World) (A : Option Addr) (c : Nat) (hA : AppAfter w4 W A p.2) => partWrite_app W0.heap.size W0.heap.size b p' bd _ _ p.2 nb w4 hN.made.buf hN.made.wr hN.made.pt hnb (by rw [List.length_append]; simp only [List.length_append, sepT, delimT, dashes, crlf]; split <;> simp <;> omega) hb4.size W A c hA)
      clear hN hk4 k1 HO hB3 hF
      go_wp2_with fail
      go_cut [11] from 36 to 47 (fun s11 wx => s11 = .nilIface ∧ Buf wx W0.heap.size W0.heap.size (bodyT bd.data.toList (ps.take k) ++ (sepT k ++ delimT bd.data.toList ++ headT p.1 ++ crlf) ++ p.2) ∧ Below W0.heap.size w4 wx ∧ Kept (fun k => k = W0.heap.size) w4 wx)
      case first =>
        go_region_law (first
          | (refine step_append_lit w4 _ rfl (.tmp 38) (.tmp 40) rfl ?_ (by simp [Act.eval, Act.put]) w4.heap.size Ab nb cb p.2 (by simp [Act.eval, Act.put]) HR4.out (Nat.le_refl _) (by omega) ?_; (repeat (first | exact LitAfter.row _ | refine LitAfter.drew ?_)); intro A' c' W' hA')
          | (go_simp; go_at_call 131; go_must (refine (HW.out _ _ _ ?_).mono ?_; (repeat (first | exact hA' | refine AppAfter.drew ?_)); rintro e w' ⟨rfl, hI, hb, hk⟩)))
        all_goals (go_wp2_with fail; (try go_simp); go_meet; exact ⟨rfl, hI, hb, hk⟩)
      obtain ⟨rfl, hI5, hB5, hK5⟩ := hcut
      have HE := Lib.hid (show LInv W0 b bd ps (k + 1) wc from ⟨by
        have h := HN.out.st k hsz3 hBb hI5 hK5 (M' := wc.heap.size) hB5.size
        rw [take_at hp, bodyT_snoc]
        have hlk : (ps.take k).length = k := by rw [List.length_take]; omega
        rw [hlk]
        simpa only [partT, List.append_assoc] using h, hb4.trans hB5⟩)
      clear hI5 hB5 hK5
      go_wp2_with fail
      go_roundw
      case rel => exact ⟨k + 1, by omega, by go_num, HE⟩
      case measure => simp [intOf]; omega
    · have hke : k = n := by omega
      have hI := HI.out
      rw [hke] at hI
      have hBx := hI.below
      have hlim := HL.out
      have hst := hI.st
      rw [List.take_of_length_le (by rw [HR.out.1]; exact Nat.le_refl _)] at hst
      obtain ⟨hbx, _, hwx⟩ := hst
      rcases hwx with ⟨h1, _⟩ | ⟨_, p, hwx, hpx, hBp, _⟩
      · exact absurd h1 (by omega)
      clear hI hke
      go_wp2_with fail
      refine (shut_any W0.heap.size W0.heap.size b p false bd _ wr hbx hwx hpx hBb hBp hBx.size (by omega) hlim).mono ?_
      rintro e w8 ⟨rfl, hI8, hB8, _⟩
      have hB8' := hBx.trans hB8
      have hI9 : Buf w8 W0.heap.size W0.heap.size (writeT bd.data.toList ps) := hI8
      obtain ⟨g, c', HBy, hRd, hcap⟩ := bytes_cap W0.heap.size W0.heap.size _ w8 hI9 (by simp [writeT, closeT, crlf])
      have HBy := Lib.hid HBy
      obtain ⟨LL, hLL⟩ : ∃ x, writeT bd.data.toList ps = x := ⟨_, rfl⟩
      rw [hLL] at HBy hRd hcap
      have HCap := Lib.hid hcap
      clear hcap
      have HLL := Lib.hid hLL
      clear hI8 hI9 hB8 hBx hbx hwx hpx hLL
      go_wp2_with fail
      go_quiet ((go_at_call 38; refine Calls.quiet_of (HBy.out _)))
      go_wp2
      go_ret2
      rw [HLL.out]
      exact ⟨_, _, rfl, hRd, HCap.out, hB8'.trans (below_drewN (Below.refl _ _) _)⟩

theorem write_any (bd : ByteArray) (A : Option Addr) (n c : Nat) (ps : List PartL) (W0 : World) (hb : boundB bd.data.toList = true) (hr : RdP W0 W0.heap.size A n ps) (h0 : 0 < n) (hn : n ≤ 2147483647) (hf : ∀ p ∈ ps, Fit p) (hlim : (bodyT bd.data.toList ps).length ≤ 140737488000000) :
    Calls Tryd.prog 16 #[.string bd, .slice A n c] W0 fun e w' => ∃ g c, e = .returned (.tuple #[.slice (some ⟨g, 0, none⟩) (writeT bd.data.toList ps).length c, .bool true]) ∧ RdB w' w'.heap.size (some ⟨g, 0, none⟩) (writeT bd.data.toList ps).length (writeT bd.data.toList ps) ∧ Below W0.heap.size W0 w' :=
  (write_cap bd A n c ps W0 hb hr h0 hn hf hlim).mono fun e w' ⟨g, c', he, h1, _, h2⟩ => ⟨g, c', he, h1, h2⟩

end Go.Proofs.YtklkgddldndmmaaDoor
