/- The walks of spec.Good, and of what bounds lists of parts. -/
import Derived.Test.YtklkgddldndmmaaDoorGoodA
import Derived.Test.YtklkgddldndmmaaDoorBoundary
import Derived.Deep.CutRange
namespace Go.Proofs.YtklkgddldndmmaaDoor
open Go.RowKit
set_option linter.unusedVariables false
set_option linter.unusedSimpArgs false

theorem free_q {A : Option Addr} {n c B : Nat} {bd : ByteArray} {l : List UInt8} (b : Bool) (h : freeB l bd.data.toList = b) {w : World} (hnc : n ≤ c) (hn : n ≤ 140737488000000) (hbd : bd.size ≤ 16777216) (hB : B ≤ w.heap.size) (hr : RdB w B A n l) :
    Calls Tryd.prog 36 #[.slice A n c, .string bd] w fun e' w' => e' = .returned (.bool b) ∧ Below w.heap.size w w' :=
  (free_any A n c B bd l w hnc hn hbd hB hr).mono fun _ _ ⟨he, hw⟩ => ⟨by rw [he, h], hw⟩

set_option maxRecDepth 100000 in
set_option maxHeartbeats 4000000 in
theorem good_any (A : Option Addr) (n c : Nat) (ps : List PartL) (bd : ByteArray) (w : World) (hn : n ≤ 2147483647) (hbd : bd.size ≤ 16777216) (hf : ∀ p ∈ ps, FitHs p.1) (hlen : ∀ p ∈ ps, p.2.length ≤ 140737488000000) (hr : RdQ w w.heap.size A n ps) :
    Calls Tryd.prog 15 #[.slice A n c, .string bd] w fun e w' => SayB (GoodP ps bd) e ∧ Below w.heap.size w w' := by
  have HR := Lib.hid hr
  have HF := Lib.hid hf
  have HLn := Lib.hid hlen
  obtain ⟨ok, hok⟩ : ∃ ok, boundB bd.data.toList = ok := ⟨_, rfl⟩
  have HB0 := Lib.hid (bound_q bd (by omega) ok hok)
  have HOk := Lib.hid hok
  clear hr hf hlen hok
  go_enter Tryd.func15, Tryd.ntmps15
  go_wp2_with fail
  go_loopw [9] (fun i wr => ∃ k : Nat, k ≤ n ∧ i = .int .i64 k ∧ Hid (∀ (i : Nat) p, i < k → ps[i]? = some p → HeadOk p.1 ∧ freeB p.2 bd.data.toList = true) ∧ Hid (Below w.heap.size w wr)) (fun i _ => n - (intOf i).toNat)
  case atStart => exact ⟨0, Nat.zero_le _, rfl, Lib.hid (fun i p h => absurd h (by omega)), Lib.hid (Below.refl _ _)⟩
  case round =>
    obtain ⟨k, hk, rfl, HP, HB⟩ := hrel
    by_cases hlt : k < n
    · obtain ⟨b, o, rfl, hb, hcl⟩ := HR.out.2 (by omega)
      obtain ⟨p, hp⟩ : ∃ p, ps[k]? = some p := ⟨_, List.getElem?_eq_getElem (by rw [HR.out.1]; exact hlt)⟩
      obtain ⟨Ah, nh, ch, Ab, nb, cb, c1, c2, hH, hY, hch, hcm, hcb⟩ := hcl k p hp
      have d1 := (HB.out.cell (p := ⟨b, o + k * 2, none⟩) hb).trans c1
      have d2 := (HB.out.cell (p := ⟨b, o + k * 2 + 1, none⟩) hb).trans c2
      have hnb : nb ≤ 140737488000000 := by have h := HLn.out p (List.mem_of_getElem? hp); have h2 := hY.len; omega
      have hfp := HF.out p (List.mem_of_getElem? hp)
      have hsz0 := HB.out.size
      have hal := (Below.refl wr.heap.size wr).alloc (Nat.le_refl _) (.cells #[.slice Ah nh ch, .slice Ab nb cb] 41)
      have g1 : (wr.alloc (.cells #[.slice Ah nh ch, .slice Ab nb cb] 41)).heap[wr.heap.size]? = some (.cells #[.slice Ah nh ch, .slice Ab nb cb] 41 (0, 0)) := heap_alloc_new wr _
      obtain ⟨wa, hwa⟩ : ∃ y, y = wr.alloc (.cells #[.slice Ah nh ch, .slice Ab nb cb] 41) := ⟨_, rfl⟩
      have HBa := Lib.hid (show Below w.heap.size w wa by rw [hwa]; exact HB.out.trans (hal.mono hsz0))
      have hsa : wr.heap.size < wa.heap.size := by rw [hwa]; simp
      rw [← hwa] at g1
      have k1 : wa.cell? ⟨wr.heap.size, 0, none⟩ = some (.slice Ah nh ch) := by rw [Lib.cell_of_heap g1]; rfl
      have k2 : wa.cell? ⟨wr.heap.size, 1, none⟩ = some (.slice Ab nb cb) := by rw [Lib.cell_of_heap g1]; rfl
      have HHd := Lib.hid (headC_any Ah nh ch p.1 wa hch hcm hfp ((hH.below HBa.out).more HBa.out.size))
      have HYa := Lib.hid (hY.below HBa.out)
      have hHl : p.1.length = nh := hH.1
      have HP2 := Lib.hid hp
      clear hcl c1 c2 hH hY g1 hal hp hfp
      go_wp2_with fail
      rw [← hwa]
      clear hwa d1 d2
      go_wp2_with fail
      refine HHd.out.mono ?_
      rintro e w1 ⟨⟨x, rfl, hx⟩, hb1⟩
      have HB1 := Lib.hid (HBa.out.trans (hb1.mono HBa.out.size))
      cases x with
      | false =>
        clear hx hb1
        go_wp2
        go_ret
        exact ⟨SayB.no, HB1.out⟩
      | true =>
        have HX := Lib.hid (show HeadOk p.1 by unfold HeadOk; rw [hHl]; exact hx rfl)
        have k2' := (hb1.cell (p := ⟨wr.heap.size, 1, none⟩) hsa).trans k2
        have HYb := Lib.hid ((HYa.out.below (hb1.mono HBa.out.size)).more (B' := w1.heap.size) HB1.out.size)
        clear hx hb1 k1 k2
        cases hfr : freeB p.2 bd.data.toList with
        | false =>
          have HFr := Lib.hid (free_q (A := Ab) (n := nb) (c := cb) false hfr hcb hnb hbd (Nat.le_refl _) HYb.out)
          clear hfr
          go_wp2_with fail
          refine HFr.out.mono ?_
          rintro e w2 ⟨rfl, hb2⟩
          have HB2 := Lib.hid (HB1.out.trans (hb2.mono HB1.out.size))
          clear hb2
          go_wp2
          go_ret
          exact ⟨SayB.no, HB2.out⟩
        | true =>
          have HFr := Lib.hid (free_q (A := Ab) (n := nb) (c := cb) true hfr hcb hnb hbd (Nat.le_refl _) HYb.out)
          have HN := Lib.hid (idx_succ HP.out HP2.out ⟨HX.out, hfr⟩)
          clear hfr
          go_wp2_with fail
          refine HFr.out.mono ?_
          rintro e w2 ⟨rfl, hb2⟩
          have HB2 := Lib.hid (HB1.out.trans (hb2.mono HB1.out.size))
          clear hb2
          go_wp2_with fail
          go_roundw
          case rel => exact ⟨k + 1, by omega, by go_num, HN, HB2⟩
          case measure => simp [intOf]; omega
    · have HN := Lib.hid (all_of_idx (n := k) (by rw [HR.out.1]; omega) HP.out)
      go_wp2_with fail
      refine (HB0.out _).mono ?_
      rintro e w1 ⟨rfl, rfl⟩
      go_wp2
      go_ret
      exact ⟨⟨ok, rfl, fun h => ⟨HN.out, by rw [HOk.out, h]⟩⟩, HB.out⟩

def FitP (p : PartL) : Prop := FitHs p.1 ∧ Few p.2
set_option maxHeartbeats 2000000 in
theorem fits4_any (p : PartL) (Ah Ab : Option Addr) (nh ch nb cb : Nat) (w : World) (hn : nh ≤ 9223372036854775807) (hbig : ∀ h ∈ p.1, h.2.length ≤ 9223372036854775807) (hr : RdH w w.heap.size Ah nh p.1) (hnb : p.2.length = nb) :
    Calls Tryd.prog 34 #[.agg #[.slice Ah nh ch, .slice Ab nb cb]] w fun e w' => SayB (FitP p) e ∧ Below w.heap.size w w' := by
  have hal := (Below.refl w.heap.size w).alloc (Nat.le_refl _) (.cells #[.slice Ah nh ch, .slice Ab nb cb] 41)
  have g1 : (w.alloc (.cells #[.slice Ah nh ch, .slice Ab nb cb] 41)).heap[w.heap.size]? = some (.cells #[.slice Ah nh ch, .slice Ab nb cb] 41 (0, 0)) := heap_alloc_new w _
  have HC := Lib.hid (fits5_any Ah nh ch p.1 (w.alloc (.cells #[.slice Ah nh ch, .slice Ab nb cb] 41)) hn hbig ((hr.below hal).more hal.size))
  have HB := Lib.hid hal
  have HNb := Lib.hid hnb
  have k2 : (w.alloc (.cells #[.slice Ah nh ch, .slice Ab nb cb] 41)).cell? ⟨w.heap.size, 1, none⟩ = some (.slice Ab nb cb) := by rw [Lib.cell_of_heap g1]; rfl
  have K2 := Lib.hid k2
  clear hr hal g1 hbig k2 hnb
  go_enter Tryd.func34, Tryd.ntmps34
  go_wp2_with fail
  refine HC.out.mono ?_
  rintro e w1 ⟨⟨x, rfl, hx⟩, hb1⟩
  have HB1 := Lib.hid (HB.out.trans (hb1.mono (by simp)))
  cases x with
  | false =>
    clear hx hb1
    go_wp2
    go_ret
    exact ⟨SayB.no, HB1.out⟩
  | true =>
    have HX := Lib.hid (hx rfl)
    have k2' : w1.cell? ⟨w.heap.size, 1, none⟩ = some (.slice Ab nb cb) := (hb1.cell (p := ⟨w.heap.size, 1, none⟩) (by simp)).trans K2.out
    clear hx hb1
    by_cases h1 : nb ≤ 2147483647
    · go_wp2
      go_ret
      exact ⟨SayB.yes ⟨HX.out, by unfold Few; rw [HNb.out]; exact h1⟩, HB1.out⟩
    · go_wp2
      go_ret
      exact ⟨SayB.no, HB1.out⟩

set_option maxHeartbeats 2000000 in
theorem fits3_any (A : Option Addr) (n c : Nat) (ps : List PartL) (w : World) (hn : n ≤ 9223372036854775807) (hbig : ∀ p ∈ ps, p.1.length ≤ 9223372036854775807 ∧ ∀ h ∈ p.1, h.2.length ≤ 9223372036854775807) (hr : RdP w w.heap.size A n ps) :
    Calls Tryd.prog 14 #[.slice A n c] w fun e w' => SayB (Few ps ∧ ∀ p ∈ ps, FitP p) e ∧ Below w.heap.size w w' := by
  by_cases h1 : n ≤ 2147483647
  · have HR := Lib.hid hr
    have HG := Lib.hid hbig
    clear hr hbig
    go_enter Tryd.func14, Tryd.ntmps14
    go_wp2_with fail
    go_loopw [10] (fun i wr => ∃ k : Nat, k ≤ n ∧ i = .int .i64 k ∧ Hid (∀ (i : Nat) p, i < k → ps[i]? = some p → FitP p) ∧ Hid (Below w.heap.size w wr)) (fun i _ => n - (intOf i).toNat)
    case atStart => exact ⟨0, Nat.zero_le _, rfl, Lib.hid fun i s h => absurd h (by omega), Lib.hid (Below.refl _ _)⟩
    case round =>
      obtain ⟨k, hk, rfl, HP, HB⟩ := hrel
      by_cases hlt : k < n
      · obtain ⟨b, o, rfl, hb, hc⟩ := HR.out.2 (by omega)
        obtain ⟨p, hp⟩ : ∃ x, ps[k]? = some x := ⟨_, List.getElem?_eq_getElem (by rw [HR.out.1]; exact hlt)⟩
        obtain ⟨Ah, nh, ch, Ab, nb, cb, c1, c2, hH, hY⟩ := hc k p hp
        have d1 := (HB.out.cell (p := ⟨b, o + k * 2, none⟩) hb).trans c1
        have d2 := (HB.out.cell (p := ⟨b, o + k * 2 + 1, none⟩) hb).trans c2
        have hg := HG.out p (List.mem_of_getElem? hp)
        have hal := (Below.refl wr.heap.size wr).alloc (Nat.le_refl _) (.cells #[.slice Ah nh ch, .slice Ab nb cb] 41)
        have HBa := Lib.hid (HB.out.trans (hal.mono HB.out.size))
        have HC := Lib.hid (fits4_any p Ah Ab nh ch nb cb _ (by rw [← hH.1]; exact hg.1) hg.2 ((hH.below HBa.out).more HBa.out.size) hY.len)
        clear hc c1 c2 hal hH hY hg
        go_wp2_with fail
        refine (HC.out).mono ?_
        rintro e w1 ⟨⟨y, rfl, hy⟩, hb1⟩
        have HB1 := Lib.hid (HBa.out.trans (hb1.mono HBa.out.size))
        have HY := Lib.hid hy
        clear hy hb1
        cases y
        · go_wp2
          go_ret
          exact ⟨SayB.no, HB1.out⟩
        · have HN := Lib.hid (idx_succ HP.out hp (HY.out rfl))
          clear hp
          go_wp2_with fail
          go_roundw
          case rel => exact ⟨k + 1, by omega, by go_num, HN, HB1⟩
          case measure => simp [intOf]; omega
      · have HN := Lib.hid (show Few ps ∧ ∀ p ∈ ps, FitP p from ⟨by show _ ≤ _; rw [HR.out.1]; exact h1, all_of_idx (n := k) (by rw [HR.out.1]; omega) HP.out⟩)
        go_wp2
        go_ret
        exact ⟨SayB.yes HN.out, HB.out⟩
  · clear hr hbig
    go_enter Tryd.func14, Tryd.ntmps14
    go_wp2
    go_ret
    exact ⟨SayB.no, Below.refl _ _⟩

end Go.Proofs.YtklkgddldndmmaaDoor
