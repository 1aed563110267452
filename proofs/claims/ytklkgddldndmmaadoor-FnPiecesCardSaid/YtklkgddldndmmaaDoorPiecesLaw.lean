/- The walk of the law FnPieces. -/
import Derived.Test.YtklkgddldndmmaaDoorPieces
import Derived.Test.YtklkgddldndmmaaDoorAppendA
namespace Go.Proofs.YtklkgddldndmmaaDoor
open Go.RowKit
set_option linter.unusedVariables false
set_option linter.unusedSimpArgs false

theorem OutRow.cap {w0 w : World} {A : Option Addr} {n c : Nat} {l : List UInt8} (h : OutRow w0 w (.slice A n c) l) : n ≤ c := by
  have hn := h.rd.2
  subst hn
  rcases h.own.2 with ⟨e, h0⟩ | ⟨g, cap, cur, e, h1, h2, h3, h4⟩
  · omega
  · injection e with _ _ e
    subst e
    exact h3
theorem bodyT_len1 {bd : ByteArray} {hs : HdrL} {l : List UInt8} (hg : GoodP [(hs, l)] bd) {m : Nat} (hm : l.length ≤ m) : (bodyT bd.data.toList [(hs, l)]).length ≤ 1 * (100078 + m) :=
  bodyT_len hg (fun p hp => by
    simp only [List.mem_singleton] at hp
    subst hp
    exact hm) (by simp)
theorem rdq_one {w : World} {Ah Ab : Option Addr} {nh ch nb cb : Nat} {hs : HdrL} {l : List UInt8} (rh : RdH w w.heap.size Ah nh hs) (rb : RdB w w.heap.size Ab nb l) (h1 : nh ≤ ch) (h2 : ch ≤ 9223372036854775807) (h3 : nb ≤ cb) :
    RdQ (w.alloc (.cells #[.slice Ah nh ch, .slice Ab nb cb] 41)) (w.alloc (.cells #[.slice Ah nh ch, .slice Ab nb cb] 41)).heap.size (some ⟨w.heap.size, 0, none⟩) 1 [(hs, l)] := by
  have hal := (Below.refl w.heap.size w).alloc (Nat.le_refl _) (.cells #[.slice Ah nh ch, .slice Ab nb cb] 41)
  have hb := heap_alloc_new w (.cells #[.slice Ah nh ch, .slice Ab nb cb] 41)
  refine ⟨rfl, fun _ => ⟨w.heap.size, 0, rfl, by simp, fun i p hp => ?_⟩⟩
  match i, hp with
  | 0, hp =>
    obtain rfl := Option.some.inj hp
    exact ⟨_, _, _, _, _, _, by rw [Lib.cell_of_heap hb]; rfl, by rw [Lib.cell_of_heap hb]; rfl, (rh.below hal).more hal.size, (rb.below hal).more hal.size, h1, h2, h3⟩
  | i + 1, hp => simp at hp

set_option maxRecDepth 100000 in
set_option maxHeartbeats 2000000 in
theorem xpieces (Ah A : Option Addr) (nh ch n c : Nat) (hs : HdrL) (bs : List (List UInt8)) (bd : ByteArray) (w : World) (w0 : bd.size ≤ maxLen) (hH : RdH w w.heap.size Ah nh hs) (hch : nh ≤ ch) (hcm : ch ≤ maxLen) (hbig : ∀ h ∈ hs, h.2.length ≤ maxLen) (hr : RdL w w.heap.size A n bs) (hn : n ≤ maxLen) :
    Calls Tryd.prog 8 #[.slice Ah nh ch, .slice A n c, .string bd] w fun e w' => e = .returned (.bool true) ∧ Below w.heap.size w w' := by
  unfold maxLen at w0 hcm hbig hn
  have HH := Lib.hid hH
  have HR := Lib.hid hr
  have HG := Lib.hid hbig
  have HF5 := Lib.hid (fits5_any Ah nh ch hs w (by omega) hbig hH)
  have HF9 := Lib.hid (fun (W : World) (hW : Below w.heap.size w W) => fits9_any A n c w.heap.size bs W hn (hr.below hW))
  have HBl := Lib.hid (fun (W : World) (hW : Below w.heap.size w W) => blocks_any A n c w.heap.size bs W hn (hr.below hW))
  clear hH hr hbig
  by_cases hb1 : 2147483647 < bd.size
  · go_enter Tryd.func8, Tryd.ntmps8
    go_wp2_with fail
    refine HF5.out.mono ?_
    rintro e w1 ⟨⟨x, rfl, hx⟩, hw1⟩
    have HB1 := Lib.hid hw1
    clear hx hw1
    cases x
    · go_wp2
      go_ret
      exact ⟨rfl, HB1.out⟩
    · go_wp2_with fail
      refine (HF9.out w1 HB1.out).mono ?_
      rintro e w2 ⟨⟨x, rfl, hx⟩, rfl⟩
      clear hx
      cases x
      all_goals
        go_wp2
        go_ret
        exact ⟨rfl, HB1.out⟩
  · have hb2 : bd.size ≤ 2147483647 := by omega
    clear hb1
    go_enter Tryd.func8, Tryd.ntmps8
    go_wp2_with fail
    refine HF5.out.mono ?_
    rintro e w1 ⟨⟨x, rfl, hx⟩, hw1⟩
    have HB1 := Lib.hid hw1
    have HX5 := Lib.hid hx
    clear hx hw1
    cases x with
    | false =>
      go_wp2
      go_ret
      exact ⟨rfl, HB1.out⟩
    | true =>
    have HFh := Lib.hid (HX5.out rfl)
    clear HX5
    go_wp2_with fail
    refine (HF9.out w1 HB1.out).mono ?_
    rintro e w2 ⟨⟨x, rfl, hx⟩, rfl⟩
    clear hx
    cases x with
    | false =>
      go_wp2
      go_ret
      exact ⟨rfl, HB1.out⟩
    | true =>
    go_wp2_with fail
    refine (HBl.out w1 HB1.out).mono ?_
    rintro e w2 ⟨⟨x, rfl, hx⟩, rfl⟩
    have HXb := Lib.hid hx
    clear hx
    cases x with
    | false =>
      go_wp2
      go_ret
      exact ⟨rfl, HB1.out⟩
    | true =>
    have hfl := flat_len 16777216 bs (HXb.out rfl).2
    have hfl2 : bs.flatten.length ≤ 1099511627776 := by
      have h := (HXb.out rfl).1
      have h3 : bs.length * 16777216 ≤ 65536 * 16777216 := Nat.mul_le_mul_right _ h
      omega
    have hn16 : n ≤ 65536 := by have h := (HXb.out rfl).1; have h2 := HR.out.1; omega
    have HFl := Lib.hid hfl2
    clear hfl hfl2 HXb
    by_cases hb3 : bd.size ≤ 16777216
    · have HJ := Lib.hid (join_any A n c bs w1 hn (by have h := HFl.out; omega) ((HR.out.below HB1.out).more HB1.out.size))
      go_wp2_with fail
      refine HJ.out.mono ?_
      rintro e w2 ⟨v, rfl, hO⟩
      have HB2 := Lib.hid (HB1.out.trans (hO.below.mono HB1.out.size))
      obtain ⟨Ab, cb, hv⟩ := hO.slice
      obtain ⟨nb, hnb⟩ : ∃ x, bs.flatten.length = x := ⟨_, rfl⟩
      rw [hnb] at hv
      rw [hv] at hO ⊢
      have HRb := Lib.hid hO.rd.1
      have hcb := hO.cap
      have hal := (Below.refl w2.heap.size w2).alloc (Nat.le_refl _) (.cells #[.slice Ah nh ch, .slice Ab nb cb] 41)
      have g1 : (w2.alloc (.cells #[.slice Ah nh ch, .slice Ab nb cb] 41)).heap[w2.heap.size]? = some (.cells #[.slice Ah nh ch, .slice Ab nb cb] 41 (0, 0)) := heap_alloc_new w2 _
      obtain ⟨wp, hwp⟩ : ∃ y, y = w2.alloc (.cells #[.slice Ah nh ch, .slice Ab nb cb] 41) := ⟨_, rfl⟩
      have hszp : Hid (w2.heap.size + 1 = wp.heap.size) := by show _ = _; rw [hwp]; simp
      rw [← hwp] at g1 hal
      have HBp := Lib.hid (HB2.out.trans (hal.mono HB2.out.size))
      have HRp := Lib.hid ((HRb.out.below hal).more (B' := wp.heap.size) hal.size)
      have HHp := Lib.hid ((HH.out.below HBp.out).more (B' := wp.heap.size) HBp.out.size)
      have HGp := Lib.hid g1
      have HGd := Lib.hid (good_any (some ⟨wp.heap.size, 0, none⟩) 1 1 [(hs, bs.flatten)] bd (wp.alloc (.cells #[.slice Ah nh ch, .slice Ab nb cb] 41)) (by omega) hb3 (fun p hp => by
        simp only [List.mem_singleton] at hp
        subst hp
        exact HFh.out) (fun p hp => by
        simp only [List.mem_singleton] at hp
        subst hp
        have h := HFl.out
        show bs.flatten.length ≤ _
        omega) (rdq_one HHp.out HRp.out hch hcm hcb))
      obtain ⟨p0, p1⟩ : wp.cell? ⟨w2.heap.size, 0, none⟩ = some (.slice Ah nh ch) ∧ wp.cell? ⟨w2.heap.size, 1, none⟩ = some (.slice Ab nb cb) := ⟨by rw [Lib.cell_of_heap g1]; rfl, by rw [Lib.cell_of_heap g1]; rfl⟩
      clear hO hv hal g1 HJ hnb
      go_wp2_with fail
      rw [← hwp, hszp.out]
      clear hwp
      refine HGd.out.mono ?_
      rintro e w4 ⟨⟨x, rfl, hx⟩, hb4⟩
      have HB4' := Lib.hid (((Below.refl wp.heap.size wp).alloc (Nat.le_refl _) (.cells #[.slice Ah nh ch, .slice Ab nb cb] 41)).trans (hb4.mono (by simp)))
      have HB4 := Lib.hid (HBp.out.trans (HB4'.out.mono HBp.out.size))
      have HX := Lib.hid hx
      clear hx hb4 HGd p0 p1
      cases x with
      | false =>
        go_wp2
        go_ret
        exact ⟨rfl, HB4.out⟩
      | true =>
      have HGP := Lib.hid (HX.out rfl)
      have HHO := Lib.hid (HGP.out.1 _ (List.mem_singleton.2 rfl)).1
      obtain ⟨LL, hLL⟩ : ∃ x, writeT bd.data.toList [(hs, bs.flatten)] = x := ⟨_, rfl⟩
      have HP := Lib.hid (pieces_any bd Ah A nh ch n c hs bs w4 HGP.out.2 ((HH.out.below HB4.out).more HB4.out.size) HHO.out ((HR.out.below HB4.out).more HB4.out.size) (by omega) HFl.out)
      have HGp4 := Lib.hid ((HB4'.out.block w2.heap.size (Array.getElem?_eq_some_iff.1 HGp.out).1).trans HGp.out)
      rw [hLL] at HP
      clear HX
      go_wp2_with fail
      refine HP.out.mono ?_
      rintro e w5 ⟨g, cg, rfl, hR5, hb5⟩
      have HB5 := Lib.hid (HB4.out.trans (hb5.mono HB4.out.size))
      have HR5 := Lib.hid hR5
      have HGp5 := Lib.hid ((hb5.block w2.heap.size (Array.getElem?_eq_some_iff.1 HGp4.out).1).trans HGp4.out)
      obtain ⟨p0, p1⟩ : w5.cell? ⟨w2.heap.size, 0, none⟩ = some (.slice Ah nh ch) ∧ w5.cell? ⟨w2.heap.size, 1, none⟩ = some (.slice Ab nb cb) := ⟨by rw [Lib.cell_of_heap HGp5.out]; rfl, by rw [Lib.cell_of_heap HGp5.out]; rfl⟩
      have hlt5 : w2.heap.size < w5.heap.size := (Array.getElem?_eq_some_iff.1 HGp5.out).1
      have HWr := Lib.hid (write_any bd (some ⟨w5.heap.size, 0, none⟩) 1 1 [(hs, bs.flatten)] (w5.alloc (.cells #[.slice Ah nh ch, .slice Ab nb cb] 41)) HGP.out.2 (rdq_one ((HH.out.below HB5.out).more HB5.out.size) ((HRp.out.below (HB4'.out.trans (hb5.mono HB4'.out.size))).more (Nat.le_trans HB4'.out.size hb5.size)) hch hcm hcb).rdp (by omega) (by omega) (fun p hp => by
        simp only [List.mem_singleton] at hp
        subst hp
        exact HHO.out.fit) (by
        have h := bodyT_len1 HGP.out (m := 1099511627776) HFl.out
        omega))
      rw [hLL] at HWr
      clear hR5 hb5 HP hLL
      go_wp2_with fail
      refine HWr.out.mono ?_
      rintro e w6 ⟨g', c', rfl, hR6, hb6⟩
      have hB6' : Below w5.heap.size w5 w6 := ((Below.refl w5.heap.size w5).alloc (Nat.le_refl _) _).trans (hb6.mono (by simp))
      have hv1 := RdB.conv (P := Tryd.prog) (Rd.below HR5.out hB6') (src := 31) (dst := 9) (e := 5) Tryd.underlying31 Tryd.underlying5 Tryd.underlying9 cg
      have hv2 := RdB.conv (P := Tryd.prog) hR6 (src := 31) (dst := 9) (e := 5) Tryd.underlying31 Tryd.underlying5 Tryd.underlying9 c'
      have HB6 := Lib.hid (HB5.out.trans (hB6'.mono HB5.out.size))
      clear hR6 hb6 hB6' p0 p1
      go_wp2
      go_ret
      exact ⟨rfl, HB6.out⟩
    · have hb4 : 16777216 < bd.size := by omega
      clear hb3
      go_wp2
      go_ret
      exact ⟨rfl, HB1.out⟩

end Go.Proofs.YtklkgddldndmmaaDoor
