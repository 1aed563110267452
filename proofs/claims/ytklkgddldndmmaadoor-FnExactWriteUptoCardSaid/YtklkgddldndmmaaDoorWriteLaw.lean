/- The walk of the law FnExactWrite. -/
import Derived.Test.YtklkgddldndmmaaDoorAppendLaw
import Derived.Test.YtklkgddldndmmaaDoorTextX
namespace Go.Proofs.YtklkgddldndmmaaDoor
open Go.RowKit
set_option linter.unusedVariables false
set_option linter.unusedSimpArgs false

theorem GoodP.size {ps : List PartL} {bd : ByteArray} (h : GoodP ps bd) : bd.size ≤ 70 := by
  have h := h.2
  unfold boundB at h
  rw [len_data] at h
  simp at h
  omega
theorem Args.text {w : World} {A : Option Addr} {n c : Nat} {ps : List PartL} (h : Args w A n c ps) {bd : ByteArray} (hg : GoodP ps bd) {nX : Nat} {X : List UInt8} (hX : writeT bd.data.toList ps = X) (hl : X.length = nX) (W : World) (hW : Below w.heap.size w W) :
    Calls Tryd.prog 18 #[.agg #[.slice none 0 0, .slice A n c, .slice none 0 0, .slice none 0 0], .string bd] W fun e w' => ∃ A' c', e = .returned (.slice A' nX c') ∧ RdB w' w'.heap.size A' nX X ∧ Below w.heap.size w w' := by
  have hlen := bodyT_len hg (m := 1048576) (n := 2097152) (fun p hp => (h.all p hp).2.2) (by rw [h.rd.1]; exact h.few)
  refine (text_any A n c ps bd W (by have := h.few; omega) hg.size ((h.rd.rdp.below hW).more hW.size) (fun p hp => (hg.1 p hp).1.fit) (by omega)).mono ?_
  rintro e w' ⟨v, rfl, hO⟩
  obtain ⟨A', c', rfl⟩ := hO.slice
  have hr := hO.rd.1
  rw [hX, hl] at hr ⊢
  exact ⟨A', c', rfl, hr, hW.trans (hO.below.mono hW.size)⟩

set_option maxRecDepth 100000 in
set_option maxHeartbeats 8000000 in
theorem xwrite_main (A : Option Addr) (n c : Nat) (ps : List PartL) (bd : ByteArray) (w : World) (h1 : Args w A n c ps) (hbd : bd.size ≤ 16777216) (h10 : 0 < n) :
    Calls Tryd.prog 6 #[.slice A n c, .string bd] w fun e w' => e = .returned (.bool true) ∧ Below w.heap.size w w' := by
  have H1 := Lib.hid h1
  clear h1
  have q1 : ((n : Int) == 0) = false := beq_not (by omega)
  go_enter Tryd.func6, Tryd.ntmps6
  go_wp2_with fail
  refine H1.out.fits.mono ?_
  rintro e w1 ⟨⟨x, rfl, hx⟩, hb1⟩
  have HB1 := Lib.hid hb1
  cases x with
  | false =>
    clear hx hb1
    go_wp2
    go_ret
    exact ⟨rfl, HB1.out⟩
  | true =>
  have HF1 := Lib.hid (hx rfl)
  clear hx hb1
  go_wp2_with fail
  refine ((H1.out.below HB1.out).good HF1.out bd hbd).mono ?_
  rintro e w3 ⟨⟨x, rfl, hx⟩, hb3⟩
  have HB3 := Lib.hid (HB1.out.trans (hb3.mono HB1.out.size))
  cases x with
  | false =>
    clear hx hb3
    go_wp2
    go_ret
    exact ⟨rfl, HB3.out⟩
  | true =>
  have HG1 := Lib.hid (hx rfl)
  clear hx hb3
  obtain ⟨X, hX⟩ : ∃ x, writeT bd.data.toList ps = x := ⟨_, rfl⟩
  obtain ⟨nX, hnX⟩ : ∃ n, X.length = n := ⟨_, rfl⟩
  have HW1 := Lib.hid ((H1.out.below HB3.out).write HG1.out h10 (nB := 0) (nC := nX) hX (by omega))
  have HTx := Lib.hid (fun (W : World) (hW : Below w.heap.size w W) => (H1.out.below hW).text HG1.out hX hnX)
  clear hX hnX
  go_wp2_with fail
  refine HW1.out.mono ?_
  rintro e w5 ⟨gx, cx, rfl, hRx, hcx, hb5⟩
  rw [Nat.zero_add] at hRx ⊢
  have HB5 := Lib.hid (HB3.out.trans (hb5.mono HB3.out.size))
  have HT5 := Lib.hid (HTx.out w5 HB5.out)
  obtain ⟨sX, hsX⟩ : ∃ s : ByteArray, ⟨X.toArray⟩ = s := ⟨_, rfl⟩
  have HR := Lib.hid hRx
  have HV := Lib.hid (fun (W : World) (hW : Below w5.heap.size w5 W) => by
    have h2 := RdB.conv (P := Tryd.prog) (Rd.below HR.out hW) (src := 31) (dst := 9) (e := 5) Tryd.underlying31 Tryd.underlying5 Tryd.underlying9 cx
    rw [hsX] at h2
    exact h2)
  have HV2 := Lib.hid (fun (W : World) (A' : Option Addr) (c' B : Nat) (hr : RdB W B A' nX X) => by
    have h2 := RdB.conv (P := Tryd.prog) hr (src := 31) (dst := 9) (e := 5) Tryd.underlying31 Tryd.underlying5 Tryd.underlying9 c'
    rw [hsX] at h2
    exact h2)
  have v0 := HV.out w5 (Below.refl _ _)
  have v0' := HV.out w5.drew (Below.refl _ _).drew
  clear hRx hb5 HW1 HTx hsX hcx
  go_wp2_with fail
  go_cut [4] from 33 to 43 (fun s4 wx => s4 = .bool true ∧ Below w5.heap.size w5 wx)
  case first =>
    go_region_with (go_simp; go_at_call 18; go_must (refine (HT5.out _ ?_).mono ?_; (repeat (first | exact Below.refl _ _ | refine Below.drew ?_)); rintro e w' ⟨A', c', rfl, hR', hb'⟩; have v1 := HV.out w' hb'; have v1' := HV.out w'.drew hb'.drew; have v2 := HV2.out w' A' c' _ hR'; have v2' := HV2.out w'.drew A' c' _ hR'))
    all_goals (go_wp2_with fail; (try go_simp); go_meet; exact ⟨by first | rfl | simp, by first | exact hb' | exact hb'.drew⟩)
  obtain ⟨rfl, hb6⟩ := hcut
  go_wp2
  go_ret
  exact ⟨rfl, HB5.out.trans (hb6.mono HB5.out.size)⟩

set_option maxRecDepth 100000 in
set_option maxHeartbeats 4000000 in
theorem xwrite (A : Option Addr) (n c : Nat) (ps : List PartL) (bd : ByteArray) (w : World) (w0 : bd.size ≤ maxLen) (h1 : Args w A n c ps) :
    Calls Tryd.prog 6 #[.slice A n c, .string bd] w fun e w' => e = .returned (.bool true) ∧ Below w.heap.size w w' := by
  unfold maxLen at w0
  by_cases hm : bd.size ≤ 16777216 ∧ 0 < n
  · exact xwrite_main A n c ps bd w h1 hm.1 hm.2
  · have H1 := Lib.hid h1
    have h : 2147483647 < bd.size ∨ (bd.size ≤ 2147483647 ∧ 16777216 < bd.size) ∨ (bd.size ≤ 16777216 ∧ ((n : Int) == 0) = true) := by
      by_cases g1 : 2147483647 < bd.size
      · exact .inl g1
      by_cases g2 : 16777216 < bd.size
      · exact .inr (.inl ⟨by omega, g2⟩)
      exact .inr (.inr ⟨by omega, beq_of (by omega)⟩)
    clear h1 hm
    rcases h with h | ⟨h, h'⟩ | ⟨h, h'⟩
    all_goals
      go_enter Tryd.func6, Tryd.ntmps6
      go_wp2_with fail
      refine H1.out.fits.mono ?_
      rintro e w1 ⟨⟨x, rfl, hx⟩, hb1⟩
      have HB1 := Lib.hid hb1
      clear hx hb1
      cases x
      all_goals
        go_wp2
        go_ret
        exact ⟨rfl, HB1.out⟩

end Go.Proofs.YtklkgddldndmmaaDoor
