/- The walk of the law FnAppend. -/
import Derived.Test.YtklkgddldndmmaaDoorAppendA
import Derived.Test.YtklkgddldndmmaaDoorWrite
import Derived.Deep.CutRange
namespace Go.Proofs.YtklkgddldndmmaaDoor
open Go.RowKit
set_option linter.unusedVariables false
set_option linter.unusedSimpArgs false

theorem info41 : (Tryd.prog.info? 41).map (fun i => (i.zero, i.size, i.bytes)) = some (some (.agg #[.slice none 0 0, .slice none 0 0]), 2, 48) := by kernel_rfl

/-- The length of the delimiter at the end. -/
theorem closeT_len (bd : ByteArray) : (closeT bd.data.toList).length = bd.size + 8 := by
  simp only [closeT, crlf, dashes, List.length_append, len_data, List.length_cons, List.length_nil]; omega
theorem close17_any (bd : ByteArray) (w : World) (hbd : bd.size ≤ 1000) :
    Calls Tryd.prog 17 #[.string bd] w fun e w' => (∃ A c, e = .returned (.slice A (bd.size + 8) c)) ∧ Below w.heap.size w w' := by
  have HZ : Hid ((⟨#[13, 10, 45, 45]⟩ ++ bd ++ ⟨#[45, 45, 13, 10]⟩ : ByteArray).size = bd.size + 8) := by show _ = _; rw [app_size, app_size]; show 4 + bd.size + 4 = _; omega
  go_enter Tryd.func17, Tryd.ntmps17
  go_wp2_with (refine wpList_conv_any _ rfl (.tmp 5) 9 31 5 rfl Tryd.underlying9 Tryd.underlying31 Tryd.underlying5 _ rfl ?_; intro A2 c2 w2 hr2 hc2 hb2)
  rw [HZ.out] at *
  go_wp2
  go_ret
  exact ⟨⟨A2, c2, by rw [show bd.size + 8 = 4 + bd.size + 4 by omega]; rfl⟩, hb2⟩

/-- What is asked of a list of parts in a law. -/
structure Args (w : World) (A : Option Addr) (n c : Nat) (ps : List PartL) : Prop where
  rd : RdQ w w.heap.size A n ps
  few : n ≤ 2097152
  all : ∀ p ∈ ps, p.1.length ≤ 9223372036854775807 ∧ (∀ h ∈ p.1, h.2.length ≤ 9223372036854775807) ∧ p.2.length ≤ 1048576
theorem Args.below {w w' : World} {A : Option Addr} {n c : Nat} {ps : List PartL} (h : Args w A n c ps) (hb : Below w.heap.size w w') : Args w' A n c ps := ⟨(h.rd.below hb).more hb.size, h.few, h.all⟩
theorem Args.fits {w : World} {A : Option Addr} {n c : Nat} {ps : List PartL} (h : Args w A n c ps) :
    Calls Tryd.prog 14 #[.slice A n c] w fun e w' => SayB (Few ps ∧ ∀ p ∈ ps, FitP p) e ∧ Below w.heap.size w w' :=
  fits3_any A n c ps w (by have := h.few; omega) (fun p hp => ⟨(h.all p hp).1, (h.all p hp).2.1⟩) h.rd.rdp
theorem Args.good {w : World} {A : Option Addr} {n c : Nat} {ps : List PartL} (h : Args w A n c ps) (hf : Few ps ∧ ∀ p ∈ ps, FitP p) (bd : ByteArray) (hbd : bd.size ≤ 16777216) :
    Calls Tryd.prog 15 #[.slice A n c, .string bd] w fun e w' => SayB (GoodP ps bd) e ∧ Below w.heap.size w w' :=
  good_any A n c ps bd w (by have := h.few; omega) hbd (fun p hp => (hf.2 p hp).1) (fun p hp => by have := (h.all p hp).2.2; omega) h.rd
theorem Args.write {w : World} {A : Option Addr} {n c : Nat} {ps : List PartL} (h : Args w A n c ps) {bd : ByteArray} (hg : GoodP ps bd) (h0 : 0 < n) {nB nC : Nat} {X : List UInt8} (hX : writeT bd.data.toList ps = X) (hl : X.length = nB + nC) :
    Calls Tryd.prog 16 #[.string bd, .slice A n c] w fun e w' => ∃ g c, e = .returned (.tuple #[.slice (some ⟨g, 0, none⟩) (nB + nC) c, .bool true]) ∧ RdB w' w'.heap.size (some ⟨g, 0, none⟩) (nB + nC) X ∧ nB + nC ≤ c ∧ Below w.heap.size w w' := by
  have hlen := bodyT_len hg (m := 1048576) (n := 2097152) (fun p hp => (h.all p hp).2.2) (by rw [h.rd.1]; exact h.few)
  have := write_cap bd A n c ps w hg.2 h.rd.rdp h0 (by have := h.few; omega) (fun p hp => (hg.1 p hp).1.fit) (by omega)
  rw [hX, hl] at this
  exact this

set_option maxRecDepth 100000 in
set_option maxHeartbeats 8000000 in
theorem xappend_main (A1 A2 : Option Addr) (n1 c1 n2 c2 : Nat) (a b : List PartL) (bd : ByteArray) (w : World) (h1 : Args w A1 n1 c1 a) (h2 : Args w A2 n2 c2 b) (hbd : bd.size ≤ 16777216) (f1 : n1 ≤ 1048576) (f2 : n2 ≤ 1048576) (h10 : 0 < n1) (h20 : 0 < n2) :
    Calls Tryd.prog 5 #[.slice A1 n1 c1, .slice A2 n2 c2, .string bd] w fun e w' => e = .returned (.bool true) ∧ Below w.heap.size w w' := by
  have H1 := Lib.hid h1
  have H2 := Lib.hid h2
  obtain ⟨i41, hi, hz0, hz1, hz2⟩ := info_parts info41
  clear h1 h2
  have q1 : ((n1 : Int) == 0) = false := beq_not (by omega)
  have q2 : ((n2 : Int) == 0) = false := beq_not (by omega)
  go_enter Tryd.func5, Tryd.ntmps5
  go_wp2_with fail
  refine H1.out.fits.mono ?_
  rintro e w1 ⟨⟨x, rfl, hx⟩, hb1⟩
  have HB1 := Lib.hid hb1
  cases x with
  | false =>
    clear hx hb1
    go_wp2
    go_ret
    exact ⟨rfl, HB1.out⟩
  | true =>
  have HF1 := Lib.hid (hx rfl)
  clear hx hb1
  go_wp2_with fail
  refine (H2.out.below HB1.out).fits.mono ?_
  rintro e w2 ⟨⟨x, rfl, hx⟩, hb2⟩
  have HB2 := Lib.hid (HB1.out.trans (hb2.mono HB1.out.size))
  cases x with
  | false =>
    clear hx hb2
    go_wp2
    go_ret
    exact ⟨rfl, HB2.out⟩
  | true =>
  have HF2 := Lib.hid (hx rfl)
  clear hx hb2
  go_wp2_with fail
  refine ((H1.out.below HB2.out).good HF1.out bd hbd).mono ?_
  rintro e w3 ⟨⟨x, rfl, hx⟩, hb3⟩
  have HB3 := Lib.hid (HB2.out.trans (hb3.mono HB2.out.size))
  cases x with
  | false =>
    clear hx hb3
    go_wp2
    go_ret
    exact ⟨rfl, HB3.out⟩
  | true =>
  have HG1 := Lib.hid (hx rfl)
  clear hx hb3
  go_wp2_with fail
  refine ((H2.out.below HB3.out).good HF2.out bd hbd).mono ?_
  rintro e w4 ⟨⟨x, rfl, hx⟩, hb4⟩
  have HB4 := Lib.hid (HB3.out.trans (hb4.mono HB3.out.size))
  cases x with
  | false =>
    clear hx hb4
    go_wp2
    go_ret
    exact ⟨rfl, HB4.out⟩
  | true =>
  have HG2 := Lib.hid (hx rfl)
  clear hx hb4
  have hb70 : bd.size ≤ 70 := by
    have h := HG1.out.2
    unfold boundB at h
    rw [len_data] at h
    simp at h
    omega
  -- the three texts
  have ha0 : a ≠ [] := by have h := H1.out.rd.1; rintro rfl; simp at h; omega
  have hb0 : b ≠ [] := by have h := H2.out.rd.1; rintro rfl; simp at h; omega
  obtain ⟨BA, hBA⟩ : ∃ x, bodyT bd.data.toList a = x := ⟨_, rfl⟩
  obtain ⟨Y, hY⟩ : ∃ x, writeT bd.data.toList b = x := ⟨_, rfl⟩
  have hX : writeT bd.data.toList a = BA ++ closeT bd.data.toList := by unfold writeT; rw [hBA]
  have hZ : writeT bd.data.toList (a ++ b) = BA ++ crlf ++ Y := by rw [writeT_app _ a b ha0 hb0, hBA, hY]
  have hBl : BA.length ≤ 1204772732928 := by
    have h := bodyT_len HG1.out (m := 1048576) (n := 1048576) (fun p hp => (H1.out.all p hp).2.2) (by rw [H1.out.rd.1]; exact f1)
    rw [hBA] at h
    omega
  have hYl : Y.length ≤ 1204772733006 := by
    have h := bodyT_len HG2.out (m := 1048576) (n := 1048576) (fun p hp => (H2.out.all p hp).2.2) (by rw [H2.out.rd.1]; exact f2)
    rw [← hY]
    unfold writeT
    rw [List.length_append, closeT_len]
    omega
  obtain ⟨nB, hnB⟩ : ∃ n, BA.length = n := ⟨_, rfl⟩
  obtain ⟨nY, hnY⟩ : ∃ n, Y.length = n := ⟨_, rfl⟩
  rw [hnB] at hBl
  rw [hnY] at hYl
  obtain ⟨nC, hnC⟩ : ∃ n, n = bd.size + 8 := ⟨_, rfl⟩
  have hXl : (BA ++ closeT bd.data.toList).length = nB + nC := by rw [List.length_append, closeT_len, hnB, hnC]
  have HW1 := Lib.hid (fun (W : World) (hW : Below w.heap.size w W) => (H1.out.below hW).write HG1.out h10 hX hXl)
  have HW2 := Lib.hid (fun (W : World) (hW : Below w.heap.size w W) => (H2.out.below hW).write HG2.out h20 (nB := 0) (nC := nY) hY (by omega))
  have HZ := Lib.hid hZ
  have HGA := Lib.hid (HG1.out.app HG2.out)
  have HnB := Lib.hid hnB
  have HnY := Lib.hid hnY
  have HC17 := Lib.hid (fun W : World => close17_any bd W (by omega))
  rw [← hnC] at HC17
  have hnC2 : nC ≤ 78 := by omega
  clear hBA hY hX hZ hnB hnY hnC hXl ha0 hb0
  go_wp2_with fail
  refine (HW1.out w4 HB4.out).mono ?_
  rintro e w5 ⟨gx, cx, rfl, hRx, hcx, hb5⟩
  have HB5 := Lib.hid (HB4.out.trans (hb5.mono HB4.out.size))
  have HRx := Lib.hid hRx
  clear hRx hb5 HW1
  go_wp2_with fail
  refine (HW2.out w5 HB5.out).mono ?_
  rintro e w6 ⟨gy, cy, rfl, hRy, hcy, hb6⟩
  have HB6 := Lib.hid (HB5.out.trans (hb6.mono HB5.out.size))
  have HRx2 := Lib.hid ((HRx.out.below hb6).more (B' := w6.heap.size) hb6.size)
  have HRy := Lib.hid hRy
  clear hRy hb6 HW2 HRx
  obtain ⟨ca, hra, hca⟩ := (H1.out.below HB6.out).rd.cells
  obtain ⟨cb, hrb, hcb⟩ := (H2.out.below HB6.out).rd.cells
  have HCa := Lib.hid hca
  have HCb := Lib.hid hcb
  have hone1 := hca.2.1
  have hone2 := hcb.2.1
  have hown0 := World.ownsRow_lit (base := w6.heap.size) (e := 41) (size := 2) w6 #[] 0 (Nat.le_refl _) (by decide) rfl
  clear hca hcb
  go_wp2_with (first
    | (at_builtin; refine wpList_append_any _ rfl (.tmp 64) (.tmp 65) 28 rfl w6.heap.size 41 i41 (.agg #[.slice none 0 0, .slice none 0 0]) 2 48 Tryd.underlying28 hi hz0 hz1 hz2 rfl (by decide) _ _ _ rfl hown0 w6.heap.size A1 n1 c1 ca rfl (hra.alloc (Nat.le_refl _) _) hone1 (by unfold maxLen; omega) (by omega) (by simp) ?_; intro A3 c3 w7 hown1 hgrow1 hlie1; have hb7 := below_own hown0 hgrow1; simp only [Nat.zero_add, List.nil_append] at hown1; clear hgrow1 hlie1; have hsz7 := hb7.size)
    | (at_builtin; refine wpList_append_any _ rfl (.tmp 66) (.tmp 67) 28 rfl w6.heap.size 41 i41 (.agg #[.slice none 0 0, .slice none 0 0]) 2 48 Tryd.underlying28 hi hz0 hz1 hz2 rfl (by decide) _ _ _ rfl hown1 w6.heap.size A2 n2 c2 cb rfl (hrb.below hb7) hone2 (by unfold maxLen; omega) (by omega) (by omega) ?_; intro A4 c4 w8 hown2 hgrow2 hlie2; have hb8 := hb7.grown hgrow2 hsz7 (fun j hj => (hown1.lt j hj).1); clear hgrow2 hlie2; have hsz8 := hb8.size))
  have HB8 := Lib.hid (HB6.out.trans (hb8.mono HB6.out.size))
  have HA8 := Lib.hid (show Args w8 A4 (n1 + n2) c4 (a ++ b) from ⟨(((HCa.out.below hb8).more hb8.size).app ((HCb.out.below hb8).more hb8.size)).rdq (Rd.of_own hown2), by omega, fun p hp => by
    rcases List.mem_append.1 hp with h | h
    · exact H1.out.all p h
    · exact H2.out.all p h⟩)
  have hZl : (BA ++ crlf ++ Y).length = nB + (2 + nY) := by
    rw [List.length_append, List.length_append, HnB.out, HnY.out]
    show nB + 2 + nY = _
    omega
  have HWz := Lib.hid (HA8.out.write HGA.out (by omega) HZ.out hZl)
  have HRx3 := Lib.hid ((HRx2.out.below hb8).more (B' := w8.heap.size) hb8.size)
  have HRy3 := Lib.hid ((HRy.out.below hb8).more (B' := w8.heap.size) hb8.size)
  clear hra hrb hown0 hown1 hown2 hb7 hb8 hone1 hone2 hsz7 hsz8 hZl HRx2 HRy HA8 HCa HCb hi hz0 hz1 hz2
  go_wp2_with fail
  refine HWz.out.mono ?_
  rintro e w9 ⟨gz, cz, rfl, hRz, hcz, hb9⟩
  have HB9 := Lib.hid (HB8.out.trans (hb9.mono HB8.out.size))
  have HRx4 := Lib.hid ((HRx3.out.below hb9).more (B' := w9.heap.size) hb9.size)
  have HRy4 := Lib.hid ((HRy3.out.below hb9).more (B' := w9.heap.size) hb9.size)
  have HRz := Lib.hid hRz
  clear hRz hb9 HRx3 HRy3 HWz
  go_wp2_with fail
  refine (HC17.out _).mono ?_
  rintro e w10 ⟨⟨Ac, cc, rfl⟩, hb10⟩
  have HB10 := Lib.hid (HB9.out.trans (hb10.mono HB9.out.size))
  obtain ⟨s1, hs1⟩ : ∃ s : ByteArray, ⟨BA.toArray⟩ = s := ⟨_, rfl⟩
  obtain ⟨s2, hs2⟩ : ∃ s : ByteArray, ⟨Y.toArray⟩ = s := ⟨_, rfl⟩
  obtain ⟨sz, hsz⟩ : ∃ s : ByteArray, ⟨(BA ++ crlf ++ Y).toArray⟩ = s := ⟨_, rfl⟩
  have HEq : Hid (sz = s1 ++ ⟨#[13, 10]⟩ ++ s2) := by
    show _ = _
    rw [← hsz, ← hs1, ← hs2]
    apply ByteArray.ext
    apply Array.ext'
    rw [app_data, app_data]
    rfl
  have z1 : s1.size ≤ 1204772732928 := by rw [← hs1, size_list, HnB.out]; exact hBl
  have z2 : s2.size ≤ 1204772733006 := by rw [← hs2, size_list, HnY.out]; exact hYl
  have v1 : ∀ q, (convert 31 9 (.slice (some ⟨gx, 0, none⟩) nB cx)).run Tryd.prog (w10.drewN q) = .ok (.string s1) (w10.drewN q) := fun q => by
    have h := RdB.take (HRx4.out.below hb10) (k := nB) (by omega)
    rw [List.take_append_of_le_length (by rw [HnB.out]; exact Nat.le_refl _), List.take_of_length_le (by rw [HnB.out]; exact Nat.le_refl _)] at h
    have h2 := RdB.conv (P := Tryd.prog) (Rd.drewN h q) (src := 31) (dst := 9) (e := 5) Tryd.underlying31 Tryd.underlying5 Tryd.underlying9 cx
    rw [hs1] at h2
    exact h2
  have v2 : ∀ q, (convert 31 9 (.slice (some ⟨gy, 0, none⟩) nY cy)).run Tryd.prog (w10.drewN q) = .ok (.string s2) (w10.drewN q) := fun q => by
    have h := HRy4.out.below hb10
    rw [Nat.zero_add] at h
    have h2 := RdB.conv (P := Tryd.prog) (Rd.drewN h q) (src := 31) (dst := 9) (e := 5) Tryd.underlying31 Tryd.underlying5 Tryd.underlying9 cy
    rw [hs2] at h2
    exact h2
  have v3 : ∀ q, (convert 31 9 (.slice (some ⟨gz, 0, none⟩) (nB + (2 + nY)) cz)).run Tryd.prog (w10.drewN q) = .ok (.string sz) (w10.drewN q) := fun q => by
    have h := HRz.out.below hb10
    have h2 := RdB.conv (P := Tryd.prog) (Rd.drewN h q) (src := 31) (dst := 9) (e := 5) Tryd.underlying31 Tryd.underlying5 Tryd.underlying9 cz
    rw [hsz] at h2
    exact h2
  have hlt : ¬ nB + nC < nC := by omega
  have hcx0 : (nB : Int) ≤ (cx : Int) := by omega
  have hnn : (0 : Int) ≤ (nB : Int) := by omega
  have HQ := Lib.hid (And.intro hs1 (And.intro hs2 hsz))
  clear hb10 HRx4 HRy4 HRz hs1 hs2 hsz HC17
  go_wp2_with fail
  go_quiet (fail)
  go_wp2
  go_ret
  exact ⟨ret_bool (by rw [HEq.out]; simp), (HB10.out).trans (below_drewN (Below.refl _ _) _)⟩

set_option maxRecDepth 100000 in
set_option maxHeartbeats 4000000 in
theorem xappend (A1 A2 : Option Addr) (n1 c1 n2 c2 : Nat) (a b : List PartL) (bd : ByteArray) (w : World) (w0 : bd.size ≤ maxLen) (h1 : Args w A1 n1 c1 a) (h2 : Args w A2 n2 c2 b) (f1 : n1 ≤ 1048576) (f2 : n2 ≤ 1048576) :
    Calls Tryd.prog 5 #[.slice A1 n1 c1, .slice A2 n2 c2, .string bd] w fun e w' => e = .returned (.bool true) ∧ Below w.heap.size w w' := by
  unfold maxLen at w0
  by_cases hm : bd.size ≤ 16777216 ∧ 0 < n1 ∧ 0 < n2
  · exact xappend_main A1 A2 n1 c1 n2 c2 a b bd w h1 h2 hm.1 f1 f2 hm.2.1 hm.2.2
  · have H1 := Lib.hid h1
    have H2 := Lib.hid h2
    have h : 2147483647 < bd.size ∨ (bd.size ≤ 2147483647 ∧ 16777216 < bd.size) ∨ (bd.size ≤ 16777216 ∧ ((n1 : Int) == 0) = true) ∨ (bd.size ≤ 16777216 ∧ ((n1 : Int) == 0) = false ∧ ((n2 : Int) == 0) = true) := by
      by_cases g1 : 2147483647 < bd.size
      · exact .inl g1
      by_cases g2 : 16777216 < bd.size
      · exact .inr (.inl ⟨by omega, g2⟩)
      by_cases g3 : n1 = 0
      · exact .inr (.inr (.inl ⟨by omega, beq_of (by omega)⟩))
      · exact .inr (.inr (.inr ⟨by omega, beq_not (by omega), beq_of (by omega)⟩))
    clear h1 h2 hm
    rcases h with h | ⟨h, h'⟩ | ⟨h, h'⟩ | ⟨h, h', h''⟩
    all_goals
      go_enter Tryd.func5, Tryd.ntmps5
      go_wp2_with fail
      refine H1.out.fits.mono ?_
      rintro e w1 ⟨⟨x, rfl, hx⟩, hb1⟩
      have HB1 := Lib.hid hb1
      clear hx hb1
      cases x
      · go_wp2
        go_ret
        exact ⟨rfl, HB1.out⟩
      · go_wp2_with fail
        refine (H2.out.below HB1.out).fits.mono ?_
        rintro e w2 ⟨⟨x, rfl, hx⟩, hb2⟩
        have HB2 := Lib.hid (HB1.out.trans (hb2.mono HB1.out.size))
        clear hx hb2
        cases x
        all_goals
          go_wp2
          go_ret
          exact ⟨rfl, HB2.out⟩

end Go.Proofs.YtklkgddldndmmaaDoor
