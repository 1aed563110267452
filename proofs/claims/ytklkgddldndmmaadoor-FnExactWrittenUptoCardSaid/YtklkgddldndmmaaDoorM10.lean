/- Texts of the proof, joined: AppendLaw, Out, TextW. -/
import Derived.Test.YtklkgddldndmmaaDoorM09
import Derived.Deep.CutRange
import Derived.Lib.AppendStr
import Derived.Deep.RegionLaw
import Derived.Deep.DeepMust
import Derived.Outline
/- The walk of the law FnAppend. -/
namespace Go.Proofs.YtklkgddldndmmaaDoor
open Go.RowKit
set_option linter.unusedVariables false
set_option linter.unusedSimpArgs false

theorem info41 : (Tryd.prog.info? 41).map (fun i => (i.zero, i.size, i.bytes)) = some (some (.agg #[.slice none 0 0, .slice none 0 0]), 2, 48) := by kernel_rfl

/-- The length of the delimiter at the end. -/
theorem closeT_len (bd : ByteArray) : (closeT bd.data.toList).length = bd.size + 8 := by
  simp only [closeT, crlf, dashes, List.length_append, len_data, List.length_cons, List.length_nil]; omega
theorem close17_any (bd : ByteArray) (w : World) (hbd : bd.size ≤ 1000) :
    Calls Tryd.prog 17 #[.string bd] w fun e w' => (∃ A c, e = .returned (.slice A (bd.size + 8) c)) ∧ Below w.heap.size w w' := by
  have HZ : Hid ((⟨#[13, 10, 45, 45]⟩ ++ bd ++ ⟨#[45, 45, 13, 10]⟩ : ByteArray).size = bd.size + 8) := by show _ = _; rw [app_size, app_size]; show 4 + bd.size + 4 = _; omega
  go_enter Tryd.func17, Tryd.ntmps17
  go_wp2_with (refine wpList_conv_any _ rfl (.tmp 5) 9 31 5 rfl Tryd.underlying9 Tryd.underlying31 Tryd.underlying5 _ rfl ?_; intro A2 c2 w2 hr2 hc2 hb2)
  rw [HZ.out] at *
  go_wp2
  go_ret
  exact ⟨⟨A2, c2, by rw [show bd.size + 8 = 4 + bd.size + 4 by omega]; rfl⟩, hb2⟩

/-- What is asked of a list of parts in a law. -/
structure Args (w : World) (A : Option Addr) (n c : Nat) (ps : List PartL) : Prop where
  rd : RdQ w w.heap.size A n ps
  few : n ≤ 2097152
  all : ∀ p ∈ ps, p.1.length ≤ 9223372036854775807 ∧ (∀ h ∈ p.1, h.2.length ≤ 9223372036854775807) ∧ p.2.length ≤ 1048576
theorem Args.below {w w' : World} {A : Option Addr} {n c : Nat} {ps : List PartL} (h : Args w A n c ps) (hb : Below w.heap.size w w') : Args w' A n c ps := ⟨(h.rd.below hb).more hb.size, h.few, h.all⟩
theorem Args.fits {w : World} {A : Option Addr} {n c : Nat} {ps : List PartL} (h : Args w A n c ps) :
    Calls Tryd.prog 14 #[.slice A n c] w fun e w' => SayB (Few ps ∧ ∀ p ∈ ps, FitP p) e ∧ Below w.heap.size w w' :=
  fits3_any A n c ps w (by have := h.few; omega) (fun p hp => ⟨(h.all p hp).1, (h.all p hp).2.1⟩) h.rd.rdp
theorem Args.good {w : World} {A : Option Addr} {n c : Nat} {ps : List PartL} (h : Args w A n c ps) (hf : Few ps ∧ ∀ p ∈ ps, FitP p) (bd : ByteArray) (hbd : bd.size ≤ 16777216) :
    Calls Tryd.prog 15 #[.slice A n c, .string bd] w fun e w' => SayB (GoodP ps bd) e ∧ Below w.heap.size w w' :=
  good_any A n c ps bd w (by have := h.few; omega) hbd (fun p hp => (hf.2 p hp).1) (fun p hp => by have := (h.all p hp).2.2; omega) h.rd
theorem Args.write {w : World} {A : Option Addr} {n c : Nat} {ps : List PartL} (h : Args w A n c ps) {bd : ByteArray} (hg : GoodP ps bd) (h0 : 0 < n) {nB nC : Nat} {X : List UInt8} (hX : writeT bd.data.toList ps = X) (hl : X.length = nB + nC) :
    Calls Tryd.prog 16 #[.string bd, .slice A n c] w fun e w' => ∃ g c, e = .returned (.tuple #[.slice (some ⟨g, 0, none⟩) (nB + nC) c, .bool true]) ∧ RdB w' w'.heap.size (some ⟨g, 0, none⟩) (nB + nC) X ∧ nB + nC ≤ c ∧ Below w.heap.size w w' := by
  have hlen := bodyT_len hg (m := 1048576) (n := 2097152) (fun p hp => (h.all p hp).2.2) (by rw [h.rd.1]; exact h.few)
  have := write_cap bd A n c ps w hg.2 h.rd.rdp h0 (by have := h.few; omega) (fun p hp => (hg.1 p hp).1.fit) (by omega)
  rw [hX, hl] at this
  exact this

set_option maxRecDepth 100000 in
set_option maxHeartbeats 8000000 in
theorem xappend_main (A1 A2 : Option Addr) (n1 c1 n2 c2 : Nat) (a b : List PartL) (bd : ByteArray) (w : World) (h1 : Args w A1 n1 c1 a) (h2 : Args w A2 n2 c2 b) (hbd : bd.size ≤ 16777216) (f1 : n1 ≤ 1048576) (f2 : n2 ≤ 1048576) (h10 : 0 < n1) (h20 : 0 < n2) :
    Calls Tryd.prog 5 #[.slice A1 n1 c1, .slice A2 n2 c2, .string bd] w fun e w' => e = .returned (.bool true) ∧ Below w.heap.size w w' := by
  have H1 := Lib.hid h1
  have H2 := Lib.hid h2
  obtain ⟨i41, hi, hz0, hz1, hz2⟩ := info_parts info41
  clear h1 h2
  have q1 : ((n1 : Int) == 0) = false := beq_not (by omega)
  have q2 : ((n2 : Int) == 0) = false := beq_not (by omega)
  go_enter Tryd.func5, Tryd.ntmps5
  go_wp2_with fail
  refine H1.out.fits.mono ?_
  rintro e w1 ⟨⟨x, rfl, hx⟩, hb1⟩
  have HB1 := Lib.hid hb1
  cases x with
  | false =>
    clear hx hb1
    go_wp2
    go_ret
    exact ⟨rfl, HB1.out⟩
  | true =>
  have HF1 := Lib.hid (hx rfl)
  clear hx hb1
  go_wp2_with fail
  refine (H2.out.below HB1.out).fits.mono ?_
  rintro e w2 ⟨⟨x, rfl, hx⟩, hb2⟩
  have HB2 := Lib.hid (HB1.out.trans (hb2.mono HB1.out.size))
  cases x with
  | false =>
    clear hx hb2
    go_wp2
    go_ret
    exact ⟨rfl, HB2.out⟩
  | true =>
  have HF2 := Lib.hid (hx rfl)
  clear hx hb2
  go_wp2_with fail
  refine ((H1.out.below HB2.out).good HF1.out bd hbd).mono ?_
  rintro e w3 ⟨⟨x, rfl, hx⟩, hb3⟩
  have HB3 := Lib.hid (HB2.out.trans (hb3.mono HB2.out.size))
  cases x with
  | false =>
    clear hx hb3
    go_wp2
    go_ret
    exact ⟨rfl, HB3.out⟩
  | true =>
  have HG1 := Lib.hid (hx rfl)
  clear hx hb3
  go_wp2_with fail
  refine ((H2.out.below HB3.out).good HF2.out bd hbd).mono ?_
  rintro e w4 ⟨⟨x, rfl, hx⟩, hb4⟩
  have HB4 := Lib.hid (HB3.out.trans (hb4.mono HB3.out.size))
  cases x with
  | false =>
    clear hx hb4
    go_wp2
    go_ret
    exact ⟨rfl, HB4.out⟩
  | true =>
  have HG2 := Lib.hid (hx rfl)
  clear hx hb4
  have hb70 : bd.size ≤ 70 := by
    have h := HG1.out.2
    unfold boundB at h
    rw [len_data] at h
    simp at h
    omega
  -- the three texts
  have ha0 : a ≠ [] := by have h := H1.out.rd.1; rintro rfl; simp at h; omega
  have hb0 : b ≠ [] := by have h := H2.out.rd.1; rintro rfl; simp at h; omega
  obtain ⟨BA, hBA⟩ : ∃ x, bodyT bd.data.toList a = x := ⟨_, rfl⟩
  obtain ⟨Y, hY⟩ : ∃ x, writeT bd.data.toList b = x := ⟨_, rfl⟩
  have hX : writeT bd.data.toList a = BA ++ closeT bd.data.toList := by unfold writeT; rw [hBA]
  have hZ : writeT bd.data.toList (a ++ b) = BA ++ crlf ++ Y := by rw [writeT_app _ a b ha0 hb0, hBA, hY]
  have hBl : BA.length ≤ 1204772732928 := by
    have h := bodyT_len HG1.out (m := 1048576) (n := 1048576) (fun p hp => (H1.out.all p hp).2.2) (by rw [H1.out.rd.1]; exact f1)
    rw [hBA] at h
    omega
  have hYl : Y.length ≤ 1204772733006 := by
    have h := bodyT_len HG2.out (m := 1048576) (n := 1048576) (fun p hp => (H2.out.all p hp).2.2) (by rw [H2.out.rd.1]; exact f2)
    rw [← hY]
    unfold writeT
    rw [List.length_append, closeT_len]
    omega
  obtain ⟨nB, hnB⟩ : ∃ n, BA.length = n := ⟨_, rfl⟩
  obtain ⟨nY, hnY⟩ : ∃ n, Y.length = n := ⟨_, rfl⟩
  rw [hnB] at hBl
  rw [hnY] at hYl
  obtain ⟨nC, hnC⟩ : ∃ n, n = bd.size + 8 := ⟨_, rfl⟩
  have hXl : (BA ++ closeT bd.data.toList).length = nB + nC := by rw [List.length_append, closeT_len, hnB, hnC]
  have HW1 := Lib.hid (fun (W : World) (hW : Below w.heap.size w W) => (H1.out.below hW).write HG1.out h10 hX hXl)
  have HW2 := Lib.hid (fun (W : World) (hW : Below w.heap.size w W) => (H2.out.below hW).write HG2.out h20 (nB := 0) (nC := nY) hY (by omega))
  have HZ := Lib.hid hZ
  have HGA := Lib.hid (HG1.out.app HG2.out)
  have HnB := Lib.hid hnB
  have HnY := Lib.hid hnY
  have HC17 := Lib.hid (fun W : World => close17_any bd W (by omega))
  rw [← hnC] at HC17
  have hnC2 : nC ≤ 78 := by omega
  clear hBA hY hX hZ hnB hnY hnC hXl ha0 hb0
  go_wp2_with fail
  refine (HW1.out w4 HB4.out).mono ?_
  rintro e w5 ⟨gx, cx, rfl, hRx, hcx, hb5⟩
  have HB5 := Lib.hid (HB4.out.trans (hb5.mono HB4.out.size))
  have HRx := Lib.hid hRx
  clear hRx hb5 HW1
  go_wp2_with fail
  refine (HW2.out w5 HB5.out).mono ?_
  rintro e w6 ⟨gy, cy, rfl, hRy, hcy, hb6⟩
  have HB6 := Lib.hid (HB5.out.trans (hb6.mono HB5.out.size))
  have HRx2 := Lib.hid ((HRx.out.below hb6).more (B' := w6.heap.size) hb6.size)
  have HRy := Lib.hid hRy
  clear hRy hb6 HW2 HRx
  obtain ⟨ca, hra, hca⟩ := (H1.out.below HB6.out).rd.cells
  obtain ⟨cb, hrb, hcb⟩ := (H2.out.below HB6.out).rd.cells
  have HCa := Lib.hid hca
  have HCb := Lib.hid hcb
  have hone1 := hca.2.1
  have hone2 := hcb.2.1
  have hown0 := World.ownsRow_lit (base := w6.heap.size) (e := 41) (size := 2) w6 #[] 0 (Nat.le_refl _) (by decide) rfl
  clear hca hcb
  go_wp2_with (first
    | (at_builtin; refine wpList_append_any _ rfl (.tmp 64) (.tmp 65) 28 rfl w6.heap.size 41 i41 (.agg #[.slice none 0 0, .slice none 0 0]) 2 48 Tryd.underlying28 hi hz0 hz1 hz2 rfl (by decide) _ _ _ rfl hown0 w6.heap.size A1 n1 c1 ca rfl (hra.alloc (Nat.le_refl _) _) hone1 (by unfold maxLen; omega) (by omega) (by simp) ?_; intro A3 c3 w7 hown1 hgrow1 hlie1; have hb7 := below_own hown0 hgrow1; simp only [Nat.zero_add, List.nil_append] at hown1; clear hgrow1 hlie1; have hsz7 := hb7.size)
    | (at_builtin; refine wpList_append_any _ rfl (.tmp 66) (.tmp 67) 28 rfl w6.heap.size 41 i41 (.agg #[.slice none 0 0, .slice none 0 0]) 2 48 Tryd.underlying28 hi hz0 hz1 hz2 rfl (by decide) _ _ _ rfl hown1 w6.heap.size A2 n2 c2 cb rfl (hrb.below hb7) hone2 (by unfold maxLen; omega) (by omega) (by omega) ?_; intro A4 c4 w8 hown2 hgrow2 hlie2; have hb8 := hb7.grown hgrow2 hsz7 (fun j hj => (hown1.lt j hj).1); clear hgrow2 hlie2; have hsz8 := hb8.size))
  have HB8 := Lib.hid (HB6.out.trans (hb8.mono HB6.out.size))
  have HA8 := Lib.hid (show Args w8 A4 (n1 + n2) c4 (a ++ b) from ⟨(((HCa.out.below hb8).more hb8.size).app ((HCb.out.below hb8).more hb8.size)).rdq (Rd.of_own hown2), by omega, fun p hp => by
    rcases List.mem_append.1 hp with h | h
    · exact H1.out.all p h
    · exact H2.out.all p h⟩)
  have hZl : (BA ++ crlf ++ Y).length = nB + (2 + nY) := by
    rw [List.length_append, List.length_append, HnB.out, HnY.out]
    show nB + 2 + nY = _
    omega
  have HWz := Lib.hid (HA8.out.write HGA.out (by omega) HZ.out hZl)
  have HRx3 := Lib.hid ((HRx2.out.below hb8).more (B' := w8.heap.size) hb8.size)
  have HRy3 := Lib.hid ((HRy.out.below hb8).more (B' := w8.heap.size) hb8.size)
  clear hra hrb hown0 hown1 hown2 hb7 hb8 hone1 hone2 hsz7 hsz8 hZl HRx2 HRy HA8 HCa HCb hi hz0 hz1 hz2
  go_wp2_with fail
  refine HWz.out.mono ?_
  rintro e w9 ⟨gz, cz, rfl, hRz, hcz, hb9⟩
  have HB9 := Lib.hid (HB8.out.trans (hb9.mono HB8.out.size))
  have HRx4 := Lib.hid ((HRx3.out.below hb9).more (B' := w9.heap.size) hb9.size)
  have HRy4 := Lib.hid ((HRy3.out.below hb9).more (B' := w9.heap.size) hb9.size)
  have HRz := Lib.hid hRz
  clear hRz hb9 HRx3 HRy3 HWz
  go_wp2_with fail
  refine (HC17.out _).mono ?_
  rintro e w10 ⟨⟨Ac, cc, rfl⟩, hb10⟩
  have HB10 := Lib.hid (HB9.out.trans (hb10.mono HB9.out.size))
  obtain ⟨s1, hs1⟩ : ∃ s : ByteArray, ⟨BA.toArray⟩ = s := ⟨_, rfl⟩
  obtain ⟨s2, hs2⟩ : ∃ s : ByteArray, ⟨Y.toArray⟩ = s := ⟨_, rfl⟩
  obtain ⟨sz, hsz⟩ : ∃ s : ByteArray, ⟨(BA ++ crlf ++ Y).toArray⟩ = s := ⟨_, rfl⟩
  have HEq : Hid (sz = s1 ++ ⟨#[13, 10]⟩ ++ s2) := by
    show _ = _
    rw [← hsz, ← hs1, ← hs2]
    apply ByteArray.ext
    apply Array.ext'
    rw [app_data, app_data]
    rfl
  have z1 : s1.size ≤ 1204772732928 := by rw [← hs1, size_list, HnB.out]; exact hBl
  have z2 : s2.size ≤ 1204772733006 := by rw [← hs2, size_list, HnY.out]; exact hYl
  have v1 : ∀ q, (convert 31 9 (.slice (some ⟨gx, 0, none⟩) nB cx)).run Tryd.prog (w10.drewN q) = .ok (.string s1) (w10.drewN q) := fun q => by
    have h := RdB.take (HRx4.out.below hb10) (k := nB) (by omega)
    rw [List.take_append_of_le_length (by rw [HnB.out]; exact Nat.le_refl _), List.take_of_length_le (by rw [HnB.out]; exact Nat.le_refl _)] at h
    have h2 := RdB.conv (P := Tryd.prog) (Rd.drewN h q) (src := 31) (dst := 9) (e := 5) Tryd.underlying31 Tryd.underlying5 Tryd.underlying9 cx
    rw [hs1] at h2
    exact h2
  have v2 : ∀ q, (convert 31 9 (.slice (some ⟨gy, 0, none⟩) nY cy)).run Tryd.prog (w10.drewN q) = .ok (.string s2) (w10.drewN q) := fun q => by
    have h := HRy4.out.below hb10
    rw [Nat.zero_add] at h
    have h2 := RdB.conv (P := Tryd.prog) (Rd.drewN h q) (src := 31) (dst := 9) (e := 5) Tryd.underlying31 Tryd.underlying5 Tryd.underlying9 cy
    rw [hs2] at h2
    exact h2
  have v3 : ∀ q, (convert 31 9 (.slice (some ⟨gz, 0, none⟩) (nB + (2 + nY)) cz)).run Tryd.prog (w10.drewN q) = .ok (.string sz) (w10.drewN q) := fun q => by
    have h := HRz.out.below hb10
    have h2 := RdB.conv (P := Tryd.prog) (Rd.drewN h q) (src := 31) (dst := 9) (e := 5) Tryd.underlying31 Tryd.underlying5 Tryd.underlying9 cz
    rw [hsz] at h2
    exact h2
  have hlt : ¬ nB + nC < nC := by omega
  have hcx0 : (nB : Int) ≤ (cx : Int) := by omega
  have hnn : (0 : Int) ≤ (nB : Int) := by omega
  have HQ := Lib.hid (And.intro hs1 (And.intro hs2 hsz))
  clear hb10 HRx4 HRy4 HRz hs1 hs2 hsz HC17
  go_wp2_with fail
  go_quiet (fail)
  go_wp2
  go_ret
  exact ⟨ret_bool (by rw [HEq.out]; simp), (HB10.out).trans (below_drewN (Below.refl _ _) _)⟩

set_option maxRecDepth 100000 in
set_option maxHeartbeats 4000000 in
theorem xappend (A1 A2 : Option Addr) (n1 c1 n2 c2 : Nat) (a b : List PartL) (bd : ByteArray) (w : World) (w0 : bd.size ≤ maxLen) (h1 : Args w A1 n1 c1 a) (h2 : Args w A2 n2 c2 b) (f1 : n1 ≤ 1048576) (f2 : n2 ≤ 1048576) :
    Calls Tryd.prog 5 #[.slice A1 n1 c1, .slice A2 n2 c2, .string bd] w fun e w' => e = .returned (.bool true) ∧ Below w.heap.size w w' := by
  unfold maxLen at w0
  by_cases hm : bd.size ≤ 16777216 ∧ 0 < n1 ∧ 0 < n2
  · exact xappend_main A1 A2 n1 c1 n2 c2 a b bd w h1 h2 hm.1 f1 f2 hm.2.1 hm.2.2
  · have H1 := Lib.hid h1
    have H2 := Lib.hid h2
    have h : 2147483647 < bd.size ∨ (bd.size ≤ 2147483647 ∧ 16777216 < bd.size) ∨ (bd.size ≤ 16777216 ∧ ((n1 : Int) == 0) = true) ∨ (bd.size ≤ 16777216 ∧ ((n1 : Int) == 0) = false ∧ ((n2 : Int) == 0) = true) := by
      by_cases g1 : 2147483647 < bd.size
      · exact .inl g1
      by_cases g2 : 16777216 < bd.size
      · exact .inr (.inl ⟨by omega, g2⟩)
      by_cases g3 : n1 = 0
      · exact .inr (.inr (.inl ⟨by omega, beq_of (by omega)⟩))
      · exact .inr (.inr (.inr ⟨by omega, beq_not (by omega), beq_of (by omega)⟩))
    clear h1 h2 hm
    rcases h with h | ⟨h, h'⟩ | ⟨h, h'⟩ | ⟨h, h', h''⟩
    all_goals
      go_enter Tryd.func5, Tryd.ntmps5
      go_wp2_with fail
      refine H1.out.fits.mono ?_
      rintro e w1 ⟨⟨x, rfl, hx⟩, hb1⟩
      have HB1 := Lib.hid hb1
      clear hx hb1
      cases x
      · go_wp2
        go_ret
        exact ⟨rfl, HB1.out⟩
      · go_wp2_with fail
        refine (H2.out.below HB1.out).fits.mono ?_
        rintro e w2 ⟨⟨x, rfl, hx⟩, hb2⟩
        have HB2 := Lib.hid (HB1.out.trans (hb2.mono HB1.out.size))
        clear hx hb2
        cases x
        all_goals
          go_wp2
          go_ret
          exact ⟨rfl, HB2.out⟩

end Go.Proofs.YtklkgddldndmmaaDoor

/- A row of bytes of the call's own that is appended to; the walks of HeadText, PartText and pad. -/
namespace Go.Proofs.YtklkgddldndmmaaDoor
open Go.RowKit
set_option linter.unusedVariables false
set_option linter.unusedSimpArgs false

/-- The slice v, made since w0, reads as l; nothing that was there in w0 has turned. -/
structure OutRow (w0 w : World) (v : Value) (l : List UInt8) : Prop where
  own : w.ownsRow w0.heap.size 5 1 v l.length (Lib.byteCells l)
  below : Below w0.heap.size w0 w
theorem OutRow.nil (w : World) : OutRow w w (.slice none 0 0) [] := ⟨World.ownsRow_nil _ _ _ _, Below.refl _ _⟩
theorem OutRow.later {w0 w w' : World} {v : Value} {l : List UInt8} (h : OutRow w0 w v l) (hb : Below w.heap.size w w') : OutRow w0 w' v l :=
  ⟨own_carry h.own fun g hg => hb.block g (h.own.lt g hg).2, h.below.trans (hb.mono h.below.size)⟩
theorem OutRow.slice {w0 w : World} {v : Value} {l : List UInt8} (h : OutRow w0 w v l) : ∃ A c, v = .slice A l.length c := own_slice h.own
theorem OutRow.rd {w0 w : World} {A : Option Addr} {n c : Nat} {l : List UInt8} (h : OutRow w0 w (.slice A n c) l) : RdB w w.heap.size A n l ∧ l.length = n := by
  have hn : l.length = n := by
    obtain ⟨A', c', e⟩ := h.slice
    injection e with _ e _
    exact e.symm
  subst hn
  exact ⟨Rd.of_own h.own, rfl⟩
/-- Blocks that are no rows of bytes are as they were. -/
abbrev Still (w w' : World) : Prop := Kept (fun _ => False) w w'
theorem still_grown {w w' : World} {base n : Nat} {v : Value} {xs : List Value} (h : w.ownsRow base 5 1 v n xs) (hg : w.grownBy w' v.ownBlock) : Still w w' := fun k o hk _ h5 => by
  rw [hg.block k (Array.getElem?_eq_some_iff.1 hk).1, hk]
  intro e
  obtain ⟨cur, hc⟩ := own_block h e.symm
  rw [hk] at hc
  exact h5 _ _ (Option.some.inj hc)
theorem Still.cell {w w' : World} (h : Still w w') {g : Nat} {cs : Array Value} {t : TypeId} {fz : Nat × Nat} (hg : w.heap[g]? = some (.cells cs t fz)) (h5 : t ≠ 5) : w'.heap[g]? = some (.cells cs t fz) :=
  h g _ hg (fun x => x) (fun c f e => by injection e with _ e _; exact h5 e)

theorem wpList_out_string {w0 w : World} {ops : Array Oper} {rest : List Oper} {o : Oper} {a : Act} {Q : Exit → Act → World → Prop} (hgd : o.guard = none) (s x : Operand)
    (ho : o.op = .call { callee := .builtin .append, args := #[s, x], argTypes := #[31, 9] }) {v : Value} {l : List UInt8} (hs : a.eval s = v) (h : OutRow w0 w v l) (str : ByteArray) (hx : a.eval x = .string str)
    (hlen : l.length + str.size ≤ 140737488000000) (hK : ∀ v' w', OutRow w0 w' v' (l ++ str.data.toList) → Still w w' → wpList Tryd.prog ops Q rest (a.put o.dst v') w') : wpList Tryd.prog ops Q (o :: rest) a w := by
  obtain ⟨i0, hi, hz0, hz1, hz2⟩ := info5'
  refine Lib.wpList_append_own_string w hgd s x 31 9 ho w0.heap.size 5 i0 Tryd.underlying31 Tryd.underlying9 hi hz0 hz1 hz2 v l.length _ hs h.own str hx (by unfold maxLen; omega) (by omega) h.below.size ?_
  intro v' w' hown hgrow _
  refine hK v' w' ⟨?_, h.below.grown hgrow h.below.size (fun j hj => (h.own.lt j hj).1)⟩ (still_grown h.own hgrow)
  rw [Lib.strCells_eq, ← Lib.byteCells_append] at hown
  rw [List.length_append, len_data]
  exact hown

theorem wp_out_bytes {w0 w : World} {o : Oper} {a : Act} {K : Act → World → Prop} {Q : Exit → Act → World → Prop} (s x : Operand)
    (ho : o.op = .call { callee := .builtin .append, args := #[s, x], argTypes := #[31, 31] }) {v : Value} {l : List UInt8} (hs : a.eval s = v) (h : OutRow w0 w v l) (B : Nat) (A : Option Addr) (m c : Nat) (l2 : List UInt8) (hx : a.eval x = .slice A m c) (hr : RdB w B A m l2)
    (hlen : l.length + m ≤ 140737488000000) (hK : ∀ v' w', OutRow w0 w' v' (l ++ l2) → Still w w' → K (a.put o.dst v') w') : o.wp Tryd.prog a w K Q := by
  obtain ⟨i0, hi, hz0, hz1, hz2⟩ := info5'
  refine wp_append_any w s x 31 ho w0.heap.size 5 i0 (.int .u8 0) 1 1 Tryd.underlying31 hi hz0 hz1 hz2 rfl (by decide) v l.length _ hs h.own B A m c (Lib.byteCells l2) hx hr (bc_one l2) (by unfold maxLen; omega) (by omega) h.below.size ?_
  intro A' c' w' hown hgrow _
  refine hK _ w' ⟨?_, h.below.grown hgrow h.below.size (fun j hj => (h.own.lt j hj).1)⟩ (still_grown h.own hgrow)
  rw [← Lib.byteCells_append] at hown
  rw [List.length_append, hr.len]
  exact hown
theorem wpList_out_bytes {w0 w : World} {ops : Array Oper} {rest : List Oper} {o : Oper} {a : Act} {Q : Exit → Act → World → Prop} (hgd : o.guard = none) (s x : Operand)
    (ho : o.op = .call { callee := .builtin .append, args := #[s, x], argTypes := #[31, 31] }) {v : Value} {l : List UInt8} (hs : a.eval s = v) (h : OutRow w0 w v l) (B : Nat) (A : Option Addr) (m c : Nat) (l2 : List UInt8) (hx : a.eval x = .slice A m c) (hr : RdB w B A m l2)
    (hlen : l.length + m ≤ 140737488000000) (hK : ∀ v' w', OutRow w0 w' v' (l ++ l2) → Still w w' → wpList Tryd.prog ops Q rest (a.put o.dst v') w') : wpList Tryd.prog ops Q (o :: rest) a w :=
  wpList_plain hgd fun K hK' => wp_out_bytes s x ho hs h B A m c l2 hx hr hlen fun v' w' h1 h2 => hK' _ _ (hK v' w' h1 h2)
theorem step_out_bytes {w0 w : World} {ops : Array Oper} {o : Oper} {a : Act} {K : Act → World → Prop} {Q : Exit → Act → World → Prop} {E : Prop} (hgd : o.guard = none) (s x : Operand)
    (ho : o.op = .call { callee := .builtin .append, args := #[s, x], argTypes := #[31, 31] }) {v : Value} {l : List UInt8} (hs : a.eval s = v) (h : OutRow w0 w v l) (B : Nat) (A : Option Addr) (m c : Nat) (l2 : List UInt8) (hx : a.eval x = .slice A m c) (hr : RdB w B A m l2)
    (hlen : l.length + m ≤ 140737488000000) (hK : ∀ v' w', OutRow w0 w' v' (l ++ l2) → Still w w' → K (a.put o.dst v') w') : if Region.wanted o (yielded ops a.tmps) = true then Oper.wp Tryd.prog o a w K Q else E := by
  rw [if_pos (by simp [Region.wanted, hgd])]
  exact wp_out_bytes s x ho hs h B A m c l2 hx hr hlen hK

set_option maxRecDepth 100000 in
set_option maxHeartbeats 4000000 in
theorem headText_any (A : Option Addr) (n c : Nat) (hs : HdrL) (w : World) (hn : n ≤ 1000) (hr : RdH w w.heap.size A n hs) (hv : ∀ h ∈ hs, h.2.length ≤ 1000) (hl : (headT hs).length ≤ 200000) :
    Calls Tryd.prog 63 #[.slice A n c] w fun e w' => ∃ v, e = .returned v ∧ OutRow w w' v (headT hs ++ crlf) := by
  have HR := Lib.hid hr
  have HV := Lib.hid hv
  have HL := Lib.hid hl
  clear hr hv hl
  go_enter Tryd.func63, Tryd.ntmps63
  go_wp2_with fail
  go_loopw [3, 10] (fun v i wr => ∃ k : Nat, k ≤ n ∧ i = .int .i64 k ∧ Hid (OutRow w wr v (headT (hs.take k)))) (fun _ i _ => n - (intOf i).toNat)
  case atStart => exact ⟨0, Nat.zero_le _, rfl, OutRow.nil w⟩
  case round =>
    obtain ⟨k, hk, rfl, HO⟩ := hrel
    by_cases hlt : k < n
    · obtain ⟨b, o, rfl, hb, hcl⟩ := HR.out.2 (by omega)
      obtain ⟨x, hx⟩ : ∃ x, hs[k]? = some x := ⟨_, List.getElem?_eq_getElem (by rw [HR.out.1]; exact hlt)⟩
      obtain ⟨c1, Av, nv, cv, c2, hva⟩ := hcl k x hx
      have hB := HO.out.below
      have d1 := (hB.cell (p := ⟨b, o + k * 2, none⟩) hb).trans c1
      have d2 := (hB.cell (p := ⟨b, o + k * 2 + 1, none⟩) hb).trans c2
      have hnv : nv = x.2.length := by have h1 := hva.1; simpa using h1.symm
      have hnv2 : nv ≤ 1000 := by rw [hnv]; exact HV.out x (List.mem_of_getElem? hx)
      have HVa := Lib.hid hva
      have HNV := Lib.hid hnv
      have HX := Lib.hid hx
      have hal := (Below.refl wr.heap.size wr).alloc (Nat.le_refl _) (.cells #[.string x.1, .slice Av nv cv] 81)
      have g1 : (wr.alloc (.cells #[.string x.1, .slice Av nv cv] 81)).heap[wr.heap.size]? = some (.cells #[.string x.1, .slice Av nv cv] 81 (0, 0)) := heap_alloc_new wr _
      obtain ⟨wa, hwa⟩ : ∃ y, y = wr.alloc (.cells #[.string x.1, .slice Av nv cv] 81) := ⟨_, rfl⟩
      have HOa := Lib.hid (show OutRow w wa _ (headT (hs.take k)) by rw [hwa]; exact HO.out.later hal)
      rw [← hwa] at g1
      have k2 : wa.cell? ⟨wr.heap.size, 1, none⟩ = some (.slice Av nv cv) := by rw [Lib.cell_of_heap g1]; rfl
      have HG := Lib.hid g1
      clear hcl c1 c2 hva hnv hx hal g1 hB
      go_wp2_with fail
      rw [← hwa]
      clear hwa d1 d2 HO
      go_wp2_with fail
      obtain ⟨wo, rfl⟩ : ∃ wo : World, wo = wr := ⟨_, rfl⟩
      clear k2
      go_loopw [3, 17] (fun v i w2 => ∃ j : Nat, j ≤ nv ∧ i = .int .i64 j ∧ Hid (OutRow w w2 v (headT (hs.take k) ++ linesT x.1.data.toList (x.2.take j))) ∧ Hid (w2.heap[wo.heap.size]? = some (.cells #[.string x.1, .slice Av nv cv] 81 (0, 0)))) (fun _ i _ => nv - (intOf i).toNat)
      case atStart => exact ⟨0, Nat.zero_le _, rfl, Lib.hid (by simpa [linesT] using HOa.out), HG⟩
      case round =>
        obtain ⟨j, hj, rfl, HO2, HG2⟩ := hrel
        by_cases hlj : j < nv
        · obtain ⟨bv, ov, rfl, hbv, hcv⟩ := HVa.out.2 (by omega)
          obtain ⟨y, hy⟩ : ∃ y, x.2[j]? = some y := ⟨_, List.getElem?_eq_getElem (by rw [← HNV.out]; exact hlj)⟩
          have e1 := (HO2.out.below.cell (p := ⟨bv, ov + j, none⟩) hbv).trans (hcv j (.string y) (by rw [List.getElem?_map, hy]; rfl))
          have k1 : wr.cell? ⟨wo.heap.size, 0, none⟩ = some (.string x.1) := by rw [Lib.cell_of_heap HG2.out]; rfl
          have HPL1 := part_len HX.out j
          have HPL2 := part_len HX.out (j + 1)
          rw [take_at hy, linesT_snoc, List.length_append] at HPL2
          have hT2 : (x.1 ++ ⟨#[58, 32]⟩ ++ y ++ ⟨#[13, 10]⟩ : ByteArray).data.toList = lineT x.1.data.toList y.data.toList := by rw [app_data, app_data, app_data]; rfl
          have hz2 : (x.1 ++ ⟨#[58, 32]⟩ ++ y ++ ⟨#[13, 10]⟩ : ByteArray).size = (lineT x.1.data.toList y.data.toList).length := by rw [← hT2, len_data]
          have hlen : (lineT x.1.data.toList y.data.toList).length = x.1.size + y.size + 4 := by
            simp only [lineT, colon, crlf, List.length_append, len_data, List.length_cons, List.length_nil]; omega
          have hxs : x.1.size ≤ 200000 := by have h2 := HL.out; omega
          have hvs : y.size ≤ 200000 := by have h2 := HL.out; omega
          have HZ2 : Hid ((headT (hs.take k) ++ linesT x.1.data.toList (x.2.take j)).length + (x.1 ++ ⟨#[58, 32]⟩ ++ y ++ ⟨#[13, 10]⟩ : ByteArray).size ≤ 140737488000000) := by
            have h2 := HL.out
            show _ ≤ _
            rw [hz2, List.length_append]
            omega
          have HN : Hid (headT (hs.take k) ++ linesT x.1.data.toList (x.2.take j) ++ (x.1 ++ ⟨#[58, 32]⟩ ++ y ++ ⟨#[13, 10]⟩ : ByteArray).data.toList = headT (hs.take k) ++ linesT x.1.data.toList (x.2.take (j + 1))) := by
            show _ = _
            rw [hT2, take_at hy, linesT_snoc, List.append_assoc]
          clear HPL1 HPL2 hz2 hy hlen hT2 hcv
          go_wp2_with (at_builtin; refine wpList_out_string rfl (.tmp 21) (.tmp 27) rfl rfl HO2.out _ rfl HZ2.out ?_; intro v3 w3 hO3 hK3)
          rw [HN.out] at hO3
          have HO3 := Lib.hid hO3
          have HG3 := Lib.hid (hK3.cell HG2.out (by decide))
          clear hO3 hK3 k1
          go_wp2_with fail
          go_roundw
          case rel => exact ⟨j + 1, by omega, by go_num, HO3, HG3⟩
          case measure => simp [intOf]; omega
        · have hO3 := HO2.out
          have ht : x.2.take j = x.2 := List.take_of_length_le (by rw [← HNV.out]; omega)
          rw [ht, ← headT_snoc, ← take_at HX.out] at hO3
          clear ht
          have HO3 := Lib.hid hO3
          clear hO3
          go_wp2_with fail
          go_roundw
          case rel => exact ⟨k + 1, by omega, by go_num, HO3⟩
          case measure => simp [intOf]; omega
    · have hke : k = n := by omega
      have hO := HO.out
      rw [List.take_of_length_le (by rw [HR.out.1]; omega)] at hO
      have HO2 := Lib.hid hO
      clear hO
      have HZ : Hid ((headT hs).length + (⟨#[13, 10]⟩ : ByteArray).size ≤ 140737488000000) := by have h := HL.out; show _ + 2 ≤ _; omega
      go_wp2_with (at_builtin; refine wpList_out_string rfl (.tmp 31) (.const (.string ⟨#[13, 10]⟩)) rfl rfl HO2.out _ rfl HZ.out ?_; intro v3 w3 hO3 hK3)
      go_wp2
      go_ret
      exact ⟨_, rfl, hO3⟩

end Go.Proofs.YtklkgddldndmmaaDoor

/- The walks of PartText, pad and Body.Text. -/
namespace Go.Proofs.YtklkgddldndmmaaDoor
open Go.RowKit
set_option linter.unusedVariables false
set_option linter.unusedSimpArgs false

theorem own_base {w : World} {base base' : Nat} {e : TypeId} {size n : Nat} {v : Value} {xs : List Value} (h : w.ownsRow base e size v n xs) (hb : base' ≤ base) : w.ownsRow base' e size v n xs := by
  refine ⟨h.1, ?_⟩
  rcases h.2 with hn | ⟨g, cap, cur, hv, hbg, rest⟩
  · exact .inl hn
  · exact .inr ⟨g, cap, cur, hv, by omega, rest⟩
theorem OutRow.since {w W w' : World} {v : Value} {l : List UInt8} (h : OutRow W w' v l) (hb : Below w.heap.size w W) : OutRow w w' v l := ⟨own_base h.own hb.size, hb.trans (h.below.mono hb.size)⟩
theorem OutRow.drew {w W : World} {v : Value} {l : List UInt8} (h : OutRow w W v l) : OutRow w W.drew v l := ⟨h.own, h.below.drew⟩

theorem pad_any (v0 v1 v3 : Value) (i : Nat) (w : World) :
    Calls Tryd.prog 40 #[.agg #[v0, v1, .slice none 0 0, v3], .int .i64 i] w fun e w' => e = .returned (.string ⟨#[]⟩) ∧ Below w.heap.size w w' := by
  have HB := Lib.hid ((Below.refl w.heap.size w).alloc (Nat.le_refl _) (.cells #[v0, v1, .slice none 0 0, v3] 37))
  have h0 : ¬ (i : Int) < 0 := by omega
  go_enter Tryd.func40, Tryd.ntmps40
  go_wp2
  go_ret
  exact ⟨rfl, HB.out⟩

set_option maxRecDepth 100000 in
set_option maxHeartbeats 4000000 in
theorem partText_any (p : PartL) (Ah Ab : Option Addr) (nh ch nb cb : Nat) (w : World) (hn : nh ≤ 1000) (hv : ∀ h ∈ p.1, h.2.length ≤ 1000) (hl : (headT p.1).length ≤ 200000) (hnb : nb ≤ 140737487000000) (hr : RdH w w.heap.size Ah nh p.1) (hb : RdB w w.heap.size Ab nb p.2) :
    Calls Tryd.prog 41 #[.agg #[.slice Ah nh ch, .slice Ab nb cb]] w fun e w' => ∃ v, e = .returned v ∧ OutRow w w' v (partT p) := by
  have hal := (Below.refl w.heap.size w).alloc (Nat.le_refl _) (.cells #[.slice Ah nh ch, .slice Ab nb cb] 41)
  have g1 : (w.alloc (.cells #[.slice Ah nh ch, .slice Ab nb cb] 41)).heap[w.heap.size]? = some (.cells #[.slice Ah nh ch, .slice Ab nb cb] 41 (0, 0)) := heap_alloc_new w _
  obtain ⟨wa, hwa⟩ : ∃ y, y = w.alloc (.cells #[.slice Ah nh ch, .slice Ab nb cb] 41) := ⟨_, rfl⟩
  rw [← hwa] at g1 hal
  have hsa : w.heap.size < wa.heap.size := by rw [hwa]; simp
  have HC := Lib.hid (fun (W : World) (hW : Below wa.heap.size wa W) => (headText_any Ah nh ch p.1 W hn ((hr.below (hal.trans (hW.mono hal.size))).more (Nat.le_trans hal.size hW.size)) hv hl).mono fun e w' h => (show ∃ v, e = .returned v ∧ OutRow wa w' v (headT p.1 ++ crlf) from ⟨h.choose, h.choose_spec.1, h.choose_spec.2.since hW⟩))
  have HY := Lib.hid ((hb.below hal).more (B' := wa.heap.size) hal.size)
  have HZ : Hid ((headT p.1 ++ crlf).length + nb ≤ 140737488000000) := by show _ ≤ _; rw [List.length_append]; show _ + 2 + _ ≤ _; omega
  have k1 : wa.cell? ⟨w.heap.size, 0, none⟩ = some (.slice Ah nh ch) := by rw [Lib.cell_of_heap g1]; rfl
  have k2 : wa.cell? ⟨w.heap.size, 1, none⟩ = some (.slice Ab nb cb) := by rw [Lib.cell_of_heap g1]; rfl
  have HAl := Lib.hid hal
  clear hr hb hv g1 hal
  go_enter Tryd.func41, Tryd.ntmps41
  go_wp2_with fail
  rw [← hwa]
  clear hwa
  go_cut [2] from 3 to 8 (fun s2 wx => OutRow wa wx s2 (headT p.1 ++ crlf ++ p.2))
  case first =>
    go_region_law (first
      | (refine step_out_bytes (w0 := wa) (v := v) (l := headT p.1 ++ crlf) rfl (.tmp 5) (.tmp 7) rfl (by simp [Act.eval, Act.put]) ?_ wa.heap.size Ab nb cb p.2 (by simp [Act.eval, Act.put]) ?_ HZ.out ?_; (first | exact hO | exact hO.drew); (first | exact HY.out.below hO.below | exact HY.out.below hO.drew.below); intro v' w' hO' hK')
      | (go_simp; go_at_call 63; go_must (refine (HC.out _ ?_).mono ?_; (repeat (first | exact Below.refl _ _ | refine Below.drew ?_)); rintro e w' ⟨v, rfl, hO⟩; have k2' := (hO.below.cell (p := ⟨w.heap.size, 1, none⟩) hsa).trans k2)))
    all_goals (go_wp2_with fail; (try go_simp); go_meet; exact hO')
  go_wp2
  go_ret
  exact ⟨_, rfl, hcut.since HAl.out⟩

end Go.Proofs.YtklkgddldndmmaaDoor
