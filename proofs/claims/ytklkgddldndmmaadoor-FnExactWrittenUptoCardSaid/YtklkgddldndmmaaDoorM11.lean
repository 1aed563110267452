/- Texts of the proof, joined: TextX, WriteLaw, InsA, InsB, InsC. -/
import Derived.Test.YtklkgddldndmmaaDoorM10
import Derived.Outline
import Derived.Laws.CopyRow
import Derived.Laws.CopyOwn
import Derived.Lib.Overlaps
import Derived.Lib.AppendZerosOnto
import Derived.Laws.Externs
import Derived.Deep.RegionLaw
/- The walk of Body.Text, of a body that is parts alone. -/
namespace Go.Proofs.YtklkgddldndmmaaDoor
open Go.RowKit
set_option linter.unusedVariables false
set_option linter.unusedSimpArgs false

/-- What holds of what is written so far, and of the body's block. -/
structure TInv (w w' : World) (A : Option Addr) (n c : Nat) (v : Value) (l : List UInt8) : Prop where
  out : OutRow w w' v l
  blk : w'.heap[w.heap.size]? = some (.cells #[.slice none 0 0, .slice A n c, .slice none 0 0, .slice none 0 0] 37 (0, 0))
section
variable {w w1 w2 : World} {A : Option Addr} {n c : Nat} {v v' : Value} {l l' : List UInt8}
theorem TInv.cell (h : TInv w w1 A n c v l) : w1.cell? ⟨w.heap.size, 0, none⟩ = some (.slice none 0 0) ∧ w1.cell? ⟨w.heap.size, 1, none⟩ = some (.slice A n c) ∧ w1.cell? ⟨w.heap.size, 2, none⟩ = some (.slice none 0 0) ∧ w1.cell? ⟨w.heap.size, 3, none⟩ = some (.slice none 0 0) :=
  ⟨by rw [Lib.cell_of_heap h.blk]; rfl, by rw [Lib.cell_of_heap h.blk]; rfl, by rw [Lib.cell_of_heap h.blk]; rfl, by rw [Lib.cell_of_heap h.blk]; rfl⟩
theorem TInv.later (h : TInv w w1 A n c v l) (hb : Below w1.heap.size w1 w2) : TInv w w2 A n c v l := ⟨h.out.later hb, (hb.block _ (Array.getElem?_eq_some_iff.1 h.blk).1).trans h.blk⟩
theorem TInv.next (h : TInv w w1 A n c v l) (ho : OutRow w w2 v' l') (hs : Still w1 w2) : TInv w w2 A n c v' l' := ⟨ho, hs.cell h.blk (by decide)⟩
theorem TInv.eq (h : TInv w w1 A n c v l) (e : l = l') : TInv w w1 A n c v l' := e ▸ h
end

theorem cells_two {w : World} {g : Nat} {a b : Value} (h : w.heap[g]? = some (.cells #[a, b] 41 (0, 0))) : w.cell? ⟨g, 0, none⟩ = some a ∧ w.cell? ⟨g, 1, none⟩ = some b :=
  ⟨by rw [Lib.cell_of_heap h]; rfl, by rw [Lib.cell_of_heap h]; rfl⟩

set_option maxRecDepth 100000 in
set_option maxHeartbeats 8000000 in
theorem text_any (A : Option Addr) (n c : Nat) (ps : List PartL) (bd : ByteArray) (w : World) (hn : n ≤ 2147483647) (hbd : bd.size ≤ 70) (hr : RdP w w.heap.size A n ps) (hf : ∀ p ∈ ps, Fit p) (hlim : (bodyT bd.data.toList ps).length ≤ 140737480000000) :
    Calls Tryd.prog 18 #[.agg #[.slice none 0 0, .slice A n c, .slice none 0 0, .slice none 0 0], .string bd] w fun e w' => ∃ v, e = .returned v ∧ OutRow w w' v (writeT bd.data.toList ps) := by
  have HR := Lib.hid hr
  have HF := Lib.hid hf
  have HL := Lib.hid hlim
  have hal := (Below.refl w.heap.size w).alloc (Nat.le_refl _) (.cells #[.slice none 0 0, .slice A n c, .slice none 0 0, .slice none 0 0] 37)
  have HT0 := Lib.hid (show TInv w (w.alloc (.cells #[.slice none 0 0, .slice A n c, .slice none 0 0, .slice none 0 0] 37)) A n c (.slice none 0 0) [] from ⟨(OutRow.nil w).later hal, heap_alloc_new w _⟩)
  clear hr hf hlim hal
  go_enter Tryd.func18, Tryd.ntmps18
  go_wp2_with fail
  obtain ⟨w1, hw1⟩ : ∃ y, y = w.alloc (.cells #[.slice none 0 0, .slice A n c, .slice none 0 0, .slice none 0 0] 37) := ⟨_, rfl⟩
  rw [← hw1] at HT0 ⊢
  clear hw1
  go_loop [5, 13] (fun v i => v = .slice none 0 0 ∧ i = .int .i64 0) (fun _ i => 0)
  case atStart => exact ⟨rfl, rfl⟩
  case round =>
  obtain ⟨rfl, rfl⟩ := hrel
  obtain ⟨t0, t1, t2, t3⟩ := HT0.out.cell
  go_wp2_with fail
  clear t0 t1 t2 t3
  go_loopw [5, 25] (fun v i wr => ∃ k : Nat, k ≤ n ∧ i = .int .i64 k ∧ Hid (TInv w wr A n c v (bodyT bd.data.toList (ps.take k)))) (fun _ i _ => n - (intOf i).toNat)
  case atStart => exact ⟨0, Nat.zero_le _, rfl, HT0⟩
  case round =>
    obtain ⟨k, hk, rfl, HT⟩ := hrel
    by_cases hlt : k < n
    · obtain ⟨b, o, rfl, hb, hcl⟩ := HR.out.2 (by omega)
      obtain ⟨p, hp⟩ : ∃ x, ps[k]? = some x := ⟨_, List.getElem?_eq_getElem (by rw [HR.out.1]; exact hlt)⟩
      obtain ⟨Ah, nh, ch, Ab, nb, cb, c1, c2, hH, hY⟩ := hcl k p hp
      have hB := HT.out.out.below
      have d1 := (hB.cell (p := ⟨b, o + k * 2, none⟩) hb).trans c1
      have d2 := (hB.cell (p := ⟨b, o + k * 2 + 1, none⟩) hb).trans c2
      have hF := HF.out p (List.mem_of_getElem? hp)
      have hbl := body_len bd.data.toList hp
      have HBl : Hid ((bodyT bd.data.toList (ps.take k)).length + (headT p.1).length + p.2.length ≤ 140737480000000) := Nat.le_trans hbl HL.out
      have hnb := hY.len
      have hnh : nh ≤ 1000 := by have h1 := hH.1; have h2 := hF.len; omega
      have hal := (Below.refl wr.heap.size wr).alloc (Nat.le_refl _) (.cells #[.slice Ah nh ch, .slice Ab nb cb] 41)
      have g1 : (wr.alloc (.cells #[.slice Ah nh ch, .slice Ab nb cb] 41)).heap[wr.heap.size]? = some (.cells #[.slice Ah nh ch, .slice Ab nb cb] 41 (0, 0)) := heap_alloc_new wr _
      have HTa := Lib.hid (HT.out.later hal)
      have HG := Lib.hid g1
      have HPt := Lib.hid (fun (W : World) (hW : Below w.heap.size w W) => partText_any p Ah Ab nh ch nb cb W hnh (fun h hh => (hF.asc.vals h hh).2.1) hF.txt (by have h := HBl.out; omega) ((hH.below hW).more hW.size) ((hY.below hW).more hW.size))
      have HP := Lib.hid hp
      have HNb := Lib.hid hnb
      have HLn : Hid ((ps.take k).length = k) := by show _ = _; rw [List.length_take, HR.out.1]; omega
      clear hcl c1 c2 hH hY hal g1 hB hbl hp hF hnb HT
      have hS : (⟨#[45, 45]⟩ ++ bd ++ ⟨#[]⟩ ++ ⟨#[13, 10]⟩ : ByteArray).data.toList = delimT bd.data.toList := by
        rw [app_data, app_data, app_data]
        show dashes ++ bd.data.toList ++ [] ++ crlf = _
        rw [List.append_nil]
        rfl
      have HZ4 : Hid ((bodyT bd.data.toList (ps.take k) ++ sepT k).length + (⟨#[45, 45]⟩ ++ bd ++ ⟨#[]⟩ ++ ⟨#[13, 10]⟩ : ByteArray).size ≤ 140737488000000) := by
        show _ ≤ _
        have h := HBl.out
        have h3 : (sepT k).length ≤ 2 := by unfold sepT; split <;> simp [crlf]
        have h4 : (delimT bd.data.toList).length = 4 + bd.size := by
          simp only [delimT, dashes, crlf, List.length_append, len_data, List.length_cons, List.length_nil]; omega
        rw [← len_data, hS, h4, List.length_append]
        omega
      have HS := Lib.hid hS
      have HZ6 : Hid ((bodyT bd.data.toList (ps.take k) ++ sepT k ++ delimT bd.data.toList).length + (partT p).length ≤ 140737488000000) := by
        show _ ≤ _
        have h := HBl.out
        have h3 : (sepT k).length ≤ 2 := by unfold sepT; split <;> simp [crlf]
        have h4 : (delimT bd.data.toList).length = 4 + bd.size := by
          simp only [delimT, dashes, crlf, List.length_append, len_data, List.length_cons, List.length_nil]; omega
        have h5 : (partT p).length = (headT p.1).length + 2 + p.2.length := by
          simp only [partT, crlf, List.length_append, List.length_cons, List.length_nil]
        rw [h5, List.length_append, List.length_append, h4]
        omega
      have HN : Hid (bodyT bd.data.toList (ps.take k) ++ sepT k ++ delimT bd.data.toList ++ partT p = bodyT bd.data.toList (ps.take (k + 1))) := by
        show _ = _
        rw [take_at HP.out, bodyT_snoc, HLn.out]
        simp only [List.append_assoc]
      clear hS
      by_cases hk0 : k = 0
      · have hk1 : ¬ 0 < k := by omega
        obtain ⟨t0, t1, t2, t3⟩ := HTa.out.cell
        have HTx := Lib.hid (HTa.out.eq (l' := bodyT bd.data.toList (ps.take k) ++ sepT k) (by unfold sepT; rw [if_pos hk0, List.append_nil]))
        clear hk0 HTa
        go_wp2_with fail
        obtain ⟨wx, hwx⟩ : ∃ y, y = wr.alloc (.cells #[.slice Ah nh ch, .slice Ab nb cb] 41) := ⟨_, rfl⟩
        rw [← hwx] at HTx HG ⊢
        have HGx := Lib.hid HG.out
        clear hwx t0 t1 t2 t3 d1 d2 hk1 HG
        refine (pad_any _ _ _ k _).mono ?_
        rintro e w4 ⟨rfl, hb4⟩
        have HT4 := Lib.hid (HTx.out.later hb4)
        have HG4 := Lib.hid ((hb4.block _ (Array.getElem?_eq_some_iff.1 HGx.out).1).trans HGx.out)
        clear HTx HGx hb4
        go_wp2_with (at_builtin; refine wpList_out_string rfl (.tmp 34) (.tmp 41) rfl rfl HT4.out.out (⟨#[45, 45]⟩ ++ bd ++ ⟨#[]⟩ ++ ⟨#[13, 10]⟩) rfl HZ4.out ?_; intro v5 w5 hO5 hK5; rw [HS.out] at hO5; have HT5 := Lib.hid (HT4.out.next hO5 hK5); have HG5 := Lib.hid (hK5.cell HG4.out (by decide)); obtain ⟨p0, p1⟩ := cells_two HG5.out; clear hO5 hK5)
        refine (HPt.out _ HT5.out.out.below).mono ?_
        rintro e w6 ⟨v6, rfl, hO6⟩
        have HT6 := Lib.hid (HT5.out.later hO6.below)
        obtain ⟨A6, c6, hv6⟩ := hO6.slice
        rw [hv6] at hO6 ⊢
        have HR6 := Lib.hid hO6.rd.1
        clear hO6 hv6 HT4 HG4 HG5 HT5 p0 p1
        go_wp2_with (at_builtin; refine wpList_out_bytes rfl (.tmp 43) (.tmp 45) rfl rfl HT6.out.out w6.heap.size A6 (partT p).length c6 (partT p) rfl HR6.out HZ6.out ?_; intro v7 w7 hO7 hK7; have HT7 := Lib.hid ((HT6.out.next hO7 hK7).eq HN.out); clear hO7 hK7)
        go_roundw
        case rel => exact ⟨k + 1, by omega, by go_num, HT7⟩
        case measure => simp [intOf]; omega
      · have hk1 : 0 < k := by omega
        have HZ : Hid ((bodyT bd.data.toList (ps.take k)).length + (⟨#[13, 10]⟩ : ByteArray).size ≤ 140737488000000) := by have h := HBl.out; show _ + 2 ≤ _; omega
        go_wp2_with (at_builtin; refine wpList_out_string rfl (.tmp 32) (.const (.string ⟨#[13, 10]⟩)) rfl rfl HTa.out.out _ rfl HZ.out ?_; intro v3 w3 hO3 hK3; have HTx := Lib.hid ((HTa.out.next hO3 hK3).eq (l' := bodyT bd.data.toList (ps.take k) ++ sepT k) (by unfold sepT; rw [if_neg (by omega)]; rfl)); have HGx := Lib.hid (hK3.cell HG.out (by decide)); obtain ⟨t0, t1, t2, t3⟩ := HTx.out.cell; clear hO3 hK3)
        clear t0 t1 t2 t3 d1 d2 HTa HG
        refine (pad_any _ _ _ k _).mono ?_
        rintro e w4 ⟨rfl, hb4⟩
        have HT4 := Lib.hid (HTx.out.later hb4)
        have HG4 := Lib.hid ((hb4.block _ (Array.getElem?_eq_some_iff.1 HGx.out).1).trans HGx.out)
        clear HTx HGx hb4
        go_wp2_with (at_builtin; refine wpList_out_string rfl (.tmp 34) (.tmp 41) rfl rfl HT4.out.out (⟨#[45, 45]⟩ ++ bd ++ ⟨#[]⟩ ++ ⟨#[13, 10]⟩) rfl HZ4.out ?_; intro v5 w5 hO5 hK5; rw [HS.out] at hO5; have HT5 := Lib.hid (HT4.out.next hO5 hK5); have HG5 := Lib.hid (hK5.cell HG4.out (by decide)); obtain ⟨p0, p1⟩ := cells_two HG5.out; clear hO5 hK5)
        refine (HPt.out _ HT5.out.out.below).mono ?_
        rintro e w6 ⟨v6, rfl, hO6⟩
        have HT6 := Lib.hid (HT5.out.later hO6.below)
        obtain ⟨A6, c6, hv6⟩ := hO6.slice
        rw [hv6] at hO6 ⊢
        have HR6 := Lib.hid hO6.rd.1
        clear hO6 hv6 HT4 HG4 HG5 HT5 p0 p1
        go_wp2_with (at_builtin; refine wpList_out_bytes rfl (.tmp 43) (.tmp 45) rfl rfl HT6.out.out w6.heap.size A6 (partT p).length c6 (partT p) rfl HR6.out HZ6.out ?_; intro v7 w7 hO7 hK7; have HT7 := Lib.hid ((HT6.out.next hO7 hK7).eq HN.out); clear hO7 hK7)
        go_roundw
        case rel => exact ⟨k + 1, by omega, by go_num, HT7⟩
        case measure => simp [intOf]; omega
    · have hke : ps.take k = ps := List.take_of_length_le (by rw [HR.out.1]; omega)
      have hT := HT.out
      rw [hke] at hT
      have HTn := Lib.hid hT
      obtain ⟨t0, t1, t2, t3⟩ := hT.cell
      have hS : (⟨#[13, 10, 45, 45]⟩ ++ bd ++ ⟨#[45, 45]⟩ ++ ⟨#[]⟩ ++ ⟨#[13, 10]⟩ : ByteArray).data.toList = closeT bd.data.toList := by
        rw [app_data, app_data, app_data, app_data]
        show crlf ++ dashes ++ bd.data.toList ++ dashes ++ [] ++ crlf = _
        rw [List.append_nil]
        rfl
      have HZ : Hid ((bodyT bd.data.toList ps).length + (⟨#[13, 10, 45, 45]⟩ ++ bd ++ ⟨#[45, 45]⟩ ++ ⟨#[]⟩ ++ ⟨#[13, 10]⟩ : ByteArray).size ≤ 140737488000000) := by
        show _ ≤ _
        have h := HL.out
        have h4 : (closeT bd.data.toList).length = bd.size + 8 := by
          simp only [closeT, crlf, dashes, List.length_append, len_data, List.length_cons, List.length_nil]; omega
        rw [← len_data, hS, h4]
        omega
      have HZ8 : Hid ((bodyT bd.data.toList ps ++ closeT bd.data.toList).length + 0 ≤ 140737488000000) := by
        show _ ≤ _
        have h := HZ.out
        rw [← len_data, hS] at h
        rw [List.length_append]
        omega
      have HS := Lib.hid hS
      clear hS hT hke HT
      go_wp2_with fail
      refine (pad_any _ _ _ n _).mono ?_
      rintro e w4 ⟨rfl, hb4⟩
      have HT4 := Lib.hid (HTn.out.later hb4)
      clear hb4 t0 t1 t2 t3 HTn
      obtain ⟨t0, t1, t2, t3⟩ := HT4.out.cell
      go_wp2_with (first
        | (at_builtin; refine wpList_out_string rfl (.tmp 48) (.tmp 58) rfl rfl HT4.out.out (⟨#[13, 10, 45, 45]⟩ ++ bd ++ ⟨#[45, 45]⟩ ++ ⟨#[]⟩ ++ ⟨#[13, 10]⟩) rfl HZ.out ?_; intro v5 w5 hO5 hK5; rw [HS.out] at hO5; have HT5 := Lib.hid (HT4.out.next hO5 hK5); obtain ⟨u0, u1, u2, u3⟩ := HT5.out.cell; clear hO5 hK5)
        | (at_builtin; refine wpList_out_bytes rfl (.tmp 60) (.tmp 62) rfl rfl HT5.out.out w5.heap.size none 0 0 [] rfl Rd.none_ HZ8.out ?_; intro v7 w7 hO7 hK7; rw [List.append_nil] at hO7; have HO7 := Lib.hid hO7; clear hO7 hK7))
      go_ret
      exact ⟨_, rfl, HO7.out⟩

end Go.Proofs.YtklkgddldndmmaaDoor

/- The walk of the law FnExactWrite. -/
namespace Go.Proofs.YtklkgddldndmmaaDoor
open Go.RowKit
set_option linter.unusedVariables false
set_option linter.unusedSimpArgs false

theorem GoodP.size {ps : List PartL} {bd : ByteArray} (h : GoodP ps bd) : bd.size ≤ 70 := by
  have h := h.2
  unfold boundB at h
  rw [len_data] at h
  simp at h
  omega
theorem Args.text {w : World} {A : Option Addr} {n c : Nat} {ps : List PartL} (h : Args w A n c ps) {bd : ByteArray} (hg : GoodP ps bd) {nX : Nat} {X : List UInt8} (hX : writeT bd.data.toList ps = X) (hl : X.length = nX) (W : World) (hW : Below w.heap.size w W) :
    Calls Tryd.prog 18 #[.agg #[.slice none 0 0, .slice A n c, .slice none 0 0, .slice none 0 0], .string bd] W fun e w' => ∃ A' c', e = .returned (.slice A' nX c') ∧ RdB w' w'.heap.size A' nX X ∧ Below w.heap.size w w' := by
  have hlen := bodyT_len hg (m := 1048576) (n := 2097152) (fun p hp => (h.all p hp).2.2) (by rw [h.rd.1]; exact h.few)
  refine (text_any A n c ps bd W (by have := h.few; omega) hg.size ((h.rd.rdp.below hW).more hW.size) (fun p hp => (hg.1 p hp).1.fit) (by omega)).mono ?_
  rintro e w' ⟨v, rfl, hO⟩
  obtain ⟨A', c', rfl⟩ := hO.slice
  have hr := hO.rd.1
  rw [hX, hl] at hr ⊢
  exact ⟨A', c', rfl, hr, hW.trans (hO.below.mono hW.size)⟩

set_option maxRecDepth 100000 in
set_option maxHeartbeats 8000000 in
theorem xwrite_main (A : Option Addr) (n c : Nat) (ps : List PartL) (bd : ByteArray) (w : World) (h1 : Args w A n c ps) (hbd : bd.size ≤ 16777216) (h10 : 0 < n) :
    Calls Tryd.prog 6 #[.slice A n c, .string bd] w fun e w' => e = .returned (.bool true) ∧ Below w.heap.size w w' := by
  have H1 := Lib.hid h1
  clear h1
  have q1 : ((n : Int) == 0) = false := beq_not (by omega)
  go_enter Tryd.func6, Tryd.ntmps6
  go_wp2_with fail
  refine H1.out.fits.mono ?_
  rintro e w1 ⟨⟨x, rfl, hx⟩, hb1⟩
  have HB1 := Lib.hid hb1
  cases x with
  | false =>
    clear hx hb1
    go_wp2
    go_ret
    exact ⟨rfl, HB1.out⟩
  | true =>
  have HF1 := Lib.hid (hx rfl)
  clear hx hb1
  go_wp2_with fail
  refine ((H1.out.below HB1.out).good HF1.out bd hbd).mono ?_
  rintro e w3 ⟨⟨x, rfl, hx⟩, hb3⟩
  have HB3 := Lib.hid (HB1.out.trans (hb3.mono HB1.out.size))
  cases x with
  | false =>
    clear hx hb3
    go_wp2
    go_ret
    exact ⟨rfl, HB3.out⟩
  | true =>
  have HG1 := Lib.hid (hx rfl)
  clear hx hb3
  obtain ⟨X, hX⟩ : ∃ x, writeT bd.data.toList ps = x := ⟨_, rfl⟩
  obtain ⟨nX, hnX⟩ : ∃ n, X.length = n := ⟨_, rfl⟩
  have HW1 := Lib.hid ((H1.out.below HB3.out).write HG1.out h10 (nB := 0) (nC := nX) hX (by omega))
  have HTx := Lib.hid (fun (W : World) (hW : Below w.heap.size w W) => (H1.out.below hW).text HG1.out hX hnX)
  clear hX hnX
  go_wp2_with fail
  refine HW1.out.mono ?_
  rintro e w5 ⟨gx, cx, rfl, hRx, hcx, hb5⟩
  rw [Nat.zero_add] at hRx ⊢
  have HB5 := Lib.hid (HB3.out.trans (hb5.mono HB3.out.size))
  have HT5 := Lib.hid (HTx.out w5 HB5.out)
  obtain ⟨sX, hsX⟩ : ∃ s : ByteArray, ⟨X.toArray⟩ = s := ⟨_, rfl⟩
  have HR := Lib.hid hRx
  have HV := Lib.hid (fun (W : World) (hW : Below w5.heap.size w5 W) => by
    have h2 := RdB.conv (P := Tryd.prog) (Rd.below HR.out hW) (src := 31) (dst := 9) (e := 5) Tryd.underlying31 Tryd.underlying5 Tryd.underlying9 cx
    rw [hsX] at h2
    exact h2)
  have HV2 := Lib.hid (fun (W : World) (A' : Option Addr) (c' B : Nat) (hr : RdB W B A' nX X) => by
    have h2 := RdB.conv (P := Tryd.prog) hr (src := 31) (dst := 9) (e := 5) Tryd.underlying31 Tryd.underlying5 Tryd.underlying9 c'
    rw [hsX] at h2
    exact h2)
  have v0 := HV.out w5 (Below.refl _ _)
  have v0' := HV.out w5.drew (Below.refl _ _).drew
  clear hRx hb5 HW1 HTx hsX hcx
  go_wp2_with fail
  go_cut [4] from 33 to 43 (fun s4 wx => s4 = .bool true ∧ Below w5.heap.size w5 wx)
  case first =>
    go_region_with (go_simp; go_at_call 18; go_must (refine (HT5.out _ ?_).mono ?_; (repeat (first | exact Below.refl _ _ | refine Below.drew ?_)); rintro e w' ⟨A', c', rfl, hR', hb'⟩; have v1 := HV.out w' hb'; have v1' := HV.out w'.drew hb'.drew; have v2 := HV2.out w' A' c' _ hR'; have v2' := HV2.out w'.drew A' c' _ hR'))
    all_goals (go_wp2_with fail; (try go_simp); go_meet; exact ⟨by first | rfl | simp, by first | exact hb' | exact hb'.drew⟩)
  obtain ⟨rfl, hb6⟩ := hcut
  go_wp2
  go_ret
  exact ⟨rfl, HB5.out.trans (hb6.mono HB5.out.size)⟩

set_option maxRecDepth 100000 in
set_option maxHeartbeats 4000000 in
theorem xwrite (A : Option Addr) (n c : Nat) (ps : List PartL) (bd : ByteArray) (w : World) (w0 : bd.size ≤ maxLen) (h1 : Args w A n c ps) :
    Calls Tryd.prog 6 #[.slice A n c, .string bd] w fun e w' => e = .returned (.bool true) ∧ Below w.heap.size w w' := by
  unfold maxLen at w0
  by_cases hm : bd.size ≤ 16777216 ∧ 0 < n
  · exact xwrite_main A n c ps bd w h1 hm.1 hm.2
  · have H1 := Lib.hid h1
    have h : 2147483647 < bd.size ∨ (bd.size ≤ 2147483647 ∧ 16777216 < bd.size) ∨ (bd.size ≤ 16777216 ∧ ((n : Int) == 0) = true) := by
      by_cases g1 : 2147483647 < bd.size
      · exact .inl g1
      by_cases g2 : 16777216 < bd.size
      · exact .inr (.inl ⟨by omega, g2⟩)
      exact .inr (.inr ⟨by omega, beq_of (by omega)⟩)
    clear h1 hm
    rcases h with h | ⟨h, h'⟩ | ⟨h, h'⟩
    all_goals
      go_enter Tryd.func6, Tryd.ntmps6
      go_wp2_with fail
      refine H1.out.fits.mono ?_
      rintro e w1 ⟨⟨x, rfl, hx⟩, hb1⟩
      have HB1 := Lib.hid hb1
      clear hx hb1
      cases x
      all_goals
        go_wp2
        go_ret
        exact ⟨rfl, HB1.out⟩

end Go.Proofs.YtklkgddldndmmaaDoor

/- slices.Insert of one header into a row of the call's own: the laws of copy and append at elements of two cells. -/
namespace Go.Proofs.YtklkgddldndmmaaDoor
open Go.RowKit
set_option linter.unusedVariables false
set_option linter.unusedSimpArgs false

theorem info81 : (Tryd.prog.info? 81).map (fun i => (i.zero, i.size, i.bytes)) = some (some (.agg #[.string ⟨#[]⟩, .slice none 0 0]), 2, 40) := by kernel_rfl

theorem run_copy_row2 {P : Program} (w : World) (dT sT ty elem : TypeId) (g o dLen dCap : Nat) (a : Addr) (sLen sCap : Nat) (cur : Array Value) (t : TypeId) (cs : List Value)
    (hu : P.underlying dT = some (.slice elem)) (hs : (P.info? elem).map (·.size) = some 2)
    (hg : w.heap[g]? = some (.cells cur t (0, 0))) (hn : cs.length = Nat.min sLen dLen * 2)
    (hsrc : ∀ j v, cs[j]? = some v → w.cell? (a.add j) = some v) (hfit : o + cs.length ≤ cur.size) (h1 : ∀ v ∈ cs, v.oneCell' = true) :
    (Builtin.copy_ #[dT, sT] ty #[.slice (some ⟨g, o, none⟩) dLen dCap, .slice (some a) sLen sCap]).run P w =
      .ok (goInt (Nat.min sLen dLen)) (w.setRow g (cur.toList.take o ++ cs ++ cur.toList.drop (o + cs.length)).toArray) := by
  have hl := run_loadCells_list (P := P) w a cs hsrc
  have hst := run_storeCells_at P g o t cs 0 cur w hg (by simpa using hfit) h1
  cases hq : P.info? elem with
  | none => simp [hq] at hs
  | some i =>
    have hi : i.size = 2 := by simpa [hq] using hs
    simp [Builtin.copy_, run_underlying hu, Builtin.lenOf, Builtin.firstCells, sizeOf, typeInfo, hq, hi, ← hn, hl, hst]

theorem wp_copy_eq {P : Program} (w : World) {o : Oper} {a : Act} {K : Act → World → Prop} {Q : Exit → Act → World → Prop} (d s : Operand) (t t' : TypeId)
    (ho : o.op = .call { callee := .builtin .copy, args := #[d, s], argTypes := #[t, t'] }) (v u : Value) (hd : a.eval d = v) (hs : a.eval s = u) {v' : Value} {w' : World}
    (hr : (Builtin.copy_ #[t, t'] o.type #[v, u]).run P w = .ok v' w') (h : K (a.put o.dst v') w') : o.wp P a w K Q := by
  unfold Oper.wp execOp
  simp only [ho, resolve, invoke, builtin, Sem.run_bind, Sem.run_pure, Result.andThen_ok, List.map_toArray, List.map_cons, List.map_nil, hd, hs, hr]
  exact h
theorem wpList_copy_eq {P : Program} (w : World) {ops : Array Oper} {rest : List Oper} {o : Oper} {a : Act} {Q : Exit → Act → World → Prop} (hgd : o.guard = none) (d s : Operand) (t t' : TypeId)
    (ho : o.op = .call { callee := .builtin .copy, args := #[d, s], argTypes := #[t, t'] }) (v u : Value) (hd : a.eval d = v) (hs : a.eval s = u) {v' : Value} {w' : World}
    (hr : (Builtin.copy_ #[t, t'] o.type #[v, u]).run P w = .ok v' w') (h : wpList P ops Q rest (a.put o.dst v') w') : wpList P ops Q (o :: rest) a w :=
  wpList_plain hgd fun _ hK => wp_copy_eq w d s t t' ho v u hd hs hr (hK _ _ h)
theorem step_copy_eq {P : Program} {ops : Array Oper} {o : Oper} {a : Act} {w : World} {K : Act → World → Prop} {Q : Exit → Act → World → Prop} {E : Prop}
    (hg : o.guard = none) (d x : Operand) (dT sT : TypeId) (hop : o.op = Op.call { callee := Callee.builtin Builtin.copy, args := #[d, x], argTypes := #[dT, sT] })
    (v u : Value) (hd : a.eval d = v) (hx : a.eval x = u) {v' : Value} {w' : World} (hr : (Builtin.copy_ #[dT, sT] o.type #[v, u]).run P w = .ok v' w') (hK : K (a.put o.dst v') w') :
    if Region.wanted o (yielded ops a.tmps) = true then Oper.wp P o a w K Q else E := by
  rw [if_pos (by simp [Region.wanted, hg])]
  exact wp_copy_eq w d x dT sT hop v u hd hx hr hK

/-- A row spliced as Insert does in place: what stands from i on goes one place on, the new one takes its place. -/
theorem splice_ins {cur xs new : List Value} {n i cap : Nat} (hx : cur.take (n * 2) = xs) (hc : cur.length = cap * 2) (hi : i < n) (hr : n + 1 ≤ cap) (hnew : new.length = 2) {c1 c2 : List Value}
    (h1 : c1 = cur.take ((i + 1) * 2) ++ xs.drop (i * 2) ++ cur.drop ((i + 1) * 2 + (xs.drop (i * 2)).length)) (h2 : c2 = c1.take (i * 2) ++ new ++ c1.drop (i * 2 + new.length)) :
    c1.length = cap * 2 ∧ c2.length = cap * 2 ∧ c2.take ((n + 1) * 2) = xs.take (i * 2) ++ new ++ xs.drop (i * 2) := by
  have hxl : xs.length = n * 2 := by rw [← hx, List.length_take]; omega
  obtain ⟨P, hP⟩ : ∃ P, xs.take (i * 2) = P := ⟨_, rfl⟩
  obtain ⟨S, hS⟩ : ∃ S, xs.drop (i * 2) = S := ⟨_, rfl⟩
  obtain ⟨T, hT⟩ : ∃ T, cur.drop (n * 2) = T := ⟨_, rfl⟩
  have hPl : P.length = i * 2 := by rw [← hP, List.length_take]; omega
  have hSl : S.length = (n - i) * 2 := by rw [← hS, List.length_drop]; omega
  have hcur : cur = P ++ (S ++ T) := by rw [← List.append_assoc, ← hP, ← hS, List.take_append_drop, ← hx, ← hT, List.take_append_drop]
  have hTl : T.length = (cap - n) * 2 := by rw [← hT, List.length_drop]; omega
  have hm : (cur.take ((i + 1) * 2)).length = (i + 1) * 2 := by rw [List.length_take]; omega
  rw [hS] at h1
  have hl1 : c1.length = cap * 2 := by
    rw [h1, List.length_append, List.length_append, hm, List.length_drop, hSl, hc]
    omega
  have ht : c1.take (i * 2) = P := by
    rw [h1, List.append_assoc, List.take_append_of_le_length (by omega), List.take_take, show min (i * 2) ((i + 1) * 2) = i * 2 by omega, hcur]
    exact List.take_left' hPl
  have hd : c1.drop (i * 2 + new.length) = S ++ cur.drop ((i + 1) * 2 + S.length) := by
    rw [h1, hnew, List.append_assoc]
    exact List.drop_left' (by rw [hm]; omega)
  rw [ht, hd] at h2
  refine ⟨hl1, ?_, ?_⟩
  · rw [h2, List.length_append, List.length_append, List.length_append, List.length_drop, hPl, hSl, hnew, hc]
    rw [hcur] at hc
    rw [List.length_append, List.length_append, hPl, hSl, hTl] at hc
    omega
  · rw [h2, hP, hS, ← List.append_assoc]
    exact List.take_left' (by rw [List.length_append, List.length_append, hPl, hSl, hnew]; omega)

end Go.Proofs.YtklkgddldndmmaaDoor

/- The walk of slices.Insert of one header into a row of the call's own. -/
namespace Go.Proofs.YtklkgddldndmmaaDoor
open Go.RowKit
set_option linter.unusedVariables false
set_option linter.unusedSimpArgs false

/-- What Insert leaves: a row with the new header at place i; no block but the row's own has turned. -/
def InsPost (base : Nat) (v : Value) (n : Nat) (xs : List Value) (i : Nat) (a b : Value) (w : World) (e : Ending) (w' : World) : Prop :=
  ∃ v', e = .returned v' ∧ w'.ownsRow base 81 2 v' (n + 1) (xs.take (i * 2) ++ [a, b] ++ xs.drop (i * 2)) ∧ w.grownBy w' v.ownBlock ∧ (v'.ownBlock = v.ownBlock ∨ v'.ownBlock = some w.heap.size)

theorem new_rd {w : World} {vb : Nat} {a b : Value} (h : w.heap[vb]? = some (.cells #[a, b] 81 (0, 0))) : Rd w w.heap.size 2 (some ⟨vb, 0, none⟩) 1 [a, b] :=
  ⟨rfl, fun _ => ⟨vb, 0, rfl, (Array.getElem?_eq_some_iff.1 h).1, fun j u hu => by
    rw [Nat.zero_add, Lib.cell_of_heap h]
    simpa using hu⟩⟩

set_option maxRecDepth 100000 in
set_option maxHeartbeats 2000000 in
theorem ins_end (base n c vb : Nat) (A : Option Addr) (a b : Value) (xs : List Value) (w : World) (hown : w.ownsRow base 81 2 (.slice A n c) n xs) (hn : n ≤ 1000) (hb : w.heap[vb]? = some (.cells #[a, b] 81 (0, 0))) (h1 : a.oneCell' = true ∧ b.oneCell' = true) (hbase : base ≤ w.heap.size) :
    Calls Tryd.prog 71 #[.slice A n c, .int .i64 n, .slice (some ⟨vb, 0, none⟩) 1 1] w fun e w' => InsPost base (.slice A n c) n xs n a b w e w' := by
  obtain ⟨i81, hi, hz0, hz1, hz2⟩ := info_parts info81
  have hnc : n ≤ c := by
    rcases hown.2 with ⟨e, h0⟩ | ⟨g, cap, cur, e, _, _, h3, _⟩
    · omega
    · injection e with _ _ e; omega
  have hnci : (n : Int) ≤ (c : Int) := by omega
  have hr := new_rd hb
  have hone : ∀ u ∈ [a, b], u.oneCell' = true := by
    intro u hu
    simp only [List.mem_cons, List.not_mem_nil, or_false] at hu
    rcases hu with rfl | rfl
    · exact h1.1
    · exact h1.2
  have HX : Hid (xs.take (n * 2) ++ [a, b] ++ xs.drop (n * 2) = xs ++ [a, b]) := by
    show _ = _
    rw [List.take_of_length_le (by rw [hown.1]; exact Nat.le_refl _), List.drop_eq_nil_of_le (by rw [hown.1]; exact Nat.le_refl _), List.append_nil]
  by_cases hcn : c = n
  all_goals
    go_enter Tryd.func71, Tryd.ntmps71
    go_wp2_with (at_builtin; refine wpList_append_any _ rfl (.tmp 23) (.tmp 24) 39 rfl base 81 i81 (.agg #[.string ⟨#[]⟩, .slice none 0 0]) 2 40 Tryd.underlying39 hi hz0 hz1 hz2 rfl (by decide) _ _ _ rfl hown w.heap.size (some ⟨vb, 0, none⟩) 1 1 [a, b] rfl hr hone (by unfold maxLen; omega) (by omega) hbase ?_; intro A' c' w' hown' hgrow hlie)
    go_ret
    rw [← HX.out] at hown'
    exact ⟨_, rfl, hown', hgrow, hlie⟩

end Go.Proofs.YtklkgddldndmmaaDoor

/- The walk of slices.Insert of one header in the midst of a row of the call's own, where there is room. -/
namespace Go.Proofs.YtklkgddldndmmaaDoor
open Go.RowKit
set_option linter.unusedVariables false
set_option linter.unusedSimpArgs false

theorem overlaps_no (w : World) (vb g off lb cb : Nat) (a b : Value) (cur : Array Value) (hb : w.heap[vb]? = some (.cells #[a, b] 81 (0, 0))) (hg : w.heap[g]? = some (.cells cur 81 (0, 0))) (hne : vb ≠ g) (h0 : cur.size ≠ 0) :
    (callFunc 80 #[.slice (some ⟨vb, 0, none⟩) 1 1, .slice (some ⟨g, off, none⟩) lb cb]).run Tryd.prog w = .ok (.value (.bool false)) w := by
  have hsa : w.shape? vb = some (81, 2) := by simp [World.shape?, hb]
  have hsb : w.shape? g = some (81, cur.size) := by simp [World.shape?, hg]
  rw [run_callFunc_extern Tryd.func80 (by kernel_rfl) (by kernel_rfl) (by kernel_rfl) (e := Extern.SlicesOverlaps.overlaps #[39, 39] #[4]) (by kernel_rfl),
    Lib.run_overlaps_apart w 39 4 81 Tryd.underlying39 2 (fun w => Tryd.sizeOf81 w) ⟨vb, 0, none⟩ ⟨g, off, none⟩ 1 1 lb cb hne 81 81 2 cur.size hsa hsb h0 (by simp [World.frozen?, hb]) (by simp [World.frozen?, hb])]
  rfl

theorem setRow_grown (w : World) (g : Nat) (cs : Array Value) : w.grownBy (w.setRow g cs) (some g) :=
  ⟨rfl, rfl, rfl, by simp [World.setRow], fun k hk hne => setRow_other w g k cs (fun e => hne (by rw [e]))⟩

set_option maxRecDepth 100000 in
set_option maxHeartbeats 2000000 in
theorem ins_shift (base n c i vb g : Nat) (a b : Value) (xs : List Value) (cur : Array Value) (w : World) (hg : w.heap[g]? = some (.cells cur 81 (0, 0))) (hbg : base ≤ g) (hcm : c ≤ maxLen) (hcs : cur.size = c * 2) (hct : cur.toList.take (n * 2) = xs) (hx1 : ∀ u ∈ xs, u.oneCell' = true)
    (hi : i < n) (hr : n + 1 ≤ c) (hb : w.heap[vb]? = some (.cells #[a, b] 81 (0, 0))) (hne : vb ≠ g) (h1 : a.oneCell' = true ∧ b.oneCell' = true) :
    Calls Tryd.prog 71 #[.slice (some ⟨g, 0, none⟩) n c, .int .i64 i, .slice (some ⟨vb, 0, none⟩) 1 1] w fun e w' => InsPost base (.slice (some ⟨g, 0, none⟩) n c) n xs i a b w e w' := by
  have hov := fun (off lb cb : Nat) => overlaps_no w vb g off lb cb a b cur hb hg hne (by omega)
  unfold maxLen at hcm
  have hz2 : ¬ ((i : Int) = (n : Int)) := by omega
  have hz2' : ((i : Int) == (n : Int)) = false := beq_not hz2
  have hz3 : ¬ (c : Int) < (n : Int) + 1 := by omega
  have hb0 : (0 : Int) ≤ (i : Int) := by omega
  have hb1 : (i : Int) ≤ (n : Int) := by omega
  have hb2 : (i : Int) ≤ (c : Int) := by omega
  have hb3 : (n : Int) + 1 ≤ (c : Int) := by omega
  have hb4 : (i : Int) + 1 ≤ (n : Int) + 1 := by omega
  have hci : ¬ (c = i) := by omega
  have hci1 : ¬ (c = i + 1) := by omega
  have hw1 : IntKind.i64.wrap ((i : Int) + 1) = (i : Int) + 1 := by rw [IntKind.wrap_i64]; omega
  have htn : ((i : Int) + 1).toNat = i + 1 := by omega
  have hb5 : (0 : Int) ≤ (i : Int) + 1 := by omega
  have hb6 : (i : Int) ≤ (n : Int) + 1 := by omega
  have hs2 : (Tryd.prog.info? 81).map (·.size) = some 2 := by
    obtain ⟨i0, hi0, _, h, _⟩ := info_parts info81
    rw [hi0]; simp [h]
  have hxl : xs.length = n * 2 := by rw [← hct, List.length_take]; simp [hcs]; omega
  have hdl : (xs.drop (i * 2)).length = (n - i) * 2 := by rw [List.length_drop]; omega
  have hcell : ∀ j v, xs[j]? = some v → w.cell? ⟨g, j, none⟩ = some v := fun j v hj => by
    rw [Lib.cell_of_heap hg, ← Array.getElem?_toList]
    rw [← hct, List.getElem?_take] at hj
    split at hj
    · exact hj
    · cases hj
  obtain ⟨C1, hC1⟩ : ∃ C1, C1 = cur.toList.take ((i + 1) * 2) ++ xs.drop (i * 2) ++ cur.toList.drop ((i + 1) * 2 + (xs.drop (i * 2)).length) := ⟨_, rfl⟩
  obtain ⟨C2, hC2⟩ : ∃ C2, C2 = C1.take (i * 2) ++ [a, b] ++ C1.drop (i * 2 + [a, b].length) := ⟨_, rfl⟩
  obtain ⟨hl1, hl2, hfin⟩ := splice_ins hct (by simp [hcs]) hi hr rfl hC1 hC2
  have hcp1 : ∀ ty dc sc, (Builtin.copy_ #[39, 39] ty #[.slice (some ⟨g, (i + 1) * 2, none⟩) (n - i) dc, .slice (some ⟨g, i * 2, none⟩) (n + 1 - i) sc]).run Tryd.prog w.drew = .ok (goInt (Nat.min (n + 1 - i) (n - i))) (w.drew.setRow g C1.toArray) := fun ty dc sc => by
    rw [hC1]
    exact run_copy_row2 w.drew 39 39 ty 81 g ((i + 1) * 2) (n - i) dc ⟨g, i * 2, none⟩ (n + 1 - i) sc cur 81 (xs.drop (i * 2)) Tryd.underlying39 hs2 hg (by rw [hdl]; simp only [Nat.min_def]; split <;> omega)
      (fun j v hj => by
        rw [Addr.add_lit]
        rw [List.getElem?_drop] at hj
        exact hcell _ v hj) (by rw [hdl]; omega) (fun v hv => hx1 v (List.mem_of_mem_drop hv))
  obtain ⟨W1, hW1⟩ : ∃ W1, W1 = w.drew.setRow g C1.toArray := ⟨_, rfl⟩
  have hg1 : W1.heap[g]? = some (.cells C1.toArray 81 (0, 0)) := by rw [hW1]; exact setRow_heap w.drew g cur _ 81 (0, 0) hg
  have hb1' : W1.heap[vb]? = some (.cells #[a, b] 81 (0, 0)) := by rw [hW1, setRow_other w.drew g vb _ hne]; exact hb
  have hcp2 : ∀ ty dc, (Builtin.copy_ #[39, 39] ty #[.slice (some ⟨g, i * 2, none⟩) (n + 1 - i) dc, .slice (some ⟨vb, 0, none⟩) 1 1]).run Tryd.prog W1 = .ok (goInt (Nat.min 1 (n + 1 - i))) (W1.setRow g C2.toArray) := fun ty dc => by
    have h := run_copy_row2 (P := Tryd.prog) W1 39 39 ty 81 g (i * 2) (n + 1 - i) dc ⟨vb, 0, none⟩ 1 1 C1.toArray 81 [a, b] Tryd.underlying39 hs2 hg1 (by simp only [Nat.min_def]; split <;> simp <;> omega)
      (fun j v hj => by
        rw [Addr.add_lit, Nat.zero_add, Lib.cell_of_heap hb1']
        simpa using hj) (by simp [hl1]; omega) (by
        intro u hu
        simp only [List.mem_cons, List.not_mem_nil, or_false] at hu
        rcases hu with rfl | rfl
        · exact h1.1
        · exact h1.2)
    rw [hC2]
    exact h
  rw [← hW1] at hcp1
  have HFin := Lib.hid hfin
  have HG1 := Lib.hid hg1
  have HL2 := Lib.hid hl2
  have HW1 := Lib.hid hW1
  have HGr := Lib.hid (show w.grownBy (W1.setRow g C2.toArray) (some g) from by
    have k1 : w.grownBy W1 (some g) := by
      rw [hW1]
      exact ⟨rfl, rfl, rfl, by simp [World.setRow], fun k hk hne => setRow_other w.drew g k _ (fun e => hne (by rw [e]))⟩
    have k2 := setRow_grown W1 g C2.toArray
    exact ⟨k2.os.trans k1.os, k2.tape.trans k1.tape, k2.output.trans k1.output, Nat.le_trans k1.size k2.size, fun k hk hn => (k2.block k (Nat.lt_of_lt_of_le hk k1.size) hn).trans (k1.block k hk hn)⟩)
  clear hC1 hC2 hfin hg1 hb1' hl1 hl2 hW1 hct hcs hxl hdl hcell hs2 hx1 hg hb
  go_enter Tryd.func71, Tryd.ntmps71
  go_wp2_with (simp only [hov])
  go_region_law (refine step_copy_eq rfl (.tmp 73) (.tmp 76) 39 39 rfl _ _ (by simp [Act.eval, Act.put]; rfl) (by simp [Act.eval, Act.put]; rfl) (hcp1 _ _ _) ?_)
  go_wp2_with (at_builtin; refine wpList_copy_eq _ rfl (.tmp 80) (.tmp 81) 39 39 rfl _ _ rfl rfl (hcp2 _ _) ?_)
  go_ret
  refine ⟨_, rfl, ⟨?_, .inr ⟨g, c, C2.toArray, rfl, hbg, ?_, hr, hcm, ?_, ?_⟩⟩, HGr.out, .inl rfl⟩
  · rw [← HFin.out, List.length_take, HL2.out]
    omega
  · exact setRow_heap W1 g _ _ 81 (0, 0) HG1.out
  · simpa using HL2.out
  · exact HFin.out

end Go.Proofs.YtklkgddldndmmaaDoor
