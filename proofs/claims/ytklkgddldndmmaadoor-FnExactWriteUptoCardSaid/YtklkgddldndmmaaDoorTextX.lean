/- The walk of Body.Text, of a body that is parts alone. -/
import Derived.Test.YtklkgddldndmmaaDoorTextW
import Derived.Outline
namespace Go.Proofs.YtklkgddldndmmaaDoor
open Go.RowKit
set_option linter.unusedVariables false
set_option linter.unusedSimpArgs false

/-- What holds of what is written so far, and of the body's block. -/
structure TInv (w w' : World) (A : Option Addr) (n c : Nat) (v : Value) (l : List UInt8) : Prop where
  out : OutRow w w' v l
  blk : w'.heap[w.heap.size]? = some (.cells #[.slice none 0 0, .slice A n c, .slice none 0 0, .slice none 0 0] 37 (0, 0))
section
variable {w w1 w2 : World} {A : Option Addr} {n c : Nat} {v v' : Value} {l l' : List UInt8}
theorem TInv.cell (h : TInv w w1 A n c v l) : w1.cell? ⟨w.heap.size, 0, none⟩ = some (.slice none 0 0) ∧ w1.cell? ⟨w.heap.size, 1, none⟩ = some (.slice A n c) ∧ w1.cell? ⟨w.heap.size, 2, none⟩ = some (.slice none 0 0) ∧ w1.cell? ⟨w.heap.size, 3, none⟩ = some (.slice none 0 0) :=
  ⟨by rw [Lib.cell_of_heap h.blk]; rfl, by rw [Lib.cell_of_heap h.blk]; rfl, by rw [Lib.cell_of_heap h.blk]; rfl, by rw [Lib.cell_of_heap h.blk]; rfl⟩
theorem TInv.later (h : TInv w w1 A n c v l) (hb : Below w1.heap.size w1 w2) : TInv w w2 A n c v l := ⟨h.out.later hb, (hb.block _ (Array.getElem?_eq_some_iff.1 h.blk).1).trans h.blk⟩
theorem TInv.next (h : TInv w w1 A n c v l) (ho : OutRow w w2 v' l') (hs : Still w1 w2) : TInv w w2 A n c v' l' := ⟨ho, hs.cell h.blk (by decide)⟩
theorem TInv.eq (h : TInv w w1 A n c v l) (e : l = l') : TInv w w1 A n c v l' := e ▸ h
end

theorem cells_two {w : World} {g : Nat} {a b : Value} (h : w.heap[g]? = some (.cells #[a, b] 41 (0, 0))) : w.cell? ⟨g, 0, none⟩ = some a ∧ w.cell? ⟨g, 1, none⟩ = some b :=
  ⟨by rw [Lib.cell_of_heap h]; rfl, by rw [Lib.cell_of_heap h]; rfl⟩

set_option maxRecDepth 100000 in
set_option maxHeartbeats 8000000 in
theorem text_any (A : Option Addr) (n c : Nat) (ps : List PartL) (bd : ByteArray) (w : World) (hn : n ≤ 2147483647) (hbd : bd.size ≤ 70) (hr : RdP w w.heap.size A n ps) (hf : ∀ p ∈ ps, Fit p) (hlim : (bodyT bd.data.toList ps).length ≤ 140737480000000) :
    Calls Tryd.prog 18 #[.agg #[.slice none 0 0, .slice A n c, .slice none 0 0, .slice none 0 0], .string bd] w fun e w' => ∃ v, e = .returned v ∧ OutRow w w' v (writeT bd.data.toList ps) := by
  have HR := Lib.hid hr
  have HF := Lib.hid hf
  have HL := Lib.hid hlim
  have hal := (Below.refl w.heap.size w).alloc (Nat.le_refl _) (.cells #[.slice none 0 0, .slice A n c, .slice none 0 0, .slice none 0 0] 37)
  have HT0 := Lib.hid (show TInv w (w.alloc (.cells #[.slice none 0 0, .slice A n c, .slice none 0 0, .slice none 0 0] 37)) A n c (.slice none 0 0) [] from ⟨(OutRow.nil w).later hal, heap_alloc_new w _⟩)
  clear hr hf hlim hal
  go_enter Tryd.func18, Tryd.ntmps18
  go_wp2_with fail
  obtain ⟨w1, hw1⟩ : ∃ y, y = w.alloc (.cells #[.slice none 0 0, .slice A n c, .slice none 0 0, .slice none 0 0] 37) := ⟨_, rfl⟩
  rw [← hw1] at HT0 ⊢
  clear hw1
  go_loop [5, 13] (fun v i => v = .slice none 0 0 ∧ i = .int .i64 0) (fun _ i => 0)
  case atStart => exact ⟨rfl, rfl⟩
  case round =>
  obtain ⟨rfl, rfl⟩ := hrel
  obtain ⟨t0, t1, t2, t3⟩ := HT0.out.cell
  go_wp2_with fail
  clear t0 t1 t2 t3
  go_loopw [5, 25] (fun v i wr => ∃ k : Nat, k ≤ n ∧ i = .int .i64 k ∧ Hid (TInv w wr A n c v (bodyT bd.data.toList (ps.take k)))) (fun _ i _ => n - (intOf i).toNat)
  case atStart => exact ⟨0, Nat.zero_le _, rfl, HT0⟩
  case round =>
    obtain ⟨k, hk, rfl, HT⟩ := hrel
    by_cases hlt : k < n
    · obtain ⟨b, o, rfl, hb, hcl⟩ := HR.out.2 (by omega)
      obtain ⟨p, hp⟩ : ∃ x, ps[k]? = some x := ⟨_, List.getElem?_eq_getElem (by rw [HR.out.1]; exact hlt)⟩
      obtain ⟨Ah, nh, ch, Ab, nb, cb, c1, c2, hH, hY⟩ := hcl k p hp
      have hB := HT.out.out.below
      have d1 := (hB.cell (p := ⟨b, o + k * 2, none⟩) hb).trans c1
      have d2 := (hB.cell (p := ⟨b, o + k * 2 + 1, none⟩) hb).trans c2
      have hF := HF.out p (List.mem_of_getElem? hp)
      have hbl := body_len bd.data.toList hp
      have HBl : Hid ((bodyT bd.data.toList (ps.take k)).length + (headT p.1).length + p.2.length ≤ 140737480000000) := Nat.le_trans hbl HL.out
      have hnb := hY.len
      have hnh : nh ≤ 1000 := by have h1 := hH.1; have h2 := hF.len; omega
      have hal := (Below.refl wr.heap.size wr).alloc (Nat.le_refl _) (.cells #[.slice Ah nh ch, .slice Ab nb cb] 41)
      have g1 : (wr.alloc (.cells #[.slice Ah nh ch, .slice Ab nb cb] 41)).heap[wr.heap.size]? = some (.cells #[.slice Ah nh ch, .slice Ab nb cb] 41 (0, 0)) := heap_alloc_new wr _
      have HTa := Lib.hid (HT.out.later hal)
      have HG := Lib.hid g1
      have HPt := Lib.hid (fun (W : World) (hW : Below w.heap.size w W) => partText_any p Ah Ab nh ch nb cb W hnh (fun h hh => (hF.asc.vals h hh).2.1) hF.txt (by have h := HBl.out; omega) ((hH.below hW).more hW.size) ((hY.below hW).more hW.size))
      have HP := Lib.hid hp
      have HNb := Lib.hid hnb
      have HLn : Hid ((ps.take k).length = k) := by show _ = _; rw [List.length_take, HR.out.1]; omega
      clear hcl c1 c2 hH hY hal g1 hB hbl hp hF hnb HT
      have hS : (⟨#[45, 45]⟩ ++ bd ++ ⟨#[]⟩ ++ ⟨#[13, 10]⟩ : ByteArray).data.toList = delimT bd.data.toList := by
        rw [app_data, app_data, app_data]
        show dashes ++ bd.data.toList ++ [] ++ crlf = _
        rw [List.append_nil]
        rfl
      have HZ4 : Hid ((bodyT bd.data.toList (ps.take k) ++ sepT k).length + (⟨#[45, 45]⟩ ++ bd ++ ⟨#[]⟩ ++ ⟨#[13, 10]⟩ : ByteArray).size ≤ 140737488000000) := by
        show _ ≤ _
        have h := HBl.out
        have h3 : (sepT k).length ≤ 2 := by unfold sepT; split <;> simp [crlf]
        have h4 : (delimT bd.data.toList).length = 4 + bd.size := by
          simp only [delimT, dashes, crlf, List.length_append, len_data, List.length_cons, List.length_nil]; omega
        rw [← len_data, hS, h4, List.length_append]
        omega
      have HS := Lib.hid hS
      have HZ6 : Hid ((bodyT bd.data.toList (ps.take k) ++ sepT k ++ delimT bd.data.toList).length + (partT p).length ≤ 140737488000000) := by
        show _ ≤ _
        have h := HBl.out
        have h3 : (sepT k).length ≤ 2 := by unfold sepT; split <;> simp [crlf]
        have h4 : (delimT bd.data.toList).length = 4 + bd.size := by
          simp only [delimT, dashes, crlf, List.length_append, len_data, List.length_cons, List.length_nil]; omega
        have h5 : (partT p).length = (headT p.1).length + 2 + p.2.length := by
          simp only [partT, crlf, List.length_append, List.length_cons, List.length_nil]
        rw [h5, List.length_append, List.length_append, h4]
        omega
      have HN : Hid (bodyT bd.data.toList (ps.take k) ++ sepT k ++ delimT bd.data.toList ++ partT p = bodyT bd.data.toList (ps.take (k + 1))) := by
        show _ = _
        rw [take_at HP.out, bodyT_snoc, HLn.out]
        simp only [List.append_assoc]
      clear hS
      by_cases hk0 : k = 0
      · have hk1 : ¬ 0 < k := by omega
        obtain ⟨t0, t1, t2, t3⟩ := HTa.out.cell
        have HTx := Lib.hid (HTa.out.eq (l' := bodyT bd.data.toList (ps.take k) ++ sepT k) (by unfold sepT; rw [if_pos hk0, List.append_nil]))
        clear hk0 HTa
        go_wp2_with fail
        obtain ⟨wx, hwx⟩ : ∃ y, y = wr.alloc (.cells #[.slice Ah nh ch, .slice Ab nb cb] 41) := ⟨_, rfl⟩
        rw [← hwx] at HTx HG ⊢
        have HGx := Lib.hid HG.out
        clear hwx t0 t1 t2 t3 d1 d2 hk1 HG
        refine (pad_any _ _ _ k _).mono ?_
        rintro e w4 ⟨rfl, hb4⟩
        have HT4 := Lib.hid (HTx.out.later hb4)
        have HG4 := Lib.hid ((hb4.block _ (Array.getElem?_eq_some_iff.1 HGx.out).1).trans HGx.out)
        clear HTx HGx hb4
        go_wp2_with (at_builtin; refine wpList_out_string rfl (.tmp 34) (.tmp 41) rfl rfl HT4.out.out (⟨#[45, 45]⟩ ++ bd ++ ⟨#[]⟩ ++ ⟨#[13, 10]⟩) rfl HZ4.out ?_; intro v5 w5 hO5 hK5; rw [HS.out] at hO5; have HT5 := Lib.hid (HT4.out.next hO5 hK5); have HG5 := Lib.hid (hK5.cell HG4.out (by decide)); obtain ⟨p0, p1⟩ := cells_two HG5.out; clear hO5 hK5)
        refine (HPt.out _ HT5.out.out.below).mono ?_
        rintro e w6 ⟨v6, rfl, hO6⟩
        have HT6 := Lib.hid (HT5.out.later hO6.below)
        obtain ⟨A6, c6, hv6⟩ := hO6.slice
        rw [hv6] at hO6 ⊢
        have HR6 := Lib.hid hO6.rd.1
        clear hO6 hv6 HT4 HG4 HG5 HT5 p0 p1
        go_wp2_with (at_builtin; refine wpList_out_bytes rfl (.tmp 43) (.tmp 45) rfl rfl HT6.out.out w6.heap.size A6 (partT p).length c6 (partT p) rfl HR6.out HZ6.out ?_; intro v7 w7 hO7 hK7; have HT7 := Lib.hid ((HT6.out.next hO7 hK7).eq HN.out); clear hO7 hK7)
        go_roundw
        case rel => exact ⟨k + 1, by omega, by go_num, HT7⟩
        case measure => simp [intOf]; omega
      · have hk1 : 0 < k := by omega
        have HZ : Hid ((bodyT bd.data.toList (ps.take k)).length + (⟨#[13, 10]⟩ : ByteArray).size ≤ 140737488000000) := by have h := HBl.out; show _ + 2 ≤ _; omega
        go_wp2_with (at_builtin; refine wpList_out_string rfl (.tmp 32) (.const (.string ⟨#[13, 10]⟩)) rfl rfl HTa.out.out _ rfl HZ.out ?_; intro v3 w3 hO3 hK3; have HTx := Lib.hid ((HTa.out.next hO3 hK3).eq (l' := bodyT bd.data.toList (ps.take k) ++ sepT k) (by unfold sepT; rw [if_neg (by omega)]; rfl)); have HGx := Lib.hid (hK3.cell HG.out (by decide)); obtain ⟨t0, t1, t2, t3⟩ := HTx.out.cell; clear hO3 hK3)
        clear t0 t1 t2 t3 d1 d2 HTa HG
        refine (pad_any _ _ _ k _).mono ?_
        rintro e w4 ⟨rfl, hb4⟩
        have HT4 := Lib.hid (HTx.out.later hb4)
        have HG4 := Lib.hid ((hb4.block _ (Array.getElem?_eq_some_iff.1 HGx.out).1).trans HGx.out)
        clear HTx HGx hb4
        go_wp2_with (at_builtin; refine wpList_out_string rfl (.tmp 34) (.tmp 41) rfl rfl HT4.out.out (⟨#[45, 45]⟩ ++ bd ++ ⟨#[]⟩ ++ ⟨#[13, 10]⟩) rfl HZ4.out ?_; intro v5 w5 hO5 hK5; rw [HS.out] at hO5; have HT5 := Lib.hid (HT4.out.next hO5 hK5); have HG5 := Lib.hid (hK5.cell HG4.out (by decide)); obtain ⟨p0, p1⟩ := cells_two HG5.out; clear hO5 hK5)
        refine (HPt.out _ HT5.out.out.below).mono ?_
        rintro e w6 ⟨v6, rfl, hO6⟩
        have HT6 := Lib.hid (HT5.out.later hO6.below)
        obtain ⟨A6, c6, hv6⟩ := hO6.slice
        rw [hv6] at hO6 ⊢
        have HR6 := Lib.hid hO6.rd.1
        clear hO6 hv6 HT4 HG4 HG5 HT5 p0 p1
        go_wp2_with (at_builtin; refine wpList_out_bytes rfl (.tmp 43) (.tmp 45) rfl rfl HT6.out.out w6.heap.size A6 (partT p).length c6 (partT p) rfl HR6.out HZ6.out ?_; intro v7 w7 hO7 hK7; have HT7 := Lib.hid ((HT6.out.next hO7 hK7).eq HN.out); clear hO7 hK7)
        go_roundw
        case rel => exact ⟨k + 1, by omega, by go_num, HT7⟩
        case measure => simp [intOf]; omega
    · have hke : ps.take k = ps := List.take_of_length_le (by rw [HR.out.1]; omega)
      have hT := HT.out
      rw [hke] at hT
      have HTn := Lib.hid hT
      obtain ⟨t0, t1, t2, t3⟩ := hT.cell
      have hS : (⟨#[13, 10, 45, 45]⟩ ++ bd ++ ⟨#[45, 45]⟩ ++ ⟨#[]⟩ ++ ⟨#[13, 10]⟩ : ByteArray).data.toList = closeT bd.data.toList := by
        rw [app_data, app_data, app_data, app_data]
        show crlf ++ dashes ++ bd.data.toList ++ dashes ++ [] ++ crlf = _
        rw [List.append_nil]
        rfl
      have HZ : Hid ((bodyT bd.data.toList ps).length + (⟨#[13, 10, 45, 45]⟩ ++ bd ++ ⟨#[45, 45]⟩ ++ ⟨#[]⟩ ++ ⟨#[13, 10]⟩ : ByteArray).size ≤ 140737488000000) := by
        show _ ≤ _
        have h := HL.out
        have h4 : (closeT bd.data.toList).length = bd.size + 8 := by
          simp only [closeT, crlf, dashes, List.length_append, len_data, List.length_cons, List.length_nil]; omega
        rw [← len_data, hS, h4]
        omega
      have HZ8 : Hid ((bodyT bd.data.toList ps ++ closeT bd.data.toList).length + 0 ≤ 140737488000000) := by
        show _ ≤ _
        have h := HZ.out
        rw [← len_data, hS] at h
        rw [List.length_append]
        omega
      have HS := Lib.hid hS
      clear hS hT hke HT
      go_wp2_with fail
      refine (pad_any _ _ _ n _).mono ?_
      rintro e w4 ⟨rfl, hb4⟩
      have HT4 := Lib.hid (HTn.out.later hb4)
      clear hb4 t0 t1 t2 t3 HTn
      obtain ⟨t0, t1, t2, t3⟩ := HT4.out.cell
      go_wp2_with (first
        | (at_builtin; refine wpList_out_string rfl (.tmp 48) (.tmp 58) rfl rfl HT4.out.out (⟨#[13, 10, 45, 45]⟩ ++ bd ++ ⟨#[45, 45]⟩ ++ ⟨#[]⟩ ++ ⟨#[13, 10]⟩) rfl HZ.out ?_; intro v5 w5 hO5 hK5; rw [HS.out] at hO5; have HT5 := Lib.hid (HT4.out.next hO5 hK5); obtain ⟨u0, u1, u2, u3⟩ := HT5.out.cell; clear hO5 hK5)
        | (at_builtin; refine wpList_out_bytes rfl (.tmp 60) (.tmp 62) rfl rfl HT5.out.out w5.heap.size none 0 0 [] rfl Rd.none_ HZ8.out ?_; intro v7 w7 hO7 hK7; rw [List.append_nil] at hO7; have HO7 := Lib.hid hO7; clear hO7 hK7))
      go_ret
      exact ⟨_, rfl, HO7.out⟩

end Go.Proofs.YtklkgddldndmmaaDoor
