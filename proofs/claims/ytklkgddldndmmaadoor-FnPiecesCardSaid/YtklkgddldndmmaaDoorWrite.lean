/- The walk of impl.Write. -/
import Derived.Test.YtklkgddldndmmaaDoorWriteA
import Derived.Deep.CutRange
namespace Go.Proofs.YtklkgddldndmmaaDoor
open Go.RowKit
set_option linter.unusedVariables false
set_option linter.unusedSimpArgs false

/-- What holds behind k parts. -/
structure LInv (W0 : World) (b : Nat) (bd : ByteArray) (ps : List PartL) (k : Nat) (w : World) : Prop where
  st : WSt W0.heap.size W0.heap.size b bd k (bodyT bd.data.toList (ps.take k)) w.heap.size w
  below : Below W0.heap.size W0 w

set_option maxRecDepth 1000000 in
set_option maxHeartbeats 8000000 in
theorem write_cap (bd : ByteArray) (A : Option Addr) (n c : Nat) (ps : List PartL) (W0 : World) (hb : boundB bd.data.toList = true) (hr : RdP W0 W0.heap.size A n ps) (h0 : 0 < n) (hn : n ≤ 2147483647) (hf : ∀ p ∈ ps, Fit p) (hlim : (bodyT bd.data.toList ps).length ≤ 140737488000000) :
    Calls Tryd.prog 16 #[.string bd, .slice A n c] W0 fun e w' => ∃ g c, e = .returned (.tuple #[.slice (some ⟨g, 0, none⟩) (writeT bd.data.toList ps).length c, .bool true]) ∧ RdB w' w'.heap.size (some ⟨g, 0, none⟩) (writeT bd.data.toList ps).length (writeT bd.data.toList ps) ∧ (writeT bd.data.toList ps).length ≤ c ∧ Below W0.heap.size W0 w' := by
  have hlen : bd.data.toList.length = bd.size := by simp
  have hbd : bd.size ≤ 70 := by
    have h' := hb
    unfold boundB at h'
    rw [hlen] at h'
    simp at h'
    omega
  have HR := Lib.hid hr
  have HF := Lib.hid hf
  have HL := Lib.hid hlim
  clear hr hf hlim
  go_enter Tryd.func16, Tryd.ntmps16
  go_wp2_with fail
  refine (writer_any _ _).mono ?_
  rintro e w1 ⟨rfl, rfl⟩
  obtain ⟨b, hbe⟩ : ∃ b, b = W0.heap.size + 1 := ⟨_, rfl⟩
  obtain ⟨w1, hw1⟩ : ∃ x, x = (W0.alloc (.cells #[.slice none 0 0, .int .i64 0, .int .i8 0] 59)).alloc (.cells #[.iface 55 (.pointer (some ⟨W0.heap.size, 0, none⟩)), .string ⟨#[]⟩, .pointer none] 95 (0, 0)) := ⟨_, rfl⟩
  have hbf1 : Buf w1 W0.heap.size W0.heap.size [] := by rw [hw1]; exact (Lib.fresh_isBuffer 59 5 W0).alloc _
  have hwr1 : Wr w1 b (.iface 55 (.pointer (some ⟨W0.heap.size, 0, none⟩))) ⟨#[]⟩ none := by
    unfold Wr
    rw [hw1]
    have hn := heap_alloc_new (W0.alloc (.cells #[.slice none 0 0, .int .i64 0, .int .i8 0] 59)) (.cells #[.iface 55 (.pointer (some ⟨W0.heap.size, 0, none⟩)), .string ⟨#[]⟩, .pointer none] 95 (0, 0))
    rw [show (W0.alloc (.cells #[.slice none 0 0, .int .i64 0, .int .i8 0] 59)).heap.size = b by rw [hbe]; simp] at hn
    exact hn
  have hB1 : Below W0.heap.size W0 w1 := by rw [hw1]; exact ((Below.refl W0.heap.size W0).alloc (Nat.le_refl _) _).alloc (by simp) _
  have hBb : W0.heap.size ≤ b := by omega
  go_wp2_with fail
  rw [← hw1, ← hbe]
  have HBe := Lib.hid hbe
  clear hw1 hbe
  refine (set_ok W0.heap.size W0.heap.size b _ _ bd [] w1 hwr1 hbf1 hBb hb).mono ?_
  rintro e w2 ⟨rfl, hwr2, hbf2, hB2⟩
  have HI0 := Lib.hid (show LInv W0 b bd ps 0 w2 from ⟨⟨hbf2, ⟨hBb, hbf2.lt, hwr2.lt⟩, .inl ⟨rfl, hwr2⟩⟩, hB1.trans hB2⟩)
  clear hwr1 hbf1 hB1 hwr2 hbf2 hB2
  go_wp2_with fail
  go_loopw [21] (fun i wr => ∃ k : Nat, k ≤ n ∧ i = .int .i64 k ∧ Hid (LInv W0 b bd ps k wr)) (fun i _ => n - (intOf i).toNat)
  case atStart => exact ⟨0, Nat.zero_le _, rfl, HI0⟩
  case round =>
    obtain ⟨k, hk, rfl, HI⟩ := hrel
    by_cases hlt : k < n
    · obtain ⟨bA, oA, rfl, hbA, hcA⟩ := HR.out.2 (by omega)
      have hkl : k < ps.length := by have := HR.out.1; omega
      obtain ⟨p, hp⟩ : ∃ x, ps[k]? = some x := ⟨_, List.getElem?_eq_getElem hkl⟩
      obtain ⟨Ah, nh, ch, Ab, nb, cb, c1, c2, hH, hBy⟩ := hcA k p hp
      have d1 := (HI.out.below.cell (p := ⟨bA, oA + k * 2, none⟩) hbA).trans c1
      have d2 := (HI.out.below.cell (p := ⟨bA, oA + k * 2 + 1, none⟩) hbA).trans c2
      clear hcA c1 c2
      have hF := HF.out p (List.mem_of_getElem? hp)
      have hnh : nh ≤ 1000 := by have h1 := hH.1; have h2 := hF.len; omega
      have hbl := body_len bd.data.toList hp
      have hnb := hBy.len
      have hlim := HL.out
      have hal := (Below.refl wr.heap.size wr).alloc (Nat.le_refl _) (.cells #[.slice Ah nh ch, .slice Ab nb cb] 41)
      have hsz0 : W0.heap.size ≤ wr.heap.size := HI.out.below.size
      have k1 : (wr.alloc (.cells #[.slice Ah nh ch, .slice Ab nb cb] 41)).heap[wr.heap.size]? = some (.cells #[.slice Ah nh ch, .slice Ab nb cb] 41 (0, 0)) := heap_alloc_new wr _
      obtain ⟨wa, hwa⟩ : ∃ y, y = wr.alloc (.cells #[.slice Ah nh ch, .slice Ab nb cb] 41) := ⟨_, rfl⟩
      have hBa : Below W0.heap.size W0 wa := by rw [hwa]; exact HI.out.below.trans (hal.mono hsz0)
      have HSa := Lib.hid (show WSt W0.heap.size W0.heap.size b bd k (bodyT bd.data.toList (ps.take k)) wr.heap.size wa by rw [hwa]; exact HI.out.st.below hal)
      have HHa := Lib.hid ((hH.below hBa).more hBa.size)
      have HYa := Lib.hid (hBy.below hBa)
      have hsa : wa.heap.size = wr.heap.size + 1 := by rw [hwa]; simp
      rw [← hwa] at k1
      have Hsa := Lib.hid hsa
      clear hal hH hBy hsa
      go_wp2_with fail
      rw [← hwa]
      clear hwa
      have cell0 : wa.cell? ⟨wr.heap.size, 0, none⟩ = some (.slice Ah nh ch) := by rw [Lib.cell_of_heap k1]; rfl
      go_wp2_with fail
      refine (head_any Ah nh ch p.1 wa hnh HHa.out hF.asc).mono ?_
      rintro e w3 ⟨rfl, gs, HIn⟩
      have hB3 := HIn.below
      have HO := HIn.ok HHa.out.1
      have hsz3 : W0.heap.size ≤ w3.heap.size := Nat.le_trans hBa.size hB3.size
      clear HIn cell0
      go_wp2_with fail
      refine (create_any (HSa.out.below hB3) HO hF.asc hnh hF.txt (Nat.le_trans hBa.size hB3.size) (by omega) (by omega)).mono ?_
      rintro e w4 ⟨p', rfl, hN⟩
      have hb4 : Below W0.heap.size W0 w4 := hBa.trans ((hB3.mono hBa.size).trans hN.made.below)
      have hk4 : w4.heap[wr.heap.size]? = some (.cells #[.slice Ah nh ch, .slice Ab nb cb] 41 (0, 0)) :=
        hN.kept wr.heap.size _ ((hB3.block wr.heap.size (by rw [Hsa.out]; omega)).trans k1) (Nat.lt_irrefl _) (fun c fz e => by cases e)
      have cell1 : w4.cell? ⟨wr.heap.size, 1, none⟩ = some (.slice Ab nb cb) := by rw [Lib.cell_of_heap hk4]; rfl
      have hlt4 : wr.heap.size < w4.heap.size := (Array.getElem?_eq_some_iff.1 hk4).1
      have n1' := fun w => nil_ahead93 ⟨p', 0, none⟩ w
      have n2' := fun w => method_write93 ⟨p', 0, none⟩ w
      have HN := Lib.hid hN
      have HR4 := Lib.hid ((HYa.out.below (hB3.mono hBa.size)).below hN.made.below |>.more (B' := w4.heap.size) hb4.size)
      have HW := Lib.hid (fun (W : World) (A : Option Addr) (c : Nat) (hA : AppAfter w4 W A p.2) => partWrite_app W0.heap.size W0.heap.size b p' bd _ _ p.2 nb w4 hN.made.buf hN.made.wr hN.made.pt hnb (by rw [List.length_append]; simp only [List.length_append, sepT, delimT, dashes, crlf]; split <;> simp <;> omega) hb4.size W A c hA)
      clear hN hk4 k1 HO hB3 hF
      go_wp2_with fail
      go_cut [11] from 36 to 47 (fun s11 wx => s11 = .nilIface ∧ Buf wx W0.heap.size W0.heap.size (bodyT bd.data.toList (ps.take k) ++ (sepT k ++ delimT bd.data.toList ++ headT p.1 ++ crlf) ++ p.2) ∧ Below W0.heap.size w4 wx ∧ Kept (fun k => k = W0.heap.size) w4 wx)
      case first =>
        go_region_law (first
          | (refine step_append_lit w4 _ rfl (.tmp 38) (.tmp 40) rfl ?_ (by simp [Act.eval, Act.put]) w4.heap.size Ab nb cb p.2 (by simp [Act.eval, Act.put]) HR4.out (Nat.le_refl _) (by omega) ?_; (repeat (first | exact LitAfter.row _ | refine LitAfter.drew ?_)); intro A' c' W' hA')
          | (go_simp; go_at_call 131; go_must (refine (HW.out _ _ _ ?_).mono ?_; (repeat (first | exact hA' | refine AppAfter.drew ?_)); rintro e w' ⟨rfl, hI, hb, hk⟩)))
        all_goals (go_wp2_with fail; (try go_simp); go_meet; exact ⟨rfl, hI, hb, hk⟩)
      obtain ⟨rfl, hI5, hB5, hK5⟩ := hcut
      have HE := Lib.hid (show LInv W0 b bd ps (k + 1) wc from ⟨by
        have h := HN.out.st k hsz3 hBb hI5 hK5 (M' := wc.heap.size) hB5.size
        rw [take_at hp, bodyT_snoc]
        have hlk : (ps.take k).length = k := by rw [List.length_take]; omega
        rw [hlk]
        simpa only [partT, List.append_assoc] using h, hb4.trans hB5⟩)
      clear hI5 hB5 hK5
      go_wp2_with fail
      go_roundw
      case rel => exact ⟨k + 1, by omega, by go_num, HE⟩
      case measure => simp [intOf]; omega
    · have hke : k = n := by omega
      have hI := HI.out
      rw [hke] at hI
      have hBx := hI.below
      have hlim := HL.out
      have hst := hI.st
      rw [List.take_of_length_le (by rw [HR.out.1]; exact Nat.le_refl _)] at hst
      obtain ⟨hbx, _, hwx⟩ := hst
      rcases hwx with ⟨h1, _⟩ | ⟨_, p, hwx, hpx, hBp, _⟩
      · exact absurd h1 (by omega)
      clear hI hke
      go_wp2_with fail
      refine (shut_any W0.heap.size W0.heap.size b p false bd _ wr hbx hwx hpx hBb hBp hBx.size (by omega) hlim).mono ?_
      rintro e w8 ⟨rfl, hI8, hB8, _⟩
      have hB8' := hBx.trans hB8
      have hI9 : Buf w8 W0.heap.size W0.heap.size (writeT bd.data.toList ps) := hI8
      obtain ⟨g, c', HBy, hRd, hcap⟩ := bytes_cap W0.heap.size W0.heap.size _ w8 hI9 (by simp [writeT, closeT, crlf])
      have HBy := Lib.hid HBy
      obtain ⟨LL, hLL⟩ : ∃ x, writeT bd.data.toList ps = x := ⟨_, rfl⟩
      rw [hLL] at HBy hRd hcap
      have HCap := Lib.hid hcap
      clear hcap
      have HLL := Lib.hid hLL
      clear hI8 hI9 hB8 hBx hbx hwx hpx hLL
      go_wp2_with fail
      go_quiet ((go_at_call 38; refine Calls.quiet_of (HBy.out _)))
      go_wp2
      go_ret2
      rw [HLL.out]
      exact ⟨_, _, rfl, hRd, HCap.out, hB8'.trans (below_drewN (Below.refl _ _) _)⟩

theorem write_any (bd : ByteArray) (A : Option Addr) (n c : Nat) (ps : List PartL) (W0 : World) (hb : boundB bd.data.toList = true) (hr : RdP W0 W0.heap.size A n ps) (h0 : 0 < n) (hn : n ≤ 2147483647) (hf : ∀ p ∈ ps, Fit p) (hlim : (bodyT bd.data.toList ps).length ≤ 140737488000000) :
    Calls Tryd.prog 16 #[.string bd, .slice A n c] W0 fun e w' => ∃ g c, e = .returned (.tuple #[.slice (some ⟨g, 0, none⟩) (writeT bd.data.toList ps).length c, .bool true]) ∧ RdB w' w'.heap.size (some ⟨g, 0, none⟩) (writeT bd.data.toList ps).length (writeT bd.data.toList ps) ∧ Below W0.heap.size W0 w' :=
  (write_cap bd A n c ps W0 hb hr h0 hn hf hlim).mono fun e w' ⟨g, c', he, h1, _, h2⟩ => ⟨g, c', he, h1, h2⟩

end Go.Proofs.YtklkgddldndmmaaDoor
