/- The walk of impl.Pieces. -/
import Derived.Test.YtklkgddldndmmaaDoorPiecesA
import Derived.Deep.CutRange
namespace Go.Proofs.YtklkgddldndmmaaDoor
open Go.RowKit
set_option linter.unusedVariables false
set_option linter.unusedSimpArgs false

/-- What holds behind some pieces. -/
structure PInv (W0 : World) (b p : Nat) (bd : ByteArray) (t : List UInt8) (w : World) : Prop where
  buf : Buf w W0.heap.size W0.heap.size t
  wr : Wr w b (.iface 55 (.pointer (some ⟨W0.heap.size, 0, none⟩))) bd (some ⟨p, 0, none⟩)
  pt : Pt w p b false
  below : Below W0.heap.size W0 w
theorem PInv.next {W0 w w' : World} {b p : Nat} {bd : ByteArray} {t t' : List UInt8} (h : PInv W0 b p bd t w) (h1 : Buf w' W0.heap.size W0.heap.size t') (h2 : Below W0.heap.size w w') (h3 : Kept (fun k => k = W0.heap.size) w w') : PInv W0 b p bd t' w' :=
  ⟨h1, h3.wr h.wr (wr_ne_buf h.wr h.buf), h3.pt h.pt (pt_ne_buf h.pt h.buf), h.below.trans h2⟩

set_option maxRecDepth 1000000 in
set_option maxHeartbeats 8000000 in
theorem pieces_any (bd : ByteArray) (Ah A : Option Addr) (nh ch n c : Nat) (hs : HdrL) (bs : List (List UInt8)) (W0 : World) (hb : boundB bd.data.toList = true) (hH : RdH W0 W0.heap.size Ah nh hs) (hok : HeadOk hs) (hr : RdL W0 W0.heap.size A n bs) (hn : n ≤ 2147483647) (hlim : bs.flatten.length ≤ 1099511627776) :
    Calls Tryd.prog 24 #[.string bd, .slice Ah nh ch, .slice A n c] W0 fun e w' => ∃ g c, e = .returned (.tuple #[.slice (some ⟨g, 0, none⟩) (writeT bd.data.toList [(hs, bs.flatten)]).length c, .bool true]) ∧ RdB w' w'.heap.size (some ⟨g, 0, none⟩) (writeT bd.data.toList [(hs, bs.flatten)]).length (writeT bd.data.toList [(hs, bs.flatten)]) ∧ Below W0.heap.size W0 w' := by
  have hlen : bd.data.toList.length = bd.size := by simp
  have hbd : bd.size ≤ 70 := by
    have h' := hb
    unfold boundB at h'
    rw [hlen] at h'
    simp at h'
    omega
  have HR := Lib.hid hr
  have HHd := Lib.hid hH
  have HOk := Lib.hid hok
  have HL := Lib.hid hlim
  have hnh : nh ≤ 1000 := by have h1 := hH.1; have h2 := hok.len; omega
  clear hr hH hok hlim
  go_enter Tryd.func24, Tryd.ntmps24
  go_wp2_with fail
  refine (writer_any _ _).mono ?_
  rintro e w1 ⟨rfl, rfl⟩
  obtain ⟨b, hbe⟩ : ∃ b, b = W0.heap.size + 1 := ⟨_, rfl⟩
  obtain ⟨w1, hw1⟩ : ∃ x, x = (W0.alloc (.cells #[.slice none 0 0, .int .i64 0, .int .i8 0] 59)).alloc (.cells #[.iface 55 (.pointer (some ⟨W0.heap.size, 0, none⟩)), .string ⟨#[]⟩, .pointer none] 95 (0, 0)) := ⟨_, rfl⟩
  have hbf1 : Buf w1 W0.heap.size W0.heap.size [] := by rw [hw1]; exact (Lib.fresh_isBuffer 59 5 W0).alloc _
  have hwr1 : Wr w1 b (.iface 55 (.pointer (some ⟨W0.heap.size, 0, none⟩))) ⟨#[]⟩ none := by
    unfold Wr
    rw [hw1]
    have hn := heap_alloc_new (W0.alloc (.cells #[.slice none 0 0, .int .i64 0, .int .i8 0] 59)) (.cells #[.iface 55 (.pointer (some ⟨W0.heap.size, 0, none⟩)), .string ⟨#[]⟩, .pointer none] 95 (0, 0))
    rw [show (W0.alloc (.cells #[.slice none 0 0, .int .i64 0, .int .i8 0] 59)).heap.size = b by rw [hbe]; simp] at hn
    exact hn
  have hB1 : Below W0.heap.size W0 w1 := by rw [hw1]; exact ((Below.refl W0.heap.size W0).alloc (Nat.le_refl _) _).alloc (by simp) _
  have hBb : W0.heap.size ≤ b := by omega
  go_wp2_with fail
  rw [← hw1, ← hbe]
  have HBe := Lib.hid hbe
  clear hw1 hbe
  refine (set_ok W0.heap.size W0.heap.size b _ _ bd [] w1 hwr1 hbf1 hBb hb).mono ?_
  rintro e w2 ⟨rfl, hwr2, hbf2, hB2⟩
  have hB2 := hB1.trans hB2
  have HS2 := Lib.hid (show WSt W0.heap.size W0.heap.size b bd 0 [] w2.heap.size w2 from ⟨hbf2, ⟨hBb, hbf2.lt, hwr2.lt⟩, .inl ⟨rfl, hwr2⟩⟩)
  clear hwr1 hbf1 hB1 hwr2 hbf2
  go_wp2_with fail
  refine (head_any Ah nh ch hs w2 hnh ((HHd.out.below hB2).more hB2.size) HOk.out.asc).mono ?_
  rintro e w3 ⟨rfl, gs, HIn⟩
  have hB3 := HIn.below
  have HO := HIn.ok HHd.out.1
  have hsz3 : W0.heap.size ≤ w3.heap.size := Nat.le_trans hB2.size hB3.size
  clear HIn
  go_wp2_with fail
  refine (create_any (HS2.out.below hB3) HO HOk.out.asc hnh (by have := HOk.out.txt; omega) hsz3 (by omega) (by simp)).mono ?_
  rintro e w4 ⟨p, rfl, hN⟩
  have hp4 : W0.heap.size ≤ p := Nat.le_trans hsz3 hN.made.new
  obtain ⟨T0, hT0⟩ : ∃ x, delimT bd.data.toList ++ headT hs ++ crlf = x := ⟨_, rfl⟩
  have hbuf := hN.made.buf
  rw [List.nil_append, show sepT 0 = [] from rfl, List.nil_append, hT0] at hbuf
  have HT0l : Hid (T0.length ≤ 100100) := by
    show _ ≤ _
    have h := HOk.out.txt
    rw [← hT0]
    simp only [delimT, dashes, crlf, List.length_append, len_data, List.length_cons, List.length_nil]
    omega
  have HI4 := Lib.hid (show PInv W0 b p bd (T0 ++ (bs.take 0).flatten) w4 from ⟨by rw [List.take_zero, List.flatten_nil, List.append_nil]; exact hbuf, hN.made.wr, hN.made.pt, hB2.trans ((hB3.mono hB2.size).trans hN.made.below)⟩)
  have HT := Lib.hid hT0
  clear hN hB3 HO HS2 hbuf hT0
  go_wp2_with fail
  go_loopw [32] (fun i wr => ∃ k : Nat, k ≤ n ∧ i = .int .i64 k ∧ Hid (PInv W0 b p bd (T0 ++ (bs.take k).flatten) wr)) (fun i _ => n - (intOf i).toNat)
  case atStart => exact ⟨0, Nat.zero_le _, rfl, HI4⟩
  case round =>
    obtain ⟨k, hk, rfl, HI⟩ := hrel
    by_cases hlt : k < n
    · obtain ⟨bA, oA, rfl, hbA, hcA⟩ := HR.out.2 (by omega)
      obtain ⟨l, hl⟩ : ∃ x, bs[k]? = some x := ⟨_, List.getElem?_eq_getElem (by rw [HR.out.1]; exact hlt)⟩
      obtain ⟨Ab, nb, cb, c1, hBy⟩ := hcA k l hl
      have d1 := (HI.out.below.cell (p := ⟨bA, oA + k, none⟩) hbA).trans c1
      have hnb := hBy.len
      have hsz0 : W0.heap.size ≤ wr.heap.size := HI.out.below.size
      have HY := Lib.hid ((hBy.below HI.out.below).more (B' := wr.heap.size) hsz0)
      have hfl : (bs.take k).flatten.length + nb ≤ 1099511627776 := by
        have h1 := flat_take bs (k + 1)
        rw [flat_at hl, List.length_append, hnb] at h1
        have h2 := HL.out
        omega
      have HN := Lib.hid (flat_at hl)
      have HW := Lib.hid (fun (W : World) (A : Option Addr) (c : Nat) (hA : AppAfter wr W A l) => partWrite_app W0.heap.size W0.heap.size b p bd _ _ l nb wr HI.out.buf HI.out.wr HI.out.pt hnb (by have h := HT0l.out; rw [List.length_append]; omega) hsz0 W A c hA)
      have hnb2 : nb ≤ 140737488355328 := by omega
      have n1' := fun w => nil_ahead93 ⟨p, 0, none⟩ w
      have n2' := fun w => method_write93 ⟨p, 0, none⟩ w
      clear hcA c1 hBy hl hfl hnb
      go_wp2_with fail
      clear d1
      go_cut [11] from 36 to 46 (fun s11 wx => s11 = .nilIface ∧ Buf wx W0.heap.size W0.heap.size (T0 ++ (bs.take k).flatten ++ l) ∧ Below W0.heap.size wr wx ∧ Kept (fun k => k = W0.heap.size) wr wx)
      case first =>
        go_region_law (first
          | (refine step_append_lit wr _ rfl (.tmp 38) (.tmp 39) rfl ?_ (by simp [Act.eval, Act.put]) wr.heap.size Ab nb cb l (by simp [Act.eval, Act.put]) HY.out (Nat.le_refl _) hnb2 ?_; (repeat (first | exact LitAfter.row _ | refine LitAfter.drew ?_)); intro A' c' W' hA')
          | (go_simp; go_at_call 131; go_must (refine (HW.out _ _ _ ?_).mono ?_; (repeat (first | exact hA' | refine AppAfter.drew ?_)); rintro e w' ⟨rfl, hI, hb, hk⟩)))
        all_goals (go_wp2_with fail; (try go_simp); go_meet; exact ⟨rfl, hI, hb, hk⟩)
      obtain ⟨rfl, hI5, hB5, hK5⟩ := hcut
      have HE := Lib.hid (show PInv W0 b p bd (T0 ++ (bs.take (k + 1)).flatten) wc by rw [HN.out, ← List.append_assoc]; exact HI.out.next hI5 hB5 hK5)
      clear hI5 hB5 hK5
      go_wp2_with fail
      go_roundw
      case rel => exact ⟨k + 1, by omega, by go_num, HE⟩
      case measure => simp [intOf]; omega
    · have hke : bs.take k = bs := List.take_of_length_le (by rw [HR.out.1]; omega)
      have hI := HI.out
      rw [hke] at hI
      have HIx := Lib.hid hI
      have hBx := hI.below.size
      have hlim : (T0 ++ bs.flatten).length ≤ 140737488000000 := by have h := HT0l.out; have h2 := HL.out; rw [List.length_append]; omega
      clear hI hke
      go_wp2_with fail
      refine (shut_any W0.heap.size W0.heap.size b p false bd _ wr HIx.out.buf HIx.out.wr HIx.out.pt hBb hp4 hBx (by omega) hlim).mono ?_
      rintro e w8 ⟨rfl, hI8, hB8, _⟩
      have hB8' := HIx.out.below.trans hB8
      have hI9 : Buf w8 W0.heap.size W0.heap.size (writeT bd.data.toList [(hs, bs.flatten)]) := by
        have he : writeT bd.data.toList [(hs, bs.flatten)] = T0 ++ bs.flatten ++ (crlf ++ dashes ++ bd.data.toList ++ dashes ++ crlf) := by
          rw [← HT.out]
          simp only [writeT, bodyT, bodyFrom, sepT, if_pos, partT, closeT, List.nil_append, List.append_nil, List.append_assoc]
        rw [he]
        exact hI8
      obtain ⟨g, c', HBy, hRd⟩ := bytes_any W0.heap.size W0.heap.size _ w8 hI9 (by simp [writeT, closeT, crlf])
      have HBy := Lib.hid HBy
      obtain ⟨LL, hLL⟩ : ∃ x, writeT bd.data.toList [(hs, bs.flatten)] = x := ⟨_, rfl⟩
      rw [hLL] at HBy hRd
      have HLL := Lib.hid hLL
      clear hI8 hI9 hB8 hBx hLL hlim
      go_wp2_with fail
      go_quiet ((go_at_call 38; refine Calls.quiet_of (HBy.out _)))
      go_wp2
      go_ret2
      rw [HLL.out]
      exact ⟨_, _, rfl, hRd, hB8'.trans (below_drewN (Below.refl _ _) _)⟩

end Go.Proofs.YtklkgddldndmmaaDoor
