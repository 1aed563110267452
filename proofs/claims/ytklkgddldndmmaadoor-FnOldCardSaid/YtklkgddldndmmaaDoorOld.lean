/- The walk of impl.Old. -/
import Derived.Test.YtklkgddldndmmaaDoorOldA
namespace Go.Proofs.YtklkgddldndmmaaDoor
open Go.RowKit
set_option linter.unusedVariables false
set_option linter.unusedSimpArgs false

/-- What impl.Old writes. -/
def oldT (b l1 l3 : List UInt8) : List UInt8 := ((dashes ++ b ++ crlf ++ crlf) ++ l1 ++ (crlf ++ dashes ++ b ++ crlf ++ crlf)) ++ l3 ++ (crlf ++ dashes ++ b ++ dashes ++ crlf)

set_option maxRecDepth 1000000 in
set_option maxHeartbeats 4000000 in
theorem old_yes (bd : ByteArray) (A1 A2 A3 : Option Addr) (n1 c1 n2 c2 n3 c3 : Nat) (l1 l2 l3 : List UInt8) (W0 : World) (hb : boundB bd.data.toList = true) (h1 : n1 ≤ 16777216) (h2 : n2 ≤ 16777216) (h3 : n3 ≤ 16777216)
    (r1 : RdB W0 W0.heap.size A1 n1 l1) (r2 : RdB W0 W0.heap.size A2 n2 l2) (r3 : RdB W0 W0.heap.size A3 n3 l3) :
    Calls Tryd.prog 19 #[.string bd, .slice A1 n1 c1, .slice A2 n2 c2, .slice A3 n3 c3] W0 fun e w' => ∃ g c, e = .returned (.tuple #[.slice (some ⟨g, 0, none⟩) (oldT bd.data.toList l1 l3).length c, .bool false]) ∧ RdB w' w'.heap.size (some ⟨g, 0, none⟩) (oldT bd.data.toList l1 l3).length (oldT bd.data.toList l1 l3) ∧ Below W0.heap.size W0 w' := by
  have hlen : bd.data.toList.length = bd.size := by simp
  have hbd : bd.size ≤ 70 := by
    have h' := hb
    unfold boundB at h'
    rw [hlen] at h'
    simp at h'
    omega
  go_enter Tryd.func19, Tryd.ntmps19
  go_wp2_with fail
  refine (writer_any _ _).mono ?_
  rintro e w1 ⟨rfl, rfl⟩
  obtain ⟨b, hbe⟩ : ∃ b, b = W0.heap.size + 1 := ⟨_, rfl⟩
  obtain ⟨w1, hw1⟩ : ∃ x, x = (W0.alloc (.cells #[.slice none 0 0, .int .i64 0, .int .i8 0] 59)).alloc (.cells #[.iface 55 (.pointer (some ⟨W0.heap.size, 0, none⟩)), .string ⟨#[]⟩, .pointer none] 95 (0, 0)) := ⟨_, rfl⟩
  have hbf1 : Buf w1 W0.heap.size W0.heap.size [] := by rw [hw1]; exact (Lib.fresh_isBuffer 59 5 W0).alloc _
  have hwr1 : Wr w1 b (.iface 55 (.pointer (some ⟨W0.heap.size, 0, none⟩))) ⟨#[]⟩ none := by
    unfold Wr
    rw [hw1]
    have hn := heap_alloc_new (W0.alloc (.cells #[.slice none 0 0, .int .i64 0, .int .i8 0] 59)) (.cells #[.iface 55 (.pointer (some ⟨W0.heap.size, 0, none⟩)), .string ⟨#[]⟩, .pointer none] 95 (0, 0))
    rw [show (W0.alloc (.cells #[.slice none 0 0, .int .i64 0, .int .i8 0] 59)).heap.size = b by rw [hbe]; simp] at hn
    exact hn
  have hB1 : Below W0.heap.size W0 w1 := by rw [hw1]; exact ((Below.refl W0.heap.size W0).alloc (Nat.le_refl _) _).alloc (by simp) _
  have hBb : W0.heap.size ≤ b := by omega
  go_wp2_with fail
  rw [← hw1, ← hbe]
  have HBe := Lib.hid hbe
  clear hw1 hbe
  refine (set_ok W0.heap.size W0.heap.size b _ _ bd [] w1 hwr1 hbf1 hBb hb).mono ?_
  rintro e w2 ⟨rfl, hwr2, hbf2, hB2⟩
  have hB2 := hB1.trans hB2
  clear hwr1 hbf1 hB1
  go_wp2_with fail
  refine (create_first W0.heap.size W0.heap.size b bd [] w2 hbf2 hwr2 hBb hB2.size (by omega) (by simp)).mono ?_
  rintro e w3 ⟨p, rfl, M3, K3⟩
  have hB3 := hB2.trans M3.below
  have hp3 : W0.heap.size ≤ p := Nat.le_trans hB2.size M3.new
  rw [List.nil_append] at M3
  clear hwr2 hbf2 K3
  have HW := Lib.hid (fun (W : World) (A : Option Addr) (c : Nat) (hA : AppAfter w3 W A l1) => partWrite_app W0.heap.size W0.heap.size b p bd _ _ l1 n1 w3 M3.buf M3.wr M3.pt r1.len (by simp [dashes, crlf]; omega) hB3.size W A c hA)
  have HR := Lib.hid ((r1.below hB3).more (B' := w3.heap.size) hB3.size)
  have n1' := fun w => nil_ahead93 ⟨p, 0, none⟩ w
  have n2' := fun w => method_write93 ⟨p, 0, none⟩ w
  have HM3 := Lib.hid M3
  clear M3 hB2
  go_wp2_with fail
  go_cut [] from 29 to 36 (fun wx => Buf wx W0.heap.size W0.heap.size ((dashes ++ bd.data.toList ++ crlf ++ crlf) ++ l1) ∧ Below W0.heap.size w3 wx ∧ Kept (fun k => k = W0.heap.size) w3 wx)
  case first =>
    go_region_law (first
      | (refine step_append_lit w3 _ rfl (.tmp 30) (.tmp 31) rfl ?_ (by simp [Act.eval, Act.put]) w3.heap.size A1 n1 c1 l1 (by simp [Act.eval, Act.put]) HR.out (Nat.le_refl _) (by omega) ?_; (repeat (first | exact LitAfter.row _ | refine LitAfter.drew ?_)); intro A' c' W' hA')
      | (go_simp; go_at_call 131; go_must (refine (HW.out _ _ _ ?_).mono ?_; (repeat (first | exact hA' | refine AppAfter.drew ?_)); rintro e w' ⟨rfl, hI, hb, hk⟩)))
    all_goals (go_wp2_with fail; (try go_simp); go_meet; exact ⟨hI, hb, hk⟩)
  obtain ⟨hI4, hB4, hK4⟩ := hcut
  have M3 := HM3.out
  have hwr4 := hK4.wr M3.wr (wr_ne_buf M3.wr M3.buf)
  have hpt4 := hK4.pt M3.pt (pt_ne_buf M3.pt M3.buf)
  have hB4' := hB3.trans hB4
  clear HW n1' n2' hK4 HM3 M3 HR
  have hl1 := r1.len
  have hl2 := r2.len
  have hl3 := r3.len
  go_wp2_with fail
  refine (create_next W0.heap.size W0.heap.size b p false bd _ wc hI4 hwr4 hpt4 hBb hp3 hB4'.size (by omega) (by simp [dashes, crlf]; omega)).mono ?_
  rintro e w5 ⟨p2, rfl, M5, hp5, K5⟩
  have hB5 := hB4'.trans M5.below
  have hp2 : W0.heap.size ≤ p2 := Nat.le_trans hB4'.size M5.new
  clear hI4 hwr4 hpt4 K5 hB4 hB4'
  have HR := Lib.hid ((r2.below hB5).more (B' := w5.heap.size) hB5.size)
  have HL := Lib.hid (partLate_app b p n2 l2 w5 hp5)
  have n1' := fun w => nil_ahead93 ⟨p, 0, none⟩ w
  have n2' := fun w => method_write93 ⟨p, 0, none⟩ w
  have HM5 := Lib.hid M5
  have HP5 := Lib.hid hp5
  clear M5 hp5
  go_wp2_with fail
  go_cut [17] from 42 to 52 (fun s17 wx => (∃ q, s17 = .iface 116 (.pointer (some q))) ∧ Below w5.heap.size w5 wx)
  case first =>
    go_region_law (first
      | (refine step_append_lit w5 _ rfl (.tmp 44) (.tmp 45) rfl ?_ (by simp [Act.eval, Act.put]) w5.heap.size A2 n2 c2 l2 (by simp [Act.eval, Act.put]) HR.out (Nat.le_refl _) (by omega) ?_; (repeat (first | exact LitAfter.row _ | refine LitAfter.drew ?_)); intro A' c' W' hA')
      | (go_simp; go_at_call 131; go_must (refine (HL.out _ _ _ ?_).mono ?_; (repeat (first | exact hA' | refine AppAfter.drew ?_)); rintro e w' ⟨⟨q, rfl⟩, hb⟩)))
    all_goals (go_wp2_with fail; (try go_simp); go_meet; exact ⟨⟨q, rfl⟩, hb⟩)
  obtain ⟨⟨q, rfl⟩, hB6⟩ := hcut
  have M5 := HM5.out
  have hbf6 := M5.buf.old hB6
  have hwr6 := M5.wr.below hB6 M5.wr.lt
  have hpt6 : Pt wc p2 b false := (hB6.block p2 M5.pt.lt).trans M5.pt
  have hB6' := hB5.trans (hB6.mono hB5.size)
  clear HL n1' n2' HM5 M5 HR HP5 hB6
  have n1' := fun w => nil_ahead93 ⟨p2, 0, none⟩ w
  have n2' := fun w => method_write93 ⟨p2, 0, none⟩ w
  have HW := Lib.hid (fun (W : World) (A : Option Addr) (c : Nat) (hA : AppAfter wc W A l3) => partWrite_app W0.heap.size W0.heap.size b p2 bd _ _ l3 n3 wc hbf6 hwr6 hpt6 r3.len (by simp [dashes, crlf]; omega) hB6'.size W A c hA)
  have HR := Lib.hid ((r3.below hB6').more (B' := wc.heap.size) hB6'.size)
  have HK := Lib.hid (And.intro hwr6 (And.intro hpt6 hbf6))
  clear hwr6 hpt6 hbf6
  go_wp2_with fail
  go_cut [] from 53 to 60 (fun wx => Buf wx W0.heap.size W0.heap.size (((dashes ++ bd.data.toList ++ crlf ++ crlf) ++ l1 ++ (crlf ++ dashes ++ bd.data.toList ++ crlf ++ crlf)) ++ l3) ∧ Below W0.heap.size wc wx ∧ Kept (fun k => k = W0.heap.size) wc wx)
  case first =>
    go_region_law (first
      | (refine step_append_lit wc _ rfl (.tmp 54) (.tmp 55) rfl ?_ (by simp [Act.eval, Act.put]) wc.heap.size A3 n3 c3 l3 (by simp [Act.eval, Act.put]) HR.out (Nat.le_refl _) (by omega) ?_; (repeat (first | exact LitAfter.row _ | refine LitAfter.drew ?_)); intro A' c' W' hA')
      | (go_simp; go_at_call 131; go_must (refine (HW.out _ _ _ ?_).mono ?_; (repeat (first | exact hA' | refine AppAfter.drew ?_)); rintro e w' ⟨rfl, hI, hb, hk⟩)))
    all_goals (go_wp2_with fail; (try go_simp); go_meet; exact ⟨hI, hb, hk⟩)
  obtain ⟨hI7, hB7, hK7⟩ := hcut
  have hwr7 := hK7.wr HK.out.1 (wr_ne_buf HK.out.1 HK.out.2.2)
  have hpt7 := hK7.pt HK.out.2.1 (pt_ne_buf HK.out.2.1 HK.out.2.2)
  have hB7' := hB6'.trans hB7
  clear HW n1' n2' HR HK hK7 hB7 hB6'
  go_wp2_with fail
  refine (shut_any W0.heap.size W0.heap.size b p2 false bd _ wc hI7 hwr7 hpt7 hBb hp2 hB7'.size (by omega) (by simp [dashes, crlf]; omega)).mono ?_
  rintro e w8 ⟨rfl, hI8, hB8, _⟩
  have hB8' := hB7'.trans hB8
  have hI9 : Buf w8 W0.heap.size W0.heap.size (oldT bd.data.toList l1 l3) := hI8
  obtain ⟨g, c, HBy, hRd⟩ := bytes_any W0.heap.size W0.heap.size _ w8 hI9 (by simp [oldT, dashes])
  have HBy := Lib.hid HBy
  obtain ⟨LL, hLL⟩ : ∃ x, oldT bd.data.toList l1 l3 = x := ⟨_, rfl⟩
  rw [hLL] at HBy hRd
  have HLL := Lib.hid hLL
  clear hI8 hI9 hB8 hB7' hI7 hwr7 hpt7 hLL
  go_wp2_with fail
  go_quiet ((go_at_call 38; refine Calls.quiet_of (HBy.out _)))
  go_wp2
  go_ret2
  rw [HLL.out]
  exact ⟨_, _, rfl, hRd, hB8'.trans (below_drewN (Below.refl _ _) _)⟩

end Go.Proofs.YtklkgddldndmmaaDoor
