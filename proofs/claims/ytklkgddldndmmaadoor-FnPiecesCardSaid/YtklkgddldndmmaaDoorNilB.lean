/- The walk of CreatePart at a header that is nil, behind a part. -/
import Derived.Test.YtklkgddldndmmaaDoorNilA
namespace Go.Proofs.YtklkgddldndmmaaDoor
open Go.RowKit
set_option linter.unusedVariables false
set_option linter.unusedSimpArgs false

theorem pt_ne_buf {w : World} {B bb p b : Nat} {cl : Bool} {o : List UInt8} (hp : Pt w p b cl) (ho : Buf w B bb o) : p ≠ bb := by
  rintro rfl
  obtain ⟨v, lr, h⟩ := ho.block
  unfold Pt at hp
  rw [hp] at h
  injection h with h
  injection h with _ h
  cases h
theorem pt_ne_wr {w : World} {p b b' : Nat} {cl : Bool} {v0 : Value} {bd : ByteArray} {lp : Option Addr} (hp : Pt w p b cl) (hw : Wr w b' v0 bd lp) : p ≠ b' := by
  rintro rfl
  unfold Pt at hp
  unfold Wr at hw
  rw [hp] at hw
  injection hw with h
  injection h with _ h
  cases h
/-- A part is shut. -/
theorem Buf.ptSet {w : World} {B bb p b : Nat} {cl : Bool} {o : List UInt8} (ho : Buf w B bb o) (hp : Pt w p b cl) (i : Nat) (v : Value) : Buf (w.setCell ⟨p, i, none⟩ v) B bb o :=
  ho.lone ((Lone.refl p w).setCell i v) (pt_ne_buf hp ho) hp (by decide)
theorem Wr.ptSet {w : World} {p b b' : Nat} {cl : Bool} {v0 : Value} {bd : ByteArray} {lp : Option Addr} (hw : Wr w b' v0 bd lp) (hp : Pt w p b cl) (i : Nat) (v : Value) : Wr (w.setCell ⟨p, i, none⟩ v) b' v0 bd lp :=
  (((Lone.refl p w).setCell i v).others b' (Ne.symm (pt_ne_wr hp hw))).trans hw

set_option maxRecDepth 1000000 in
set_option maxHeartbeats 4000000 in
theorem create_next (B bb b p : Nat) (cl : Bool) (bd : ByteArray) (o : List UInt8) (w : World) (ho : Buf w B bb o) (hw : Wr w b (.iface 55 (.pointer (some ⟨bb, 0, none⟩))) bd (some ⟨p, 0, none⟩)) (hp : Pt w p b cl) (hBb : B ≤ b) (hBp : B ≤ p) (hBw : B ≤ w.heap.size) (hbd : bd.size ≤ 1000) (hlim : o.length ≤ 140737488000000) :
    Calls Tryd.prog 31 #[.pointer (some ⟨b, 0, none⟩), .map none] w fun e w' => ∃ p', e = .returned (.tuple #[.iface 93 (.pointer (some ⟨p', 0, none⟩)), .nilIface]) ∧ Made B bb b (.iface 55 (.pointer (some ⟨bb, 0, none⟩))) bd (o ++ (crlf ++ dashes ++ bd.data.toList ++ crlf ++ crlf)) w p' w' ∧ Pt w' p b true ∧ Kept (fun k => k = bb ∨ k = b ∨ k = p) w w' := by
  have w2 := hw.c2
  have HCl := Lib.hid (close_any p b cl w hp)
  obtain ⟨w1, hw1⟩ : ∃ x, x = w.setCell ⟨p, 1, none⟩ (.bool true) := ⟨_, rfl⟩
  rw [← hw1] at HCl
  have ho1 : Buf w1 B bb o := by rw [hw1]; exact ho.ptSet hp 1 _
  have hwr1 : Wr w1 b (.iface 55 (.pointer (some ⟨bb, 0, none⟩))) bd (some ⟨p, 0, none⟩) := by rw [hw1]; exact hw.ptSet hp 1 _
  have hp1 : Pt w1 p b true := by rw [hw1]; exact hp.set true
  have hsz1 : w1.heap.size = w.heap.size := by rw [hw1]; simp [World.setCell]
  have hb1 : Below B w w1 := by rw [hw1]; exact (Below.refl B w).setCell hBp _
  have hk1 : Kept (fun k => k = p) w w1 := by rw [hw1]; exact (Kept.refl (fun k => k = p) w).setCell (p := ⟨p, 1, none⟩) rfl _
  have hBw1 : B ≤ w1.heap.size := by omega
  have wa2 : ∀ x, (w1.alloc x).cell? ⟨b, 2, none⟩ = some (.pointer (some ⟨p, 0, none⟩)) := fun x => (World.cell?_alloc_lt w1 x _ hwr1.lt).trans hwr1.c2
  have wa1 : ∀ x, (w1.alloc x).cell? ⟨b, 1, none⟩ = some (.string bd) := fun x => (World.cell?_alloc_lt w1 x _ hwr1.lt).trans hwr1.c1
  have HT : Hid ((⟨#[13, 10, 45, 45]⟩ ++ bd ++ ⟨#[13, 10]⟩ : ByteArray).data.toList = crlf ++ dashes ++ bd.data.toList ++ crlf) := by show _ = _; rw [app_data, app_data]; rfl
  have HZ : Hid ((⟨#[13, 10, 45, 45]⟩ ++ bd ++ ⟨#[13, 10]⟩ : ByteArray).size = 6 + bd.size) := by show _ = _; rw [app_size, app_size]; show 4 + bd.size + 2 = _; omega
  have HW := Lib.hid hsz1
  clear hw1 ho hw hp hsz1
  go_enter Tryd.func31, Tryd.ntmps31
  go_wp2_with fail
  refine HCl.out.mono ?_
  rintro e w1' ⟨rfl, rfl⟩
  go_wp2_with fail
  refine (ws_any w1'.heap.size w1'.heap.size [] _ _ (Lib.fresh_isBuffer 59 5 w1') (by simp) (by rw [HZ.out]; simp; omega)).mono ?_
  rintro e w3 ⟨rfl, hb3, hbel3, hk3⟩
  rw [HT.out, List.nil_append] at hb3
  have B3 : Below w1'.heap.size w1' w3 := ((Below.refl _ w1').alloc (Nat.le_refl _) _).trans hbel3
  clear hbel3 hk3 wa1 wa2
  go_wp2_with fail
  refine (keys_nil w3).mono ?_
  rintro e w4 ⟨rfl, rfl⟩
  go_wp2_with fail
  refine (sorted_nil w3).mono ?_
  rintro e w4 ⟨rfl, B4⟩
  have hb4 := hb3.old B4
  have B4' := B3.trans (B4.mono B3.size)
  clear hb3 B3 B4
  go_wp2_with fail
  go_loop [51] (fun i => i = .int .i64 0) (fun i => 0)
  case atStart => rfl
  case round =>
  obtain rfl := hrel
  go_wp2_with fail
  refine (ws_any w1'.heap.size w1'.heap.size _ ⟨#[13, 10]⟩ w4 hb4 B4'.size (by simp [dashes, crlf]; show _ + 2 ≤ _; omega)).mono ?_
  rintro e w5 ⟨rfl, hb5, hbel5, hk5⟩
  have B5 := B4'.trans hbel5
  clear hbel5 hk5 hb4 B4'
  have hb5' : Buf w5 w1'.heap.size w1'.heap.size (crlf ++ dashes ++ bd.data.toList ++ crlf ++ crlf) := hb5
  have w0 := (hwr1.below B5 hwr1.lt).c0
  clear hb5
  go_wp2_with fail
  refine (copy_any B bb w1'.heap.size w1'.heap.size o _ w5 (ho1.old B5) hb5' (by simp [dashes]) (by have := ho1.lt; omega) hBw1 (by simp [dashes, crlf]; omega) (Nat.le_trans hBw1 B5.size)).mono ?_
  rintro e w6 ⟨rfl, M⟩
  have hw6 : Wr w6 b _ _ _ := M.kept.wr (hwr1.below B5 hwr1.lt) (by rintro (h | h); exact wr_ne_buf hwr1 ho1 h; exact absurd h (Nat.ne_of_lt hwr1.lt))
  have hM := made_end B5 M hw6 hBb (Nat.le_refl _) hBw1
  have hpe := hM.2.pt hp1 (by rintro (h | h); exact pt_ne_buf hp1 ho1 h; exact pt_ne_wr hp1 hwr1 h)
  have HE := Lib.hid (And.intro hM hpe)
  have x2 : ∀ x, (w6.alloc x).cell? ⟨b, 2, none⟩ = some (.pointer (some ⟨p, 0, none⟩)) := fun x => (World.cell?_alloc_lt w6 x _ hw6.lt).trans hw6.c2
  have f2 : ∀ x, (w6.alloc x).frozen? ⟨b, 2, none⟩ = false := fun x => by
    have hal := (Below.refl w6.heap.size w6).alloc (Nat.le_refl _) x
    exact (hw6.below hal hw6.lt).f2
  have hlt6 := hw6.lt
  clear M w0 w2 hM hpe
  go_wp2_with fail
  go_ret2
  obtain ⟨⟨m, k⟩, hpe⟩ := HE.out
  exact ⟨_, rfl, ⟨m.buf, m.wr, m.pt, by rw [← HW.out]; exact m.new, hb1.trans m.below⟩, hpe, (hk1.mono fun i h => .inr (.inr h)).trans (k.mono fun i h => h.elim .inl fun h => .inr (.inl h))⟩
end Go.Proofs.YtklkgddldndmmaaDoor
