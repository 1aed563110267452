/- The walk of CreatePart at a header that is nil. -/
import Derived.Test.YtklkgddldndmmaaDoorPart
import Derived.Test.YtklkgddldndmmaaDoorIter
import Derived.Lib.BufferOld
namespace Go.Proofs.YtklkgddldndmmaaDoor
open Go.RowKit
set_option linter.unusedVariables false
set_option linter.unusedSimpArgs false

theorem keys_nil (W : World) : Calls Tryd.prog 57 #[.map none] W fun e w' => e = .returned (.func (.func 76) #[] #[.pointer (some ⟨W.heap.size, 0, none⟩)]) ∧ w' = W.alloc (.cells #[.map none] 96) :=
  callsIn_wide.1 (Tryd.maps_Keys_57 none W)
theorem sorted_nil (w : World) : Calls Tryd.prog 56 #[.func (.func 76) #[] #[.pointer (some ⟨w.heap.size, 0, none⟩)]] (w.alloc (.cells #[.map none] 96)) fun e w' => e = .returned (.slice none 0 0) ∧ Below w.heap.size w w' :=
  (callsIn_wide.1 (Tryd.slices_Sorted_keys_nil_56_57 w)).mono fun e w' ⟨v, ss, he, hs, _, hv, hb⟩ => by
    rw [hv.2 hs] at he
    exact ⟨he, ((Below.refl w.heap.size w).alloc (Nat.le_refl _) _).trans (hb.mono (by simp))⟩

/-- What CreatePart leaves. -/
structure Made (B bb b : Nat) (v0 : Value) (bd : ByteArray) (o : List UInt8) (w : World) (p' : Nat) (w' : World) : Prop where
  buf : Buf w' B bb o
  wr : Wr w' b v0 bd (some ⟨p', 0, none⟩)
  pt : Pt w' p' b false
  new : w.heap.size ≤ p'
  below : Below B w w'

def crlf : List UInt8 := [13, 10]
def dashes : List UInt8 := [45, 45]

theorem ws_any (B b : Nat) (l : List UInt8) (s : ByteArray) (w : World) (h : Buf w B b l) (hBw : B ≤ w.heap.size) (hlim : l.length + s.size ≤ 140737488355328) :
    Calls Tryd.prog 55 #[.pointer (some ⟨b, 0, none⟩), .string s] w fun e w' => e = .returned (.tuple #[.int .i64 s.size, .nilIface]) ∧ Buf w' B b (l ++ s.data.toList) ∧ Below B w w' ∧ Kept (fun k => k = b) w w' :=
  (Tryd.Buffer_WriteString_k B b (Lib.byteCells l) s w h hBw (bc_one l) (by rw [bc_len]; exact hlim)).mono fun e w' ⟨he, h1, h2, h3⟩ => ⟨he, by rw [← Lib.byteCells_append] at h1; exact h1, h2, Kept.of_others h3⟩

theorem app_data (a b : ByteArray) : (a ++ b).data.toList = a.data.toList ++ b.data.toList := by
  rw [ByteArray.data_append, Array.toList_append]
theorem app_size (a b : ByteArray) : (a ++ b).size = a.size + b.size := by
  rw [← ByteArray.size_data, ByteArray.data_append, Array.size_append]; rfl
theorem wr_ne_buf {w : World} {B bb b : Nat} {v0 : Value} {bd : ByteArray} {lp : Option Addr} {o : List UInt8} (hw : Wr w b v0 bd lp) (ho : Buf w B bb o) : b ≠ bb := by
  rintro rfl
  obtain ⟨v, lr, h⟩ := ho.block
  unfold Wr at hw
  rw [hw] at h
  injection h with h
  injection h with _ h
  cases h
theorem Kept.wr {S : Nat → Prop} {w w' : World} {b : Nat} {v0 : Value} {bd : ByteArray} {lp : Option Addr} (hk : Kept S w w') (hw : Wr w b v0 bd lp) (hs : ¬ S b) : Wr w' b v0 bd lp := hk b _ hw hs (fun c fz e => by injection e with _ e; cases e)
theorem Kept.pt {S : Nat → Prop} {w w' : World} {p b : Nat} {cl : Bool} (hk : Kept S w w') (hp : Pt w p b cl) (hs : ¬ S p) : Pt w' p b cl := hk p _ hp hs (fun c fz e => by injection e with _ e; cases e)
theorem Wr.setPart {w : World} {b : Nat} {v0 : Value} {bd : ByteArray} {lp : Option Addr} (h : Wr w b v0 bd lp) (q : Option Addr) : Wr (w.setCell ⟨b, 2, none⟩ (.pointer q)) b v0 bd q := by
  unfold Wr at h ⊢
  show (w.heap.modify b _)[b]? = _
  rw [Array.getElem?_modify, if_pos rfl, h]
  rfl
theorem Buf.wrSet {w : World} {B bb b : Nat} {v0 : Value} {bd : ByteArray} {lp : Option Addr} {o : List UInt8} (ho : Buf w B bb o) (hw : Wr w b v0 bd lp) (i : Nat) (v : Value) : Buf (w.setCell ⟨b, i, none⟩ v) B bb o :=
  ho.lone ((Lone.refl b w).setCell i v) (wr_ne_buf hw ho) hw (by decide)

/-- The end of CreatePart, behind the copy: the part is laid, and the Writer leads to it. -/
theorem made_end {B bb b tb : Nat} {v0 : Value} {bd : ByteArray} {lp : Option Addr} {o l : List UInt8} {w w5 w6 : World} (h5 : Below w.heap.size w w5) (M : Moved B bb tb o l w5 w6) (hw6 : Wr w6 b v0 bd lp) (hBb : B ≤ b) (htb : w.heap.size ≤ tb) (hBw : B ≤ w.heap.size) :
    Made B bb b v0 bd (o ++ l) w w6.heap.size ((w6.setCell ⟨b, 2, none⟩ (.pointer (some ⟨w6.heap.size, 0, none⟩))).alloc (.cells #[.pointer (some ⟨b, 0, none⟩), .bool false, .nilIface] 105 (0, 0))) ∧
    Kept (fun k => k = bb ∨ k = b) w ((w6.setCell ⟨b, 2, none⟩ (.pointer (some ⟨w6.heap.size, 0, none⟩))).alloc (.cells #[.pointer (some ⟨b, 0, none⟩), .bool false, .nilIface] 105 (0, 0))) := by
  have hsz : (w6.setCell ⟨b, 2, none⟩ (.pointer (some ⟨w6.heap.size, 0, none⟩))).heap.size = w6.heap.size := by simp [World.setCell]
  have h56 : w5.heap.size ≤ w6.heap.size := M.below.size
  have hal := (Below.refl (w6.setCell ⟨b, 2, none⟩ (.pointer (some ⟨w6.heap.size, 0, none⟩))).heap.size (w6.setCell ⟨b, 2, none⟩ (.pointer (some ⟨w6.heap.size, 0, none⟩)))).alloc (Nat.le_refl _) (.cells #[.pointer (some ⟨b, 0, none⟩), .bool false, .nilIface] 105 (0, 0))
  have hws := hw6.setPart (some ⟨w6.heap.size, 0, none⟩)
  refine ⟨⟨(M.buf.wrSet hw6 2 _).alloc _, hws.below hal hws.lt, ?_, Nat.le_trans h5.size h56, ?_⟩, ?_⟩
  · unfold Pt
    have hn := heap_alloc_new (w6.setCell ⟨b, 2, none⟩ (.pointer (some ⟨w6.heap.size, 0, none⟩))) (.cells #[.pointer (some ⟨b, 0, none⟩), .bool false, .nilIface] 105 (0, 0))
    rw [hsz] at hn
    exact hn
  · exact (h5.mono hBw).trans ((M.below.setCell hBb _).alloc (by rw [hsz]; have := M.below.size; have := h5.size; omega) _)
  · intro i x hi hs hx
    have hlt : i < w.heap.size := (Array.getElem?_eq_some_iff.1 hi).1
    have h1 : w5.heap[i]? = some x := (h5.block i hlt).trans hi
    have h2 : w6.heap[i]? = some x := M.kept i x h1 (by rintro (e | e); exact hs (.inl e); exact absurd (e ▸ hlt) (Nat.not_lt.2 htb)) hx
    exact (((Kept.refl (fun k => k = b) w6).setCell (p := ⟨b, 2, none⟩) rfl _).trans (Kept.of_below hal)) i x h2 (fun e => hs (.inr e)) hx

set_option maxRecDepth 1000000 in
set_option maxHeartbeats 4000000 in
theorem create_first (B bb b : Nat) (bd : ByteArray) (o : List UInt8) (w : World) (ho : Buf w B bb o) (hw : Wr w b (.iface 55 (.pointer (some ⟨bb, 0, none⟩))) bd none) (hBb : B ≤ b) (hBw : B ≤ w.heap.size) (hbd : bd.size ≤ 1000) (hlim : o.length ≤ 140737488000000) :
    Calls Tryd.prog 31 #[.pointer (some ⟨b, 0, none⟩), .map none] w fun e w' => ∃ p', e = .returned (.tuple #[.iface 93 (.pointer (some ⟨p', 0, none⟩)), .nilIface]) ∧ Made B bb b (.iface 55 (.pointer (some ⟨bb, 0, none⟩))) bd (o ++ (dashes ++ bd.data.toList ++ crlf ++ crlf)) w p' w' ∧ Kept (fun k => k = bb ∨ k = b) w w' := by
  have w2 := hw.c2
  have wa2 : ∀ x, (w.alloc x).cell? ⟨b, 2, none⟩ = some (.pointer none) := fun x => (World.cell?_alloc_lt w x _ hw.lt).trans hw.c2
  have wa1 : ∀ x, (w.alloc x).cell? ⟨b, 1, none⟩ = some (.string bd) := fun x => (World.cell?_alloc_lt w x _ hw.lt).trans hw.c1
  have HT : Hid ((⟨#[45, 45]⟩ ++ bd ++ ⟨#[13, 10]⟩ : ByteArray).data.toList = dashes ++ bd.data.toList ++ crlf) := by show _ = _; rw [app_data, app_data]; rfl
  have HZ : Hid ((⟨#[45, 45]⟩ ++ bd ++ ⟨#[13, 10]⟩ : ByteArray).size = 4 + bd.size) := by show _ = _; rw [app_size, app_size]; show 2 + bd.size + 2 = _; omega
  go_enter Tryd.func31, Tryd.ntmps31
  go_wp2_with fail
  refine (ws_any w.heap.size w.heap.size [] _ _ (Lib.fresh_isBuffer 59 5 w) (by simp) (by rw [HZ.out]; simp; omega)).mono ?_
  rintro e w3 ⟨rfl, hb3, hbel3, hk3⟩
  rw [HT.out, List.nil_append] at hb3
  have B3 : Below w.heap.size w w3 := ((Below.refl _ w).alloc (Nat.le_refl _) _).trans hbel3
  clear hbel3 hk3 wa1 wa2
  go_wp2_with fail
  refine (keys_nil w3).mono ?_
  rintro e w4 ⟨rfl, rfl⟩
  go_wp2_with fail
  refine (sorted_nil w3).mono ?_
  rintro e w4 ⟨rfl, B4⟩
  have hb4 := hb3.old B4
  have B4' := B3.trans (B4.mono B3.size)
  clear hb3 B3 B4
  go_wp2_with fail
  go_loop [51] (fun i => i = .int .i64 0) (fun i => 0)
  case atStart => rfl
  case round =>
  obtain rfl := hrel
  go_wp2_with fail
  refine (ws_any w.heap.size w.heap.size _ ⟨#[13, 10]⟩ w4 hb4 B4'.size (by simp [dashes, crlf]; show _ + 2 ≤ _; omega)).mono ?_
  rintro e w5 ⟨rfl, hb5, hbel5, hk5⟩
  have B5 := B4'.trans hbel5
  clear hbel5 hk5 hb4 B4'
  have hb5' : Buf w5 w.heap.size w.heap.size (dashes ++ bd.data.toList ++ crlf ++ crlf) := hb5
  have w0 := (hw.below B5 hw.lt).c0
  clear hb5
  go_wp2_with fail
  refine (copy_any B bb w.heap.size w.heap.size o _ w5 (ho.old B5) hb5' (by simp [dashes]) (by have := ho.lt; omega) hBw (by simp [dashes, crlf]; omega) (Nat.le_trans hBw B5.size)).mono ?_
  rintro e w6 ⟨rfl, M⟩
  have hw6 : Wr w6 b _ _ _ := M.kept.wr (hw.below B5 hw.lt) (by rintro (h | h); exact wr_ne_buf hw ho h; exact absurd h (Nat.ne_of_lt hw.lt))
  have HE := Lib.hid (made_end B5 M hw6 hBb (Nat.le_refl _) hBw)
  have x2 : ∀ x, (w6.alloc x).cell? ⟨b, 2, none⟩ = some (.pointer none) := fun x => (World.cell?_alloc_lt w6 x _ hw6.lt).trans hw6.c2
  have f2 : ∀ x, (w6.alloc x).frozen? ⟨b, 2, none⟩ = false := fun x => by
    have hal := (Below.refl w6.heap.size w6).alloc (Nat.le_refl _) x
    exact (hw6.below hal hw6.lt).f2
  have hlt6 := hw6.lt
  clear M w0 w2
  go_wp2_with fail
  go_ret2
  exact ⟨_, rfl, HE.out⟩
end Go.Proofs.YtklkgddldndmmaaDoor
