/- Texts of the proof, joined: Iter, NilA, NilB, Conv, Shut. -/
import Derived.Shelf.SlIter.Nil
import Derived.Shelf.SortM.Plain
import Derived.Shelf.SortM.SortNone
import Derived.Ground.GgzProg
import Derived.Ground.SlgmProg
import Derived.Test.YtklkgddldndmmaaDoorProg
import Derived.Test.YtklkgddldndmmaaDoorM02
import Derived.Lib.BufferOld
import Derived.Test.YtklkgddldndmmaaDoorM01
import Derived.Deep.DeepMust
/- The contracts of the library on maps.Keys and slices.Sorted that the texts here use, at this program: each is one application of a proved one (printed by the programs of the shelf). -/
namespace Go.Proofs
open Go.Shelf
def Tryd.keys57_ren : Go.Shelf.Ren := ⟨fun | 7 => 57 | 10 => 76 | n => n, fun | 23 => 96 | 26 => 9 | 3 => 23 | 28 => 100 | 0 => 0 | 27 => 99 | 33 => 26 | 4 => 4 | n => n, fun | n => n⟩
theorem Tryd.keys57 : Go.Proofs.SlLaysZ.n7 Tryd.prog Tryd.keys57_ren := {
  mixed := by kernel_rfl
  f7 := ⟨Tryd.f57.name, by decide, Tryd.func57.trans (congrArg some (by kernel_rfl))⟩
  f10 := ⟨Tryd.f76.name, by decide, Tryd.func76.trans (congrArg some (by kernel_rfl))⟩
  t0 := Tryd.underlying0
  a0 := Tryd.isAgg0
  z0 := Tryd.sizeOf0
  v0 := Tryd.zeroValue0
  t4 := Tryd.underlying4
  a4 := Tryd.isAgg4
  z4 := Tryd.sizeOf4
  v4 := Tryd.zeroValue4
  t23 := Tryd.underlying96
  a23 := Tryd.isAgg96
  z23 := Tryd.sizeOf96
  v23 := Tryd.zeroValue96
  t26 := Tryd.underlying9
  a26 := Tryd.isAgg9
  z26 := Tryd.sizeOf9
  v26 := Tryd.zeroValue9
  t27 := Tryd.underlying99
  a27 := Tryd.isAgg99
  z27 := Tryd.sizeOf99
  v27 := Tryd.zeroValue99
  t28 := Tryd.underlying100
  a28 := Tryd.isAgg100
  z28 := Tryd.sizeOf100
  v28 := Tryd.zeroValue100
  t33 := Tryd.underlying26
  a33 := Tryd.isAgg26
  z33 := Tryd.sizeOf26
  v33 := Tryd.zeroValue26 }
def Tryd.sorted56_ren : Go.Shelf.Ren := ⟨fun | 6 => 56 | 8 => 74 | 9 => 75 | 11 => 85 | 13 => 87 | 12 => 86 | 23 => 99 | 24 => 100 | 14 => 90 | 15 => 91 | 16 => 92 | 17 => 93 | 18 => 94 | 19 => 95 | 20 => 96 | 21 => 97 | 22 => 98 | 25 => 102 | 26 => 103 | 27 => 104 | 28 => 105 | 29 => 106 | 30 => 107 | 31 => 108 | n => n, fun | 26 => 9 | 28 => 100 | 24 => 23 | 0 => 0 | 3 => 3 | 37 => 132 | 48 => 153 | 50 => 155 | 4 => 4 | 40 => 147 | 39 => 146 | 45 => 119 | 5 => 5 | 9 => 9 | 51 => 157 | 55 => 161 | 57 => 163 | 58 => 164 | 33 => 26 | n => n, fun | n => n⟩
theorem Tryd.sorted56 : Go.Proofs.SlLaysZ.n6 Tryd.prog Tryd.sorted56_ren := {
  mixed := by kernel_rfl
  f6 := ⟨Tryd.f56.name, by decide, Tryd.func56.trans (congrArg some (by kernel_rfl))⟩
  f8 := ⟨Tryd.f74.name, by decide, Tryd.func74.trans (congrArg some (by kernel_rfl))⟩
  f11 := ⟨Tryd.f85.name, by decide, Tryd.func85.trans (congrArg some (by kernel_rfl))⟩
  t0 := Tryd.underlying0
  a0 := Tryd.isAgg0
  z0 := Tryd.sizeOf0
  v0 := Tryd.zeroValue0
  t24 := Tryd.underlying23
  a24 := Tryd.isAgg23
  z24 := Tryd.sizeOf23
  v24 := Tryd.zeroValue23
  t26 := Tryd.underlying9
  a26 := Tryd.isAgg9
  z26 := Tryd.sizeOf9
  v26 := Tryd.zeroValue9
  t28 := Tryd.underlying100
  a28 := Tryd.isAgg100
  z28 := Tryd.sizeOf100
  v28 := Tryd.zeroValue100
  i26 := by kernel_rfl }
def Tryd.sort75_ren : Go.Shelf.Ren := ⟨fun | 6 => 75 | 8 => 87 | 9 => 86 | 19 => 99 | 20 => 100 | 21 => 90 | 22 => 91 | 23 => 92 | 24 => 93 | 25 => 94 | 26 => 95 | 27 => 96 | 28 => 97 | 29 => 98 | 36 => 102 | 31 => 103 | 32 => 104 | 37 => 105 | 38 => 106 | 39 => 107 | 41 => 108 | n => n, fun | 27 => 23 | 29 => 9 | 3 => 3 | 32 => 132 | 26 => 23 | 0 => 0 | 44 => 153 | 46 => 155 | 4 => 4 | 36 => 147 | 35 => 146 | 41 => 119 | 5 => 5 | 9 => 9 | 53 => 157 | 57 => 161 | 63 => 163 | 64 => 164 | n => n, fun | n => n⟩
theorem Tryd.sort75 : Go.Proofs.SlLaysM.n6 Tryd.prog Tryd.sort75_ren := {
  mixed := by kernel_rfl
  f6 := ⟨Tryd.f75.name, by decide, Tryd.func75.trans (congrArg some (by kernel_rfl))⟩
  f8 := Tryd.func87.trans (congrArg some (by kernel_rfl))
  f9 := ⟨Tryd.f86.name, by decide, Tryd.func86.trans (congrArg some (by kernel_rfl))⟩
  f19 := Tryd.func99.trans (congrArg some (by kernel_rfl))
  f20 := Tryd.func100.trans (congrArg some (by kernel_rfl))
  f21 := ⟨Tryd.f90.name, by decide, Tryd.func90.trans (congrArg some (by kernel_rfl))⟩
  f22 := ⟨Tryd.f91.name, by decide, Tryd.func91.trans (congrArg some (by kernel_rfl))⟩
  f23 := ⟨Tryd.f92.name, by decide, Tryd.func92.trans (congrArg some (by kernel_rfl))⟩
  f24 := ⟨Tryd.f93.name, by decide, Tryd.func93.trans (congrArg some (by kernel_rfl))⟩
  f25 := ⟨Tryd.f94.name, by decide, Tryd.func94.trans (congrArg some (by kernel_rfl))⟩
  f26 := ⟨Tryd.f95.name, by decide, Tryd.func95.trans (congrArg some (by kernel_rfl))⟩
  f27 := ⟨Tryd.f96.name, by decide, Tryd.func96.trans (congrArg some (by kernel_rfl))⟩
  f28 := ⟨Tryd.f97.name, by decide, Tryd.func97.trans (congrArg some (by kernel_rfl))⟩
  f29 := ⟨Tryd.f98.name, by decide, Tryd.func98.trans (congrArg some (by kernel_rfl))⟩
  f31 := Tryd.func103.trans (congrArg some (by kernel_rfl))
  f32 := Tryd.func104.trans (congrArg some (by kernel_rfl))
  f36 := ⟨Tryd.f102.name, by decide, Tryd.func102.trans (congrArg some (by kernel_rfl))⟩
  f37 := ⟨Tryd.f105.name, by decide, Tryd.func105.trans (congrArg some (by kernel_rfl))⟩
  f38 := ⟨Tryd.f106.name, by decide, Tryd.func106.trans (congrArg some (by kernel_rfl))⟩
  f39 := ⟨Tryd.f107.name, by decide, Tryd.func107.trans (congrArg some (by kernel_rfl))⟩
  f41 := ⟨Tryd.f108.name, by decide, Tryd.func108.trans (congrArg some (by kernel_rfl))⟩
  t0 := Tryd.underlying0
  a0 := Tryd.isAgg0
  z0 := Tryd.sizeOf0
  v0 := Tryd.zeroValue0
  t3 := Tryd.underlying3
  a3 := Tryd.isAgg3
  z3 := Tryd.sizeOf3
  v3 := Tryd.zeroValue3
  t4 := Tryd.underlying4
  a4 := Tryd.isAgg4
  z4 := Tryd.sizeOf4
  v4 := Tryd.zeroValue4
  t5 := Tryd.underlying5
  a5 := Tryd.isAgg5
  z5 := Tryd.sizeOf5
  v5 := Tryd.zeroValue5
  t9 := Tryd.underlying9
  a9 := Tryd.isAgg9
  z9 := Tryd.sizeOf9
  v9 := Tryd.zeroValue9
  t26 := Tryd.underlying23
  a26 := Tryd.isAgg23
  z26 := Tryd.sizeOf23
  v26 := Tryd.zeroValue23
  t27 := Tryd.underlying23
  a27 := Tryd.isAgg23
  z27 := Tryd.sizeOf23
  v27 := Tryd.zeroValue23
  t29 := Tryd.underlying9
  a29 := Tryd.isAgg9
  z29 := Tryd.sizeOf9
  v29 := Tryd.zeroValue9
  t32 := Tryd.underlying132
  a32 := Tryd.isAgg132
  z32 := Tryd.sizeOf132
  v32 := Tryd.zeroValue132
  t35 := Tryd.underlying146
  a35 := Tryd.isAgg146
  z35 := Tryd.sizeOf146
  v35 := Tryd.zeroValue146
  t36 := Tryd.underlying147
  a36 := Tryd.isAgg147
  z36 := Tryd.sizeOf147
  v36 := Tryd.zeroValue147
  t41 := Tryd.underlying119
  a41 := Tryd.isAgg119
  z41 := Tryd.sizeOf119
  v41 := Tryd.zeroValue119
  t44 := Tryd.underlying153
  a44 := Tryd.isAgg153
  z44 := Tryd.sizeOf153
  v44 := Tryd.zeroValue153
  t46 := Tryd.underlying155
  a46 := Tryd.isAgg155
  z46 := Tryd.sizeOf155
  v46 := Tryd.zeroValue155
  t53 := Tryd.underlying157
  a53 := Tryd.isAgg157
  z53 := Tryd.sizeOf157
  v53 := Tryd.zeroValue157
  t57 := Tryd.underlying161
  a57 := Tryd.isAgg161
  z57 := Tryd.sizeOf161
  v57 := Tryd.zeroValue161
  t63 := Tryd.underlying163
  a63 := Tryd.isAgg163
  z63 := Tryd.sizeOf163
  v63 := Tryd.zeroValue163
  t64 := Tryd.underlying164
  a64 := Tryd.isAgg164
  z64 := Tryd.sizeOf164
  v64 := Tryd.zeroValue164 }
open Go.RowKit Go.Maps Go.Sort Go.Shelf

theorem Tryd.sorts56 (m : Nat) : AnyZ.SortsIn Tryd.prog Tryd.sorted56_ren Fence.wide m :=
  ⟨fun blk off cap ss W hH hblk hsz => callsIn_wide.2 (AnyM.slices_Sort_string Tryd.sort75 blk off cap ss W hH hblk hsz),
   fun p cap W => callsIn_wide.2 (AnyM.slices_Sort_string_none Tryd.sort75 p cap W)⟩

theorem Tryd.maps_Keys_57 (mb : Option Nat) (W : World) : CallsIn Fence.wide 5 Tryd.prog 57 #[.map mb] W fun e w' => e = .returned (.func (.func 76) #[] #[.pointer (some ⟨W.heap.size, 0, none⟩)]) ∧ w' = W.alloc (.cells #[.map mb] 96) :=
  AnyZ.keys_in Tryd.keys57 Fence.wide 5 trivial rfl mb W

set_option maxHeartbeats 1000000 in
theorem Tryd.slices_Sorted_keys_56_57 {H : Type} (b nn : Nat) (D0 : DataW H) (R : Value → Option (DataW H × List MemPlace)) (w : World) (hown : w.ownsMap Tryd.prog 9 R b nn D0) (hmax : Maps.size D0 ≤ maxLen) (hbytes : Maps.size D0 * 16 ≤ 140737488355328) :
    CallsIn Fence.wide 5 Tryd.prog 56 #[.func (.func 76) #[] #[.pointer (some ⟨w.heap.size, 0, none⟩)]] (w.alloc (.cells #[.map (some b)] 96)) fun e w' => ∃ (v : Value) (ss : List (List UInt8)), e = .returned v ∧ ss.Perm (strKeys D0) ∧
      w'.ownsRow (w.alloc (.cells #[.map (some b)] 96)).heap.size 9 1 v ss.length ((ss.mergeSort (fun x y => decide (x ≤ y))).map encStr) ∧ (v = .slice none 0 0 ↔ ss = []) ∧ Below (w.alloc (.cells #[.map (some b)] 96)).heap.size (w.alloc (.cells #[.map (some b)] 96)) w' := by
  have hbl := hown.lt
  have hseq : SeqGives Fence.wide 2 Tryd.prog 76 #[.pointer (some ⟨w.heap.size, 0, none⟩)] encStr (fun ss => ss.Perm (strKeys D0)) (Maps.size D0) (w.alloc (.cells #[.map (some b)] 96)) :=
    AnyZ.keys_gives (ρ := Tryd.keys57_ren) { Tryd.keys57 with } Fence.wide _ trivial rfl (by omega) w.heap.size b nn D0 _ (by simp) (by simp) (by
      obtain ⟨es, clock, hb, Ft, hs, hD⟩ := hown
      exact ⟨es, clock, (Below.heap_alloc _ _ b hbl).trans hb, Ft, hs, hD⟩)
  exact AnyZ.sorted_in Tryd.sorted56 Fence.wide 5 trivial trivial trivial trivial rfl (by omega) (Tryd.sorts56 _) (enters_of Tryd.func75 (by kernel_rfl) rfl) 76 #[.pointer (some ⟨w.heap.size, 0, none⟩)] trivial (enters_of Tryd.func76 (by kernel_rfl) rfl) _ _ hmax hbytes _ hseq

set_option maxHeartbeats 1000000 in
theorem Tryd.slices_Sorted_keys_nil_56_57 (w : World) :
    CallsIn Fence.wide 5 Tryd.prog 56 #[.func (.func 76) #[] #[.pointer (some ⟨w.heap.size, 0, none⟩)]] (w.alloc (.cells #[.map none] 96)) fun e w' => ∃ (v : Value) (ss : List (List UInt8)), e = .returned v ∧ ss = [] ∧
      w'.ownsRow (w.alloc (.cells #[.map none] 96)).heap.size 9 1 v ss.length ((ss.mergeSort (fun x y => decide (x ≤ y))).map encStr) ∧ (v = .slice none 0 0 ↔ ss = []) ∧ Below (w.alloc (.cells #[.map none] 96)).heap.size (w.alloc (.cells #[.map none] 96)) w' := by
  have hseq : SeqGives Fence.wide 2 Tryd.prog 76 #[.pointer (some ⟨w.heap.size, 0, none⟩)] encStr (fun ss : List (List UInt8) => ss = []) 0 (w.alloc (.cells #[.map none] 96)) :=
    AnyZ.keys_gives_nil (ρ := Tryd.keys57_ren) { Tryd.keys57 with } Fence.wide _ trivial rfl w.heap.size _ (by simp) (by simp)
  exact AnyZ.sorted_in Tryd.sorted56 Fence.wide 5 trivial trivial trivial trivial rfl (by omega) (Tryd.sorts56 _) (enters_of Tryd.func75 (by kernel_rfl) rfl) 76 #[.pointer (some ⟨w.heap.size, 0, none⟩)] trivial (enters_of Tryd.func76 (by kernel_rfl) rfl) _ 0 (Nat.zero_le _) (by omega) _ hseq

end Go.Proofs

/- The walk of CreatePart at a header that is nil. -/
namespace Go.Proofs.YtklkgddldndmmaaDoor
open Go.RowKit
set_option linter.unusedVariables false
set_option linter.unusedSimpArgs false

theorem keys_nil (W : World) : Calls Tryd.prog 57 #[.map none] W fun e w' => e = .returned (.func (.func 76) #[] #[.pointer (some ⟨W.heap.size, 0, none⟩)]) ∧ w' = W.alloc (.cells #[.map none] 96) :=
  callsIn_wide.1 (Tryd.maps_Keys_57 none W)
theorem sorted_nil (w : World) : Calls Tryd.prog 56 #[.func (.func 76) #[] #[.pointer (some ⟨w.heap.size, 0, none⟩)]] (w.alloc (.cells #[.map none] 96)) fun e w' => e = .returned (.slice none 0 0) ∧ Below w.heap.size w w' :=
  (callsIn_wide.1 (Tryd.slices_Sorted_keys_nil_56_57 w)).mono fun e w' ⟨v, ss, he, hs, _, hv, hb⟩ => by
    rw [hv.2 hs] at he
    exact ⟨he, ((Below.refl w.heap.size w).alloc (Nat.le_refl _) _).trans (hb.mono (by simp))⟩

/-- What CreatePart leaves. -/
structure Made (B bb b : Nat) (v0 : Value) (bd : ByteArray) (o : List UInt8) (w : World) (p' : Nat) (w' : World) : Prop where
  buf : Buf w' B bb o
  wr : Wr w' b v0 bd (some ⟨p', 0, none⟩)
  pt : Pt w' p' b false
  new : w.heap.size ≤ p'
  below : Below B w w'

def crlf : List UInt8 := [13, 10]
def dashes : List UInt8 := [45, 45]

theorem ws_any (B b : Nat) (l : List UInt8) (s : ByteArray) (w : World) (h : Buf w B b l) (hBw : B ≤ w.heap.size) (hlim : l.length + s.size ≤ 140737488355328) :
    Calls Tryd.prog 55 #[.pointer (some ⟨b, 0, none⟩), .string s] w fun e w' => e = .returned (.tuple #[.int .i64 s.size, .nilIface]) ∧ Buf w' B b (l ++ s.data.toList) ∧ Below B w w' ∧ Kept (fun k => k = b) w w' :=
  (Tryd.Buffer_WriteString_k B b (Lib.byteCells l) s w h hBw (bc_one l) (by rw [bc_len]; exact hlim)).mono fun e w' ⟨he, h1, h2, h3⟩ => ⟨he, by rw [← Lib.byteCells_append] at h1; exact h1, h2, Kept.of_others h3⟩

theorem app_data (a b : ByteArray) : (a ++ b).data.toList = a.data.toList ++ b.data.toList := by
  rw [ByteArray.data_append, Array.toList_append]
theorem app_size (a b : ByteArray) : (a ++ b).size = a.size + b.size := by
  rw [← ByteArray.size_data, ByteArray.data_append, Array.size_append]; rfl
theorem wr_ne_buf {w : World} {B bb b : Nat} {v0 : Value} {bd : ByteArray} {lp : Option Addr} {o : List UInt8} (hw : Wr w b v0 bd lp) (ho : Buf w B bb o) : b ≠ bb := by
  rintro rfl
  obtain ⟨v, lr, h⟩ := ho.block
  unfold Wr at hw
  rw [hw] at h
  injection h with h
  injection h with _ h
  cases h
theorem Kept.wr {S : Nat → Prop} {w w' : World} {b : Nat} {v0 : Value} {bd : ByteArray} {lp : Option Addr} (hk : Kept S w w') (hw : Wr w b v0 bd lp) (hs : ¬ S b) : Wr w' b v0 bd lp := hk b _ hw hs (fun c fz e => by injection e with _ e; cases e)
theorem Kept.pt {S : Nat → Prop} {w w' : World} {p b : Nat} {cl : Bool} (hk : Kept S w w') (hp : Pt w p b cl) (hs : ¬ S p) : Pt w' p b cl := hk p _ hp hs (fun c fz e => by injection e with _ e; cases e)
theorem Wr.setPart {w : World} {b : Nat} {v0 : Value} {bd : ByteArray} {lp : Option Addr} (h : Wr w b v0 bd lp) (q : Option Addr) : Wr (w.setCell ⟨b, 2, none⟩ (.pointer q)) b v0 bd q := by
  unfold Wr at h ⊢
  show (w.heap.modify b _)[b]? = _
  rw [Array.getElem?_modify, if_pos rfl, h]
  rfl
theorem Buf.wrSet {w : World} {B bb b : Nat} {v0 : Value} {bd : ByteArray} {lp : Option Addr} {o : List UInt8} (ho : Buf w B bb o) (hw : Wr w b v0 bd lp) (i : Nat) (v : Value) : Buf (w.setCell ⟨b, i, none⟩ v) B bb o :=
  ho.lone ((Lone.refl b w).setCell i v) (wr_ne_buf hw ho) hw (by decide)

/-- The end of CreatePart, behind the copy: the part is laid, and the Writer leads to it. -/
theorem made_end {B bb b tb : Nat} {v0 : Value} {bd : ByteArray} {lp : Option Addr} {o l : List UInt8} {w w5 w6 : World} (h5 : Below w.heap.size w w5) (M : Moved B bb tb o l w5 w6) (hw6 : Wr w6 b v0 bd lp) (hBb : B ≤ b) (htb : w.heap.size ≤ tb) (hBw : B ≤ w.heap.size) :
    Made B bb b v0 bd (o ++ l) w w6.heap.size ((w6.setCell ⟨b, 2, none⟩ (.pointer (some ⟨w6.heap.size, 0, none⟩))).alloc (.cells #[.pointer (some ⟨b, 0, none⟩), .bool false, .nilIface] 105 (0, 0))) ∧
    Kept (fun k => k = bb ∨ k = b) w ((w6.setCell ⟨b, 2, none⟩ (.pointer (some ⟨w6.heap.size, 0, none⟩))).alloc (.cells #[.pointer (some ⟨b, 0, none⟩), .bool false, .nilIface] 105 (0, 0))) := by
  have hsz : (w6.setCell ⟨b, 2, none⟩ (.pointer (some ⟨w6.heap.size, 0, none⟩))).heap.size = w6.heap.size := by simp [World.setCell]
  have h56 : w5.heap.size ≤ w6.heap.size := M.below.size
  have hal := (Below.refl (w6.setCell ⟨b, 2, none⟩ (.pointer (some ⟨w6.heap.size, 0, none⟩))).heap.size (w6.setCell ⟨b, 2, none⟩ (.pointer (some ⟨w6.heap.size, 0, none⟩)))).alloc (Nat.le_refl _) (.cells #[.pointer (some ⟨b, 0, none⟩), .bool false, .nilIface] 105 (0, 0))
  have hws := hw6.setPart (some ⟨w6.heap.size, 0, none⟩)
  refine ⟨⟨(M.buf.wrSet hw6 2 _).alloc _, hws.below hal hws.lt, ?_, Nat.le_trans h5.size h56, ?_⟩, ?_⟩
  · unfold Pt
    have hn := heap_alloc_new (w6.setCell ⟨b, 2, none⟩ (.pointer (some ⟨w6.heap.size, 0, none⟩))) (.cells #[.pointer (some ⟨b, 0, none⟩), .bool false, .nilIface] 105 (0, 0))
    rw [hsz] at hn
    exact hn
  · exact (h5.mono hBw).trans ((M.below.setCell hBb _).alloc (by rw [hsz]; have := M.below.size; have := h5.size; omega) _)
  · intro i x hi hs hx
    have hlt : i < w.heap.size := (Array.getElem?_eq_some_iff.1 hi).1
    have h1 : w5.heap[i]? = some x := (h5.block i hlt).trans hi
    have h2 : w6.heap[i]? = some x := M.kept i x h1 (by rintro (e | e); exact hs (.inl e); exact absurd (e ▸ hlt) (Nat.not_lt.2 htb)) hx
    exact (((Kept.refl (fun k => k = b) w6).setCell (p := ⟨b, 2, none⟩) rfl _).trans (Kept.of_below hal)) i x h2 (fun e => hs (.inr e)) hx

set_option maxRecDepth 1000000 in
set_option maxHeartbeats 4000000 in
theorem create_first (B bb b : Nat) (bd : ByteArray) (o : List UInt8) (w : World) (ho : Buf w B bb o) (hw : Wr w b (.iface 55 (.pointer (some ⟨bb, 0, none⟩))) bd none) (hBb : B ≤ b) (hBw : B ≤ w.heap.size) (hbd : bd.size ≤ 1000) (hlim : o.length ≤ 140737488000000) :
    Calls Tryd.prog 31 #[.pointer (some ⟨b, 0, none⟩), .map none] w fun e w' => ∃ p', e = .returned (.tuple #[.iface 93 (.pointer (some ⟨p', 0, none⟩)), .nilIface]) ∧ Made B bb b (.iface 55 (.pointer (some ⟨bb, 0, none⟩))) bd (o ++ (dashes ++ bd.data.toList ++ crlf ++ crlf)) w p' w' ∧ Kept (fun k => k = bb ∨ k = b) w w' := by
  have w2 := hw.c2
  have wa2 : ∀ x, (w.alloc x).cell? ⟨b, 2, none⟩ = some (.pointer none) := fun x => (World.cell?_alloc_lt w x _ hw.lt).trans hw.c2
  have wa1 : ∀ x, (w.alloc x).cell? ⟨b, 1, none⟩ = some (.string bd) := fun x => (World.cell?_alloc_lt w x _ hw.lt).trans hw.c1
  have HT : Hid ((⟨#[45, 45]⟩ ++ bd ++ ⟨#[13, 10]⟩ : ByteArray).data.toList = dashes ++ bd.data.toList ++ crlf) := by show _ = _; rw [app_data, app_data]; rfl
  have HZ : Hid ((⟨#[45, 45]⟩ ++ bd ++ ⟨#[13, 10]⟩ : ByteArray).size = 4 + bd.size) := by show _ = _; rw [app_size, app_size]; show 2 + bd.size + 2 = _; omega
  go_enter Tryd.func31, Tryd.ntmps31
  go_wp2_with fail
  refine (ws_any w.heap.size w.heap.size [] _ _ (Lib.fresh_isBuffer 59 5 w) (by simp) (by rw [HZ.out]; simp; omega)).mono ?_
  rintro e w3 ⟨rfl, hb3, hbel3, hk3⟩
  rw [HT.out, List.nil_append] at hb3
  have B3 : Below w.heap.size w w3 := ((Below.refl _ w).alloc (Nat.le_refl _) _).trans hbel3
  clear hbel3 hk3 wa1 wa2
  go_wp2_with fail
  refine (keys_nil w3).mono ?_
  rintro e w4 ⟨rfl, rfl⟩
  go_wp2_with fail
  refine (sorted_nil w3).mono ?_
  rintro e w4 ⟨rfl, B4⟩
  have hb4 := hb3.old B4
  have B4' := B3.trans (B4.mono B3.size)
  clear hb3 B3 B4
  go_wp2_with fail
  go_loop [51] (fun i => i = .int .i64 0) (fun i => 0)
  case atStart => rfl
  case round =>
  obtain rfl := hrel
  go_wp2_with fail
  refine (ws_any w.heap.size w.heap.size _ ⟨#[13, 10]⟩ w4 hb4 B4'.size (by simp [dashes, crlf]; show _ + 2 ≤ _; omega)).mono ?_
  rintro e w5 ⟨rfl, hb5, hbel5, hk5⟩
  have B5 := B4'.trans hbel5
  clear hbel5 hk5 hb4 B4'
  have hb5' : Buf w5 w.heap.size w.heap.size (dashes ++ bd.data.toList ++ crlf ++ crlf) := hb5
  have w0 := (hw.below B5 hw.lt).c0
  clear hb5
  go_wp2_with fail
  refine (copy_any B bb w.heap.size w.heap.size o _ w5 (ho.old B5) hb5' (by simp [dashes]) (by have := ho.lt; omega) hBw (by simp [dashes, crlf]; omega) (Nat.le_trans hBw B5.size)).mono ?_
  rintro e w6 ⟨rfl, M⟩
  have hw6 : Wr w6 b _ _ _ := M.kept.wr (hw.below B5 hw.lt) (by rintro (h | h); exact wr_ne_buf hw ho h; exact absurd h (Nat.ne_of_lt hw.lt))
  have HE := Lib.hid (made_end B5 M hw6 hBb (Nat.le_refl _) hBw)
  have x2 : ∀ x, (w6.alloc x).cell? ⟨b, 2, none⟩ = some (.pointer none) := fun x => (World.cell?_alloc_lt w6 x _ hw6.lt).trans hw6.c2
  have f2 : ∀ x, (w6.alloc x).frozen? ⟨b, 2, none⟩ = false := fun x => by
    have hal := (Below.refl w6.heap.size w6).alloc (Nat.le_refl _) x
    exact (hw6.below hal hw6.lt).f2
  have hlt6 := hw6.lt
  clear M w0 w2
  go_wp2_with fail
  go_ret2
  exact ⟨_, rfl, HE.out⟩
end Go.Proofs.YtklkgddldndmmaaDoor

/- The walk of CreatePart at a header that is nil, behind a part. -/
namespace Go.Proofs.YtklkgddldndmmaaDoor
open Go.RowKit
set_option linter.unusedVariables false
set_option linter.unusedSimpArgs false

theorem pt_ne_buf {w : World} {B bb p b : Nat} {cl : Bool} {o : List UInt8} (hp : Pt w p b cl) (ho : Buf w B bb o) : p ≠ bb := by
  rintro rfl
  obtain ⟨v, lr, h⟩ := ho.block
  unfold Pt at hp
  rw [hp] at h
  injection h with h
  injection h with _ h
  cases h
theorem pt_ne_wr {w : World} {p b b' : Nat} {cl : Bool} {v0 : Value} {bd : ByteArray} {lp : Option Addr} (hp : Pt w p b cl) (hw : Wr w b' v0 bd lp) : p ≠ b' := by
  rintro rfl
  unfold Pt at hp
  unfold Wr at hw
  rw [hp] at hw
  injection hw with h
  injection h with _ h
  cases h
/-- A part is shut. -/
theorem Buf.ptSet {w : World} {B bb p b : Nat} {cl : Bool} {o : List UInt8} (ho : Buf w B bb o) (hp : Pt w p b cl) (i : Nat) (v : Value) : Buf (w.setCell ⟨p, i, none⟩ v) B bb o :=
  ho.lone ((Lone.refl p w).setCell i v) (pt_ne_buf hp ho) hp (by decide)
theorem Wr.ptSet {w : World} {p b b' : Nat} {cl : Bool} {v0 : Value} {bd : ByteArray} {lp : Option Addr} (hw : Wr w b' v0 bd lp) (hp : Pt w p b cl) (i : Nat) (v : Value) : Wr (w.setCell ⟨p, i, none⟩ v) b' v0 bd lp :=
  (((Lone.refl p w).setCell i v).others b' (Ne.symm (pt_ne_wr hp hw))).trans hw

set_option maxRecDepth 1000000 in
set_option maxHeartbeats 4000000 in
theorem create_next (B bb b p : Nat) (cl : Bool) (bd : ByteArray) (o : List UInt8) (w : World) (ho : Buf w B bb o) (hw : Wr w b (.iface 55 (.pointer (some ⟨bb, 0, none⟩))) bd (some ⟨p, 0, none⟩)) (hp : Pt w p b cl) (hBb : B ≤ b) (hBp : B ≤ p) (hBw : B ≤ w.heap.size) (hbd : bd.size ≤ 1000) (hlim : o.length ≤ 140737488000000) :
    Calls Tryd.prog 31 #[.pointer (some ⟨b, 0, none⟩), .map none] w fun e w' => ∃ p', e = .returned (.tuple #[.iface 93 (.pointer (some ⟨p', 0, none⟩)), .nilIface]) ∧ Made B bb b (.iface 55 (.pointer (some ⟨bb, 0, none⟩))) bd (o ++ (crlf ++ dashes ++ bd.data.toList ++ crlf ++ crlf)) w p' w' ∧ Pt w' p b true ∧ Kept (fun k => k = bb ∨ k = b ∨ k = p) w w' := by
  have w2 := hw.c2
  have HCl := Lib.hid (close_any p b cl w hp)
  obtain ⟨w1, hw1⟩ : ∃ x, x = w.setCell ⟨p, 1, none⟩ (.bool true) := ⟨_, rfl⟩
  rw [← hw1] at HCl
  have ho1 : Buf w1 B bb o := by rw [hw1]; exact ho.ptSet hp 1 _
  have hwr1 : Wr w1 b (.iface 55 (.pointer (some ⟨bb, 0, none⟩))) bd (some ⟨p, 0, none⟩) := by rw [hw1]; exact hw.ptSet hp 1 _
  have hp1 : Pt w1 p b true := by rw [hw1]; exact hp.set true
  have hsz1 : w1.heap.size = w.heap.size := by rw [hw1]; simp [World.setCell]
  have hb1 : Below B w w1 := by rw [hw1]; exact (Below.refl B w).setCell hBp _
  have hk1 : Kept (fun k => k = p) w w1 := by rw [hw1]; exact (Kept.refl (fun k => k = p) w).setCell (p := ⟨p, 1, none⟩) rfl _
  have hBw1 : B ≤ w1.heap.size := by omega
  have wa2 : ∀ x, (w1.alloc x).cell? ⟨b, 2, none⟩ = some (.pointer (some ⟨p, 0, none⟩)) := fun x => (World.cell?_alloc_lt w1 x _ hwr1.lt).trans hwr1.c2
  have wa1 : ∀ x, (w1.alloc x).cell? ⟨b, 1, none⟩ = some (.string bd) := fun x => (World.cell?_alloc_lt w1 x _ hwr1.lt).trans hwr1.c1
  have HT : Hid ((⟨#[13, 10, 45, 45]⟩ ++ bd ++ ⟨#[13, 10]⟩ : ByteArray).data.toList = crlf ++ dashes ++ bd.data.toList ++ crlf) := by show _ = _; rw [app_data, app_data]; rfl
  have HZ : Hid ((⟨#[13, 10, 45, 45]⟩ ++ bd ++ ⟨#[13, 10]⟩ : ByteArray).size = 6 + bd.size) := by show _ = _; rw [app_size, app_size]; show 4 + bd.size + 2 = _; omega
  have HW := Lib.hid hsz1
  clear hw1 ho hw hp hsz1
  go_enter Tryd.func31, Tryd.ntmps31
  go_wp2_with fail
  refine HCl.out.mono ?_
  rintro e w1' ⟨rfl, rfl⟩
  go_wp2_with fail
  refine (ws_any w1'.heap.size w1'.heap.size [] _ _ (Lib.fresh_isBuffer 59 5 w1') (by simp) (by rw [HZ.out]; simp; omega)).mono ?_
  rintro e w3 ⟨rfl, hb3, hbel3, hk3⟩
  rw [HT.out, List.nil_append] at hb3
  have B3 : Below w1'.heap.size w1' w3 := ((Below.refl _ w1').alloc (Nat.le_refl _) _).trans hbel3
  clear hbel3 hk3 wa1 wa2
  go_wp2_with fail
  refine (keys_nil w3).mono ?_
  rintro e w4 ⟨rfl, rfl⟩
  go_wp2_with fail
  refine (sorted_nil w3).mono ?_
  rintro e w4 ⟨rfl, B4⟩
  have hb4 := hb3.old B4
  have B4' := B3.trans (B4.mono B3.size)
  clear hb3 B3 B4
  go_wp2_with fail
  go_loop [51] (fun i => i = .int .i64 0) (fun i => 0)
  case atStart => rfl
  case round =>
  obtain rfl := hrel
  go_wp2_with fail
  refine (ws_any w1'.heap.size w1'.heap.size _ ⟨#[13, 10]⟩ w4 hb4 B4'.size (by simp [dashes, crlf]; show _ + 2 ≤ _; omega)).mono ?_
  rintro e w5 ⟨rfl, hb5, hbel5, hk5⟩
  have B5 := B4'.trans hbel5
  clear hbel5 hk5 hb4 B4'
  have hb5' : Buf w5 w1'.heap.size w1'.heap.size (crlf ++ dashes ++ bd.data.toList ++ crlf ++ crlf) := hb5
  have w0 := (hwr1.below B5 hwr1.lt).c0
  clear hb5
  go_wp2_with fail
  refine (copy_any B bb w1'.heap.size w1'.heap.size o _ w5 (ho1.old B5) hb5' (by simp [dashes]) (by have := ho1.lt; omega) hBw1 (by simp [dashes, crlf]; omega) (Nat.le_trans hBw1 B5.size)).mono ?_
  rintro e w6 ⟨rfl, M⟩
  have hw6 : Wr w6 b _ _ _ := M.kept.wr (hwr1.below B5 hwr1.lt) (by rintro (h | h); exact wr_ne_buf hwr1 ho1 h; exact absurd h (Nat.ne_of_lt hwr1.lt))
  have hM := made_end B5 M hw6 hBb (Nat.le_refl _) hBw1
  have hpe := hM.2.pt hp1 (by rintro (h | h); exact pt_ne_buf hp1 ho1 h; exact pt_ne_wr hp1 hwr1 h)
  have HE := Lib.hid (And.intro hM hpe)
  have x2 : ∀ x, (w6.alloc x).cell? ⟨b, 2, none⟩ = some (.pointer (some ⟨p, 0, none⟩)) := fun x => (World.cell?_alloc_lt w6 x _ hw6.lt).trans hw6.c2
  have f2 : ∀ x, (w6.alloc x).frozen? ⟨b, 2, none⟩ = false := fun x => by
    have hal := (Below.refl w6.heap.size w6).alloc (Nat.le_refl _) x
    exact (hw6.below hal hw6.lt).f2
  have hlt6 := hw6.lt
  clear M w0 w2 hM hpe
  go_wp2_with fail
  go_ret2
  obtain ⟨⟨m, k⟩, hpe⟩ := HE.out
  exact ⟨_, rfl, ⟨m.buf, m.wr, m.pt, by rw [← HW.out]; exact m.new, hb1.trans m.below⟩, hpe, (hk1.mono fun i h => .inr (.inr h)).trans (k.mono fun i h => h.elim .inl fun h => .inr (.inl h))⟩
end Go.Proofs.YtklkgddldndmmaaDoor

/- A string turned into a new []byte, as a step of a walk. No program in sight. -/
namespace Go.Proofs.YtklkgddldndmmaaDoor
open Go.RowKit
set_option linter.unusedVariables false
set_option linter.unusedSimpArgs false

/-- '[]byte(s)': a new row that reads as the string's bytes; nothing that was there has turned. -/
theorem run_bytes_any {P : Program} (w : World) {src dst e : TypeId} (s : ByteArray) (hs : P.underlying src = some .string) (hd : P.underlying dst = some (.slice e)) (he : P.underlying e = some (.int .u8)) :
    ∃ A c w', (convert src dst (.string s)).run P w = .ok (.slice A s.size c) w' ∧ RdB w' w'.heap.size A s.size s.data.toList ∧ s.size ≤ c ∧ Below w.heap.size w w' := by
  refine ⟨_, _, _, run_bytes_of_string w src dst e s hs hd he, ⟨by rw [bc_len]; simp, fun hn => ⟨w.heap.size, 0, rfl, ?_, fun j u hu => ?_⟩⟩, grownCap_ge _ _ _ _, ?_⟩
  · show w.heap.size < (w.drew.alloc _).heap.size
    simp
  · have hj : j < s.data.toList.length := by
      have := (List.getElem?_eq_some_iff.1 hu).1
      rwa [bc_len] at this
    have hw : w.heap.size = w.drew.heap.size := rfl
    rw [Nat.zero_add, hw, World.cell?_alloc_mark]
    simp only [Lib.byteCells, List.getElem?_map] at hu
    simp only [bytesRow]
    have hj' : j < s.data.size := by simpa using hj
    rw [Array.getElem?_append_left (by simpa using hj')]
    rw [← hu]
    simp
  · exact (((Below.refl _ w).drew).alloc (Nat.le_refl _) _)

theorem wpList_conv_any {P : Program} (w : World) {ops : Array Oper} {rest : List Oper} {o : Oper} {a : Act} {Q : Exit → Act → World → Prop} (hgd : o.guard = none) (x : Operand) (src dst e : TypeId)
    (ho : o.op = .convert src dst x) (hs : P.underlying src = some .string) (hd : P.underlying dst = some (.slice e)) (he : P.underlying e = some (.int .u8)) (s : ByteArray) (hx : a.eval x = .string s)
    (h : ∀ A c w', RdB w' w'.heap.size A s.size s.data.toList → s.size ≤ c → Below w.heap.size w w' → wpList P ops Q rest (a.put o.dst (.slice A s.size c)) w') : wpList P ops Q (o :: rest) a w := by
  obtain ⟨A, c, w', hrun, h1, h2, h3⟩ := run_bytes_any (P := P) w s hs hd he
  refine wpList_plain hgd fun K hK => ?_
  unfold Oper.wp execOp
  simp only [ho, Sem.run_bind, Sem.run_pure, Result.andThen_ok, hx, hrun]
  exact hK _ _ (h A c w' h1 h2 h3)

/-- A guarded operation whose guard let it through. -/
theorem wpList_want {P : Program} {w : World} {ops : Array Oper} {rest : List Oper} {o : Oper} {a : Act} {Q : Exit → Act → World → Prop} (hw : Region.wanted o (yielded ops a.tmps) = true)
    (h : ∀ K : Act → World → Prop, (∀ a w, wpList P ops Q rest a w → K a w) → o.wp P a w K Q) : wpList P ops Q (o :: rest) a w :=
  wpList_step fun K hK => by rw [if_pos hw]; exact h K hK

theorem wpList_append_want {P : Program} (w : World) {ops : Array Oper} {rest : List Oper} {o : Oper} {a : Act} {Q : Exit → Act → World → Prop} (s x : Operand) (t : TypeId)
    (ho : o.op = .call { callee := .builtin .append, args := #[s, x], argTypes := #[t, t] })
    (hw : Region.wanted o (yielded ops a.tmps) = true)
    (base : Nat) (e : TypeId) (i : TypeInfo) (z : Value) (size bytes : Nat) (ht : P.underlying t = some (.slice e)) (hi : P.info? e = some i) (hz : i.zero = some z)
    (hsize : i.size = size) (hby : i.bytes = bytes) (hzs : z.cells.size = size) (hsz : 0 < size)
    (v : Value) (n : Nat) (xs : List Value) (hs : a.eval s = v) (hown : w.ownsRow base e size v n xs)
    (B : Nat) (A : Option Addr) (m c : Nat) (news : List Value) (hx : a.eval x = .slice A m c) (hr : Rd w B size A m news) (h1 : ∀ u ∈ news, u.oneCell' = true)
    (h63 : n + m ≤ maxLen) (hbytes : (n + m) * bytes ≤ 140737488355328) (hbase : base ≤ w.heap.size)
    (h : ∀ A' c' w', w'.ownsRow base e size (.slice A' (n + m) c') (n + m) (xs ++ news) → w.grownBy w' v.ownBlock → ((Value.slice A' (n + m) c').ownBlock = v.ownBlock ∨ (Value.slice A' (n + m) c').ownBlock = some w.heap.size) → wpList P ops Q rest (a.put o.dst (.slice A' (n + m) c')) w') : wpList P ops Q (o :: rest) a w :=
  wpList_want hw fun _ hK => wp_append_any w s x t ho base e i z size bytes ht hi hz hsize hby hzs hsz v n xs hs hown B A m c news hx hr h1 h63 hbytes hbase fun A' c' w' h2 h3 h4 => hK _ _ (h A' c' w' h2 h3 h4)

end Go.Proofs.YtklkgddldndmmaaDoor

/- The walk of a Writer's Close. -/
namespace Go.Proofs.YtklkgddldndmmaaDoor
open Go.RowKit
set_option linter.unusedVariables false
set_option linter.unusedSimpArgs false

/-- The world behind '[]byte(s)' made in w, whatever was drawn. -/
structure After (w W : World) (s : ByteArray) : Prop where
  below : Below w.heap.size w W
  src : ∀ j u, (Lib.byteCells s.data.toList)[j]? = some u → W.cell? ⟨w.heap.size, 0 + j, none⟩ = some u
  new : ∃ c fz, W.heap[w.heap.size]? = some (.cells c 5 fz)
theorem After.drew {w W : World} {s : ByteArray} (h : After w W s) : After w W.drew s := ⟨h.below.drew, h.src, h.new⟩
theorem After.row (w : World) (s : ByteArray) (cap : Nat) (fz : Nat × Nat) : After w (w.alloc (.cells (bytesRow s cap) 5 fz)) s := by
  refine ⟨(Below.refl _ w).alloc (Nat.le_refl _) _, fun j u hu => ?_, _, _, heap_alloc_new w _⟩
  have hj : j < s.data.toList.length := by
    have := (List.getElem?_eq_some_iff.1 hu).1
    rwa [bc_len] at this
  rw [Nat.zero_add, World.cell?_alloc_mark]
  simp only [Lib.byteCells, List.getElem?_map] at hu
  simp only [bytesRow]
  have hj' : j < s.data.size := by simpa using hj
  rw [Array.getElem?_append_left (by simpa using hj')]
  rw [← hu]
  simp

set_option maxRecDepth 1000000 in
set_option maxHeartbeats 4000000 in
theorem shut_any (B bb b p : Nat) (cl : Bool) (bd : ByteArray) (o : List UInt8) (w : World) (ho : Buf w B bb o) (hw : Wr w b (.iface 55 (.pointer (some ⟨bb, 0, none⟩))) bd (some ⟨p, 0, none⟩)) (hp : Pt w p b cl) (hBb : B ≤ b) (hBp : B ≤ p) (hBw : B ≤ w.heap.size) (hbd : bd.size ≤ 1000) (hlim : o.length ≤ 140737488000000) :
    Calls Tryd.prog 39 #[.pointer (some ⟨b, 0, none⟩)] w fun e w' => e = .returned .nilIface ∧ Buf w' B bb (o ++ (crlf ++ dashes ++ bd.data.toList ++ dashes ++ crlf)) ∧ Below B w w' ∧ Kept (fun k => k = bb ∨ k = b ∨ k = p) w w' := by
  have w2 := hw.c2
  have HCl := Lib.hid (close_any p b cl w hp)
  obtain ⟨w1, hw1⟩ : ∃ x, x = w.setCell ⟨p, 1, none⟩ (.bool true) := ⟨_, rfl⟩
  rw [← hw1] at HCl
  have ho1 : Buf w1 B bb o := by rw [hw1]; exact ho.ptSet hp 1 _
  have hwr1 : Wr w1 b (.iface 55 (.pointer (some ⟨bb, 0, none⟩))) bd (some ⟨p, 0, none⟩) := by rw [hw1]; exact hw.ptSet hp 1 _
  have hsz1 : w1.heap.size = w.heap.size := by rw [hw1]; simp [World.setCell]
  have hb1 : Below B w w1 := by rw [hw1]; exact (Below.refl B w).setCell hBp _
  have hk1 : Kept (fun k => k = p) w w1 := by rw [hw1]; exact (Kept.refl (fun k => k = p) w).setCell (p := ⟨p, 1, none⟩) rfl _
  have hBw1 : B ≤ w1.heap.size := by omega
  have x2 := hwr1.c2
  have f2 := hwr1.f2
  clear hw1 ho hw hp hsz1
  go_enter Tryd.func39, Tryd.ntmps39
  go_wp2_with fail
  refine HCl.out.mono ?_
  rintro e w1' ⟨rfl, rfl⟩
  go_wp2_with fail
  obtain ⟨w3, hw3⟩ : ∃ x, x = w1'.setCell ⟨b, 2, none⟩ (.pointer none) := ⟨_, rfl⟩
  rw [← hw3]
  have ho3 : Buf w3 B bb o := by rw [hw3]; exact ho1.wrSet hwr1 2 _
  have hwr3 : Wr w3 b (.iface 55 (.pointer (some ⟨bb, 0, none⟩))) bd none := by rw [hw3]; exact hwr1.setPart none
  have hb3 : Below B w w3 := by rw [hw3]; exact hb1.setCell hBb _
  have hk3 : Kept (fun k => k = b ∨ k = p) w w3 := by rw [hw3]; exact (hk1.mono fun i h => .inr h).setCell (p := ⟨b, 2, none⟩) (.inl rfl) _
  have hBw3 : B ≤ w3.heap.size := Nat.le_trans hBw hb3.size
  have c0 := hwr3.c0
  have c1 := hwr3.c1
  have c0a : ∀ x, (w3.alloc x).cell? ⟨b, 0, none⟩ = some (.iface 55 (.pointer (some ⟨bb, 0, none⟩))) := fun x => (World.cell?_alloc_lt w3 x _ hwr3.lt).trans hwr3.c0
  clear hw3 x2 f2 ho1 hb1 hk1 hBw1 hwr1 HCl w2
  obtain ⟨T, hT⟩ : ∃ T, (⟨#[13, 10, 45, 45]⟩ ++ bd ++ ⟨#[45, 45, 13, 10]⟩ : ByteArray) = T := ⟨_, rfl⟩
  have HT : Hid (T.data.toList = crlf ++ dashes ++ bd.data.toList ++ dashes ++ crlf) := by show _ = _; rw [← hT, app_data, app_data]; simp only [List.append_assoc]; rfl
  have HZ : Hid (T.size = 8 + bd.size) := by show _ = _; rw [← hT, app_size, app_size]; show 4 + bd.size + 4 = _; omega
  have n1 := fun w => nil_ahead ⟨bb, 0, none⟩ w
  have n2 := fun w => method_write ⟨bb, 0, none⟩ w
  have hcv : ∀ W : World, (convert 9 31 (.string T)).run Tryd.prog W = _ := fun W => run_bytes_of_string W 9 31 5 T Tryd.underlying9 Tryd.underlying31 Tryd.underlying5
  have HW : ∀ (W : World) (c : Nat), After w3 W T → Calls Tryd.prog 128 #[.pointer (some ⟨bb, 0, none⟩), .slice (some ⟨w3.heap.size, 0, none⟩) T.size c] W fun e w' => e = .returned (.tuple #[.int .i64 T.size, .nilIface]) ∧ Buf w' B bb (o ++ (crlf ++ dashes ++ bd.data.toList ++ dashes ++ crlf)) ∧ Below B w3 w' ∧ Kept (fun k => k = bb) w3 w' := by
    intro W c hA
    have hoW := ho3.old hA.below
    refine (Tryd.Buffer_Write_any B bb (Lib.byteCells o) (Lib.byteCells T.data.toList) ⟨w3.heap.size, 0, none⟩ _ c W hoW (Nat.le_trans hBw3 hA.below.size) (bc_one o) (by rw [bc_len]; simp) (by have := ho3.lt; show w3.heap.size ≠ bb; omega) (fun j u hu => by rw [Addr.add_lit]; exact hA.src j u hu) (bc_one _) (by rw [bc_len, HZ.out]; omega)).mono ?_
    rintro e w' ⟨he, hI, hb, hk⟩
    rw [← Lib.byteCells_append, HT.out] at hI
    exact ⟨he, hI, (hA.below.mono hBw3).trans hb, (Kept.of_below hA.below).trans (Kept.of_others hk)⟩
  go_cut [4, 5] from 22 to 38 (fun s4 s5 wx => s5 = .nilIface ∧ Buf wx B bb (o ++ (crlf ++ dashes ++ bd.data.toList ++ dashes ++ crlf)) ∧ Below B w3 wx ∧ Kept (fun k => k = bb) w3 wx)
  case first =>
    clear ho3 hwr3 hb3 hk3 HT HZ
    go_region_with (go_at_call 128; go_must (refine (HW _ _ ?_).mono ?_; (repeat (first | exact After.row _ _ _ _ | refine After.drew ?_)); rintro e w' ⟨rfl, hI, hb, hk⟩))
    all_goals (go_wp2_with fail; go_simp; go_meet; exact ⟨rfl, hI, hb, hk⟩)
  obtain ⟨rfl, hI, hb, hk⟩ := hcut
  go_wp2
  go_ret
  exact ⟨rfl, hI, hb3.trans hb, (hk3.mono fun i h => .inr h).trans (hk.mono fun i h => .inl h)⟩
end Go.Proofs.YtklkgddldndmmaaDoor
