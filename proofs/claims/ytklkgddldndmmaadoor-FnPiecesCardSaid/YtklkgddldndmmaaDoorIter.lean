/- The contracts of the library on maps.Keys and slices.Sorted that the texts here use, at this program: each is one application of a proved one (printed by the programs of the shelf). -/
import Derived.Shelf.SlIter.Nil
import Derived.Shelf.SortM.Plain
import Derived.Shelf.SortM.SortNone
import Derived.Ground.GgzProg
import Derived.Ground.SlgmProg
import Derived.Test.YtklkgddldndmmaaDoorProg
namespace Go.Proofs
open Go.Shelf
def Tryd.keys57_ren : Go.Shelf.Ren := ⟨fun | 7 => 57 | 10 => 76 | n => n, fun | 23 => 96 | 26 => 9 | 3 => 23 | 28 => 100 | 0 => 0 | 27 => 99 | 33 => 26 | 4 => 4 | n => n, fun | n => n⟩
theorem Tryd.keys57 : Go.Proofs.SlLaysZ.n7 Tryd.prog Tryd.keys57_ren := {
  mixed := by kernel_rfl
  f7 := ⟨Tryd.f57.name, by decide, Tryd.func57.trans (congrArg some (by kernel_rfl))⟩
  f10 := ⟨Tryd.f76.name, by decide, Tryd.func76.trans (congrArg some (by kernel_rfl))⟩
  t0 := Tryd.underlying0
  a0 := Tryd.isAgg0
  z0 := Tryd.sizeOf0
  v0 := Tryd.zeroValue0
  t4 := Tryd.underlying4
  a4 := Tryd.isAgg4
  z4 := Tryd.sizeOf4
  v4 := Tryd.zeroValue4
  t23 := Tryd.underlying96
  a23 := Tryd.isAgg96
  z23 := Tryd.sizeOf96
  v23 := Tryd.zeroValue96
  t26 := Tryd.underlying9
  a26 := Tryd.isAgg9
  z26 := Tryd.sizeOf9
  v26 := Tryd.zeroValue9
  t27 := Tryd.underlying99
  a27 := Tryd.isAgg99
  z27 := Tryd.sizeOf99
  v27 := Tryd.zeroValue99
  t28 := Tryd.underlying100
  a28 := Tryd.isAgg100
  z28 := Tryd.sizeOf100
  v28 := Tryd.zeroValue100
  t33 := Tryd.underlying26
  a33 := Tryd.isAgg26
  z33 := Tryd.sizeOf26
  v33 := Tryd.zeroValue26 }
def Tryd.sorted56_ren : Go.Shelf.Ren := ⟨fun | 6 => 56 | 8 => 74 | 9 => 75 | 11 => 85 | 13 => 87 | 12 => 86 | 23 => 99 | 24 => 100 | 14 => 90 | 15 => 91 | 16 => 92 | 17 => 93 | 18 => 94 | 19 => 95 | 20 => 96 | 21 => 97 | 22 => 98 | 25 => 102 | 26 => 103 | 27 => 104 | 28 => 105 | 29 => 106 | 30 => 107 | 31 => 108 | n => n, fun | 26 => 9 | 28 => 100 | 24 => 23 | 0 => 0 | 3 => 3 | 37 => 132 | 48 => 153 | 50 => 155 | 4 => 4 | 40 => 147 | 39 => 146 | 45 => 119 | 5 => 5 | 9 => 9 | 51 => 157 | 55 => 161 | 57 => 163 | 58 => 164 | 33 => 26 | n => n, fun | n => n⟩
theorem Tryd.sorted56 : Go.Proofs.SlLaysZ.n6 Tryd.prog Tryd.sorted56_ren := {
  mixed := by kernel_rfl
  f6 := ⟨Tryd.f56.name, by decide, Tryd.func56.trans (congrArg some (by kernel_rfl))⟩
  f8 := ⟨Tryd.f74.name, by decide, Tryd.func74.trans (congrArg some (by kernel_rfl))⟩
  f11 := ⟨Tryd.f85.name, by decide, Tryd.func85.trans (congrArg some (by kernel_rfl))⟩
  t0 := Tryd.underlying0
  a0 := Tryd.isAgg0
  z0 := Tryd.sizeOf0
  v0 := Tryd.zeroValue0
  t24 := Tryd.underlying23
  a24 := Tryd.isAgg23
  z24 := Tryd.sizeOf23
  v24 := Tryd.zeroValue23
  t26 := Tryd.underlying9
  a26 := Tryd.isAgg9
  z26 := Tryd.sizeOf9
  v26 := Tryd.zeroValue9
  t28 := Tryd.underlying100
  a28 := Tryd.isAgg100
  z28 := Tryd.sizeOf100
  v28 := Tryd.zeroValue100
  i26 := by kernel_rfl }
def Tryd.sort75_ren : Go.Shelf.Ren := ⟨fun | 6 => 75 | 8 => 87 | 9 => 86 | 19 => 99 | 20 => 100 | 21 => 90 | 22 => 91 | 23 => 92 | 24 => 93 | 25 => 94 | 26 => 95 | 27 => 96 | 28 => 97 | 29 => 98 | 36 => 102 | 31 => 103 | 32 => 104 | 37 => 105 | 38 => 106 | 39 => 107 | 41 => 108 | n => n, fun | 27 => 23 | 29 => 9 | 3 => 3 | 32 => 132 | 26 => 23 | 0 => 0 | 44 => 153 | 46 => 155 | 4 => 4 | 36 => 147 | 35 => 146 | 41 => 119 | 5 => 5 | 9 => 9 | 53 => 157 | 57 => 161 | 63 => 163 | 64 => 164 | n => n, fun | n => n⟩
theorem Tryd.sort75 : Go.Proofs.SlLaysM.n6 Tryd.prog Tryd.sort75_ren := {
  mixed := by kernel_rfl
  f6 := ⟨Tryd.f75.name, by decide, Tryd.func75.trans (congrArg some (by kernel_rfl))⟩
  f8 := Tryd.func87.trans (congrArg some (by kernel_rfl))
  f9 := ⟨Tryd.f86.name, by decide, Tryd.func86.trans (congrArg some (by kernel_rfl))⟩
  f19 := Tryd.func99.trans (congrArg some (by kernel_rfl))
  f20 := Tryd.func100.trans (congrArg some (by kernel_rfl))
  f21 := ⟨Tryd.f90.name, by decide, Tryd.func90.trans (congrArg some (by kernel_rfl))⟩
  f22 := ⟨Tryd.f91.name, by decide, Tryd.func91.trans (congrArg some (by kernel_rfl))⟩
  f23 := ⟨Tryd.f92.name, by decide, Tryd.func92.trans (congrArg some (by kernel_rfl))⟩
  f24 := ⟨Tryd.f93.name, by decide, Tryd.func93.trans (congrArg some (by kernel_rfl))⟩
  f25 := ⟨Tryd.f94.name, by decide, Tryd.func94.trans (congrArg some (by kernel_rfl))⟩
  f26 := ⟨Tryd.f95.name, by decide, Tryd.func95.trans (congrArg some (by kernel_rfl))⟩
  f27 := ⟨Tryd.f96.name, by decide, Tryd.func96.trans (congrArg some (by kernel_rfl))⟩
  f28 := ⟨Tryd.f97.name, by decide, Tryd.func97.trans (congrArg some (by kernel_rfl))⟩
  f29 := ⟨Tryd.f98.name, by decide, Tryd.func98.trans (congrArg some (by kernel_rfl))⟩
  f31 := Tryd.func103.trans (congrArg some (by kernel_rfl))
  f32 := Tryd.func104.trans (congrArg some (by kernel_rfl))
  f36 := ⟨Tryd.f102.name, by decide, Tryd.func102.trans (congrArg some (by kernel_rfl))⟩
  f37 := ⟨Tryd.f105.name, by decide, Tryd.func105.trans (congrArg some (by kernel_rfl))⟩
  f38 := ⟨Tryd.f106.name, by decide, Tryd.func106.trans (congrArg some (by kernel_rfl))⟩
  f39 := ⟨Tryd.f107.name, by decide, Tryd.func107.trans (congrArg some (by kernel_rfl))⟩
  f41 := ⟨Tryd.f108.name, by decide, Tryd.func108.trans (congrArg some (by kernel_rfl))⟩
  t0 := Tryd.underlying0
  a0 := Tryd.isAgg0
  z0 := Tryd.sizeOf0
  v0 := Tryd.zeroValue0
  t3 := Tryd.underlying3
  a3 := Tryd.isAgg3
  z3 := Tryd.sizeOf3
  v3 := Tryd.zeroValue3
  t4 := Tryd.underlying4
  a4 := Tryd.isAgg4
  z4 := Tryd.sizeOf4
  v4 := Tryd.zeroValue4
  t5 := Tryd.underlying5
  a5 := Tryd.isAgg5
  z5 := Tryd.sizeOf5
  v5 := Tryd.zeroValue5
  t9 := Tryd.underlying9
  a9 := Tryd.isAgg9
  z9 := Tryd.sizeOf9
  v9 := Tryd.zeroValue9
  t26 := Tryd.underlying23
  a26 := Tryd.isAgg23
  z26 := Tryd.sizeOf23
  v26 := Tryd.zeroValue23
  t27 := Tryd.underlying23
  a27 := Tryd.isAgg23
  z27 := Tryd.sizeOf23
  v27 := Tryd.zeroValue23
  t29 := Tryd.underlying9
  a29 := Tryd.isAgg9
  z29 := Tryd.sizeOf9
  v29 := Tryd.zeroValue9
  t32 := Tryd.underlying132
  a32 := Tryd.isAgg132
  z32 := Tryd.sizeOf132
  v32 := Tryd.zeroValue132
  t35 := Tryd.underlying146
  a35 := Tryd.isAgg146
  z35 := Tryd.sizeOf146
  v35 := Tryd.zeroValue146
  t36 := Tryd.underlying147
  a36 := Tryd.isAgg147
  z36 := Tryd.sizeOf147
  v36 := Tryd.zeroValue147
  t41 := Tryd.underlying119
  a41 := Tryd.isAgg119
  z41 := Tryd.sizeOf119
  v41 := Tryd.zeroValue119
  t44 := Tryd.underlying153
  a44 := Tryd.isAgg153
  z44 := Tryd.sizeOf153
  v44 := Tryd.zeroValue153
  t46 := Tryd.underlying155
  a46 := Tryd.isAgg155
  z46 := Tryd.sizeOf155
  v46 := Tryd.zeroValue155
  t53 := Tryd.underlying157
  a53 := Tryd.isAgg157
  z53 := Tryd.sizeOf157
  v53 := Tryd.zeroValue157
  t57 := Tryd.underlying161
  a57 := Tryd.isAgg161
  z57 := Tryd.sizeOf161
  v57 := Tryd.zeroValue161
  t63 := Tryd.underlying163
  a63 := Tryd.isAgg163
  z63 := Tryd.sizeOf163
  v63 := Tryd.zeroValue163
  t64 := Tryd.underlying164
  a64 := Tryd.isAgg164
  z64 := Tryd.sizeOf164
  v64 := Tryd.zeroValue164 }
open Go.RowKit Go.Maps Go.Sort Go.Shelf

theorem Tryd.sorts56 (m : Nat) : AnyZ.SortsIn Tryd.prog Tryd.sorted56_ren Fence.wide m :=
  ⟨fun blk off cap ss W hH hblk hsz => callsIn_wide.2 (AnyM.slices_Sort_string Tryd.sort75 blk off cap ss W hH hblk hsz),
   fun p cap W => callsIn_wide.2 (AnyM.slices_Sort_string_none Tryd.sort75 p cap W)⟩

theorem Tryd.maps_Keys_57 (mb : Option Nat) (W : World) : CallsIn Fence.wide 5 Tryd.prog 57 #[.map mb] W fun e w' => e = .returned (.func (.func 76) #[] #[.pointer (some ⟨W.heap.size, 0, none⟩)]) ∧ w' = W.alloc (.cells #[.map mb] 96) :=
  AnyZ.keys_in Tryd.keys57 Fence.wide 5 trivial rfl mb W

set_option maxHeartbeats 1000000 in
theorem Tryd.slices_Sorted_keys_56_57 {H : Type} (b nn : Nat) (D0 : DataW H) (R : Value → Option (DataW H × List MemPlace)) (w : World) (hown : w.ownsMap Tryd.prog 9 R b nn D0) (hmax : Maps.size D0 ≤ maxLen) (hbytes : Maps.size D0 * 16 ≤ 140737488355328) :
    CallsIn Fence.wide 5 Tryd.prog 56 #[.func (.func 76) #[] #[.pointer (some ⟨w.heap.size, 0, none⟩)]] (w.alloc (.cells #[.map (some b)] 96)) fun e w' => ∃ (v : Value) (ss : List (List UInt8)), e = .returned v ∧ ss.Perm (strKeys D0) ∧
      w'.ownsRow (w.alloc (.cells #[.map (some b)] 96)).heap.size 9 1 v ss.length ((ss.mergeSort (fun x y => decide (x ≤ y))).map encStr) ∧ (v = .slice none 0 0 ↔ ss = []) ∧ Below (w.alloc (.cells #[.map (some b)] 96)).heap.size (w.alloc (.cells #[.map (some b)] 96)) w' := by
  have hbl := hown.lt
  have hseq : SeqGives Fence.wide 2 Tryd.prog 76 #[.pointer (some ⟨w.heap.size, 0, none⟩)] encStr (fun ss => ss.Perm (strKeys D0)) (Maps.size D0) (w.alloc (.cells #[.map (some b)] 96)) :=
    AnyZ.keys_gives (ρ := Tryd.keys57_ren) { Tryd.keys57 with } Fence.wide _ trivial rfl (by omega) w.heap.size b nn D0 _ (by simp) (by simp) (by
      obtain ⟨es, clock, hb, Ft, hs, hD⟩ := hown
      exact ⟨es, clock, (Below.heap_alloc _ _ b hbl).trans hb, Ft, hs, hD⟩)
  exact AnyZ.sorted_in Tryd.sorted56 Fence.wide 5 trivial trivial trivial trivial rfl (by omega) (Tryd.sorts56 _) (enters_of Tryd.func75 (by kernel_rfl) rfl) 76 #[.pointer (some ⟨w.heap.size, 0, none⟩)] trivial (enters_of Tryd.func76 (by kernel_rfl) rfl) _ _ hmax hbytes _ hseq

set_option maxHeartbeats 1000000 in
theorem Tryd.slices_Sorted_keys_nil_56_57 (w : World) :
    CallsIn Fence.wide 5 Tryd.prog 56 #[.func (.func 76) #[] #[.pointer (some ⟨w.heap.size, 0, none⟩)]] (w.alloc (.cells #[.map none] 96)) fun e w' => ∃ (v : Value) (ss : List (List UInt8)), e = .returned v ∧ ss = [] ∧
      w'.ownsRow (w.alloc (.cells #[.map none] 96)).heap.size 9 1 v ss.length ((ss.mergeSort (fun x y => decide (x ≤ y))).map encStr) ∧ (v = .slice none 0 0 ↔ ss = []) ∧ Below (w.alloc (.cells #[.map none] 96)).heap.size (w.alloc (.cells #[.map none] 96)) w' := by
  have hseq : SeqGives Fence.wide 2 Tryd.prog 76 #[.pointer (some ⟨w.heap.size, 0, none⟩)] encStr (fun ss : List (List UInt8) => ss = []) 0 (w.alloc (.cells #[.map none] 96)) :=
    AnyZ.keys_gives_nil (ρ := Tryd.keys57_ren) { Tryd.keys57 with } Fence.wide _ trivial rfl w.heap.size _ (by simp) (by simp)
  exact AnyZ.sorted_in Tryd.sorted56 Fence.wide 5 trivial trivial trivial trivial rfl (by omega) (Tryd.sorts56 _) (enters_of Tryd.func75 (by kernel_rfl) rfl) 76 #[.pointer (some ⟨w.heap.size, 0, none⟩)] trivial (enters_of Tryd.func76 (by kernel_rfl) rfl) _ 0 (Nat.zero_le _) (by omega) _ hseq

end Go.Proofs
