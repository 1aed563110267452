/- Texts of the proof, joined: Lit, Sets, OldA, HeadP. -/
import Derived.Test.YtklkgddldndmmaaDoorM03
import Derived.Deep.RegionLaw
import Derived.Maps.Own
import Derived.Sort.KeysCollected
/- 'append([]byte{}, x...)' as a step of a region that draws its order, and what a part's Write makes of it. -/
namespace Go.Proofs.YtklkgddldndmmaaDoor
open Go.RowKit
set_option linter.unusedVariables false
set_option linter.unusedSimpArgs false

/-- Behind the literal '[]byte{}' made in w, whatever was drawn. -/
structure LitAfter (w W : World) : Prop where
  below : Below w.heap.size w W
  own : W.ownsRow w.heap.size 5 1 (.slice (some ⟨w.heap.size, 0, none⟩) 0 0) 0 []
theorem LitAfter.drew {w W : World} (h : LitAfter w W) : LitAfter w W.drew := ⟨h.below.drew, h.own⟩
theorem LitAfter.row (w : World) : LitAfter w (w.alloc (.cells #[] 5)) :=
  ⟨(Below.refl _ w).alloc (Nat.le_refl _) _, World.ownsRow_lit (base := w.heap.size) (e := 5) (size := 1) w #[] 0 (Nat.le_refl _) (by decide) rfl⟩

/-- Behind the append: a row of its own that reads as l. -/
structure AppAfter (w W : World) (A : Option Addr) (l : List UInt8) : Prop where
  below : Below w.heap.size w W
  own : ∃ g, A = some ⟨g, 0, none⟩ ∧ w.heap.size ≤ g ∧ (∃ c fz, W.heap[g]? = some (.cells c 5 fz)) ∧ ∀ j u, (Lib.byteCells l)[j]? = some u → W.cell? ⟨g, 0 + j, none⟩ = some u
theorem AppAfter.drew {w W : World} {A : Option Addr} {l : List UInt8} (h : AppAfter w W A l) : AppAfter w W.drew A l := ⟨h.below.drew, h.own⟩
theorem AppAfter.src {w W : World} {A : Option Addr} {l : List UInt8} {n bb : Nat} (h : AppAfter w W A l) (hl : l.length = n) (hbb : bb < w.heap.size) : Src W bb A n l := by
  obtain ⟨g, rfl, hg, _, hc⟩ := h.own
  exact ⟨hl, _, rfl, by show g ≠ bb; omega, fun j u hu => by rw [Addr.add_lit]; exact hc j u hu⟩

theorem info5' : ∃ i, Tryd.prog.info? 5 = some i ∧ i.zero = some (.int .u8 0) ∧ i.size = 1 ∧ i.bytes = 1 := by
  obtain ⟨i0, hi, hz0, hz1, hz2⟩ := info_parts info5
  exact ⟨i0, hi, hz0, hz1, hz2⟩

theorem wp_append_lit {o : Oper} {a : Act} {K : Act → World → Prop} {Q : Exit → Act → World → Prop} (w W : World) (s x : Operand) (ho : o.op = .call { callee := .builtin .append, args := #[s, x], argTypes := #[31, 31] })
    (hL : LitAfter w W) (hs : a.eval s = .slice (some ⟨w.heap.size, 0, none⟩) 0 0) (B : Nat) (A : Option Addr) (m c : Nat) (l : List UInt8) (hx : a.eval x = .slice A m c) (hr : RdB w B A m l) (hB : B ≤ w.heap.size) (hm : m ≤ 140737488355328)
    (h : ∀ A' c' W', AppAfter w W' A' l → K (a.put o.dst (.slice A' m c')) W') : o.wp Tryd.prog a W K Q := by
  obtain ⟨i0, hi, hz0, hz1, hz2⟩ := info5'
  refine wp_append_any W s x 31 ho w.heap.size 5 i0 (.int .u8 0) 1 1 Tryd.underlying31 hi hz0 hz1 hz2 rfl (by decide) _ 0 [] hs hL.own w.heap.size A m c (Lib.byteCells l) hx ((hr.more hB).below hL.below) (bc_one l) (by unfold maxLen; omega) (by omega) hL.below.size ?_
  intro A' c' W' hown hgrow hlie
  rw [Nat.zero_add] at hown hlie ⊢
  refine h A' c' W' ⟨(hL.below.grown hgrow hL.below.size (fun j hj => (hL.own.lt j hj).1)), ?_⟩
  rw [List.nil_append] at hown
  rcases hown.2 with ⟨hv, _⟩ | ⟨g, cap, cur, hv, hg, hgb, _⟩
  · injection hv with h1 _ _
    subst h1
    rcases hlie with hh | hh <;> cases hh
  · injection hv with h1 _ _
    subst h1
    refine ⟨g, rfl, hg, ⟨_, _, hgb⟩, fun j u hu => ?_⟩
    have := hown.cells (g := g) rfl j u hu
    rwa [Addr.add_lit] at this

theorem step_append_lit {ops : Array Oper} {o : Oper} {a : Act} {K : Act → World → Prop} {Q : Exit → Act → World → Prop} {E : Prop} (w W : World) (hgd : o.guard = none) (s x : Operand) (ho : o.op = .call { callee := .builtin .append, args := #[s, x], argTypes := #[31, 31] })
    (hL : LitAfter w W) (hs : a.eval s = .slice (some ⟨w.heap.size, 0, none⟩) 0 0) (B : Nat) (A : Option Addr) (m c : Nat) (l : List UInt8) (hx : a.eval x = .slice A m c) (hr : RdB w B A m l) (hB : B ≤ w.heap.size) (hm : m ≤ 140737488355328)
    (h : ∀ A' c' W', AppAfter w W' A' l → K (a.put o.dst (.slice A' m c')) W') : if Region.wanted o (yielded ops a.tmps) = true then Oper.wp Tryd.prog o a W K Q else E := by
  rw [if_pos (by simp [Region.wanted, hgd])]
  exact wp_append_lit w W s x ho hL hs B A m c l hx hr hB hm h

theorem nil_ahead93 (a : Addr) (w : World) : (nilAhead 282 93 (.pointer (some a)) "Write").run Tryd.prog w = .ok (some false) w := by kernel_rfl
theorem method_write93 (a : Addr) (w : World) : (method 282 93 (.pointer (some a)) "Write").run Tryd.prog w = .ok (131, .pointer (some a)) w := by kernel_rfl

end Go.Proofs.YtklkgddldndmmaaDoor

/- The walk of impl.Sets. -/
namespace Go.Proofs.YtklkgddldndmmaaDoor
open Go.RowKit
set_option linter.unusedVariables false
set_option linter.unusedSimpArgs false

theorem info4 : (Tryd.prog.info? 4).map (fun i => (i.zero, i.size, i.bytes)) = some (some (.bool false), 1, 1) := by kernel_rfl
theorem info9 : (Tryd.prog.info? 9).map (fun i => (i.zero, i.size, i.bytes)) = some (some (.string ⟨#[]⟩), 1, 16) := by kernel_rfl

theorem own_block {w : World} {base : Nat} {e : TypeId} {size n : Nat} {v : Value} {xs : List Value} (h : w.ownsRow base e size v n xs) {g : Nat} (hg : v.ownBlock = some g) : ∃ cur, w.heap[g]? = some (.cells cur e (0, 0)) := by
  rcases h.2 with ⟨rfl, _⟩ | ⟨g', cap, cur, rfl, _, hb, _⟩
  · cases hg
  · obtain rfl : g' = g := by injection hg
    exact ⟨cur, hb⟩
theorem own_carry {w w' : World} {base : Nat} {e : TypeId} {size n : Nat} {v : Value} {xs : List Value} (h : w.ownsRow base e size v n xs) (hk : ∀ g, v.ownBlock = some g → w'.heap[g]? = w.heap[g]?) : w'.ownsRow base e size v n xs := by
  refine ⟨h.1, ?_⟩
  rcases h.2 with hn | ⟨g, cap, cur, rfl, hb, hg, rest⟩
  · exact .inl hn
  · exact .inr ⟨g, cap, cur, rfl, hb, (hk g rfl).trans hg, rest⟩
theorem own_slice {w : World} {base : Nat} {e : TypeId} {size n : Nat} {v : Value} {xs : List Value} (h : w.ownsRow base e size v n xs) : ∃ A c, v = .slice A n c := by
  rcases h.2 with ⟨rfl, rfl⟩ | ⟨g, cap, cur, rfl, _⟩
  · exact ⟨_, _, rfl⟩
  · exact ⟨_, _, rfl⟩

/-- SetBoundary, both ways, and what it leaves alone. -/
theorem set_both (b : Nat) (v0 : Value) (old s : ByteArray) (w : World) (hw : Wr w b v0 old none) :
    Calls Tryd.prog 29 #[.pointer (some ⟨b, 0, none⟩), .string s] w fun e w' =>
      (if boundB s.data.toList = true then e = .returned .nilIface else ∃ p, e = .returned (.iface 116 (.pointer (some p)))) ∧
      Wr w' b v0 (if boundB s.data.toList = true then s else old) none ∧ (∀ k, k < w.heap.size → k ≠ b → w'.heap[k]? = w.heap[k]?) ∧ Below b w w' := by
  have hlen : s.data.toList.length = s.size := by simp
  by_cases h : boundB s.data.toList = true
  · have h1 : 0 < s.size ∧ s.size ≤ 70 := by
      have h' := h
      unfold boundB at h'
      rw [hlen] at h'
      simp at h'
      omega
    refine (set_loop b v0 old s w hw h1.1 h1.2).mono ?_
    rintro e w' (⟨_, he, w1, hb, rfl⟩ | ⟨hB, _⟩)
    · rw [if_pos h, if_pos h]
      refine ⟨he, (hw.below hb hw.lt).set s, fun k hk hne => ?_, (hb.mono (Nat.le_of_lt hw.lt)).setCell (Nat.le_refl _) _⟩
      rw [← hb.block k hk]
      show (w1.heap.modify b _)[k]? = _
      rw [Array.getElem?_modify, if_neg (Ne.symm hne)]
    · rw [h] at hB; cases hB
  · refine (set_no b v0 old s w hw (by simpa using h)).mono ?_
    rintro e w' ⟨he, hb⟩
    rw [if_neg h, if_neg h]
    exact ⟨he, hw.below hb hw.lt, fun k hk _ => hb.block k hk, hb.mono (Nat.le_of_lt hw.lt)⟩

theorem name_any (b : Nat) (v0 : Value) (bd : ByteArray) (lp : Option Addr) (w : World) (hw : Wr w b v0 bd lp) :
    Calls Tryd.prog 30 #[.pointer (some ⟨b, 0, none⟩)] w fun e w' => e = .returned (.string bd) ∧ w = w' := by
  have c1 := hw.c1
  go_enter Tryd.func30, Tryd.ntmps30
  go_wp2
  go_ret
  exact ⟨rfl, rfl⟩

/-- The boundary behind a list of them. -/
def curB (ss : List ByteArray) : ByteArray := ss.foldl (fun old s => if boundB s.data.toList = true then s else old) ⟨#[]⟩
theorem curB_snoc (ss : List ByteArray) (s : ByteArray) : curB (ss ++ [s]) = if boundB s.data.toList = true then s else curB ss := by simp [curB]
theorem curB_size (ss : List ByteArray) : (curB ss).size ≤ 70 := by
  have : ∀ (ss : List ByteArray) (a : ByteArray), a.size ≤ 70 → (ss.foldl (fun old s => if boundB s.data.toList = true then s else old) a).size ≤ 70 := by
    intro ss
    induction ss with
    | nil => exact fun a h => h
    | cons s t ih =>
      intro a h
      refine ih _ ?_
      show (if boundB s.data.toList = true then s else a).size ≤ 70
      split
      · rename_i hb
        unfold boundB at hb
        simp at hb
        have : s.data.toList.length = s.size := by simp
        omega
      · exact h
  exact this ss _ (by decide)
def fineL (ss : List ByteArray) : List Value := ss.map fun s => .bool (boundB s.data.toList)
theorem fineL_snoc (ss : List ByteArray) (s : ByteArray) : fineL (ss ++ [s]) = fineL ss ++ [.bool (boundB s.data.toList)] := by simp [fineL]
def namesL (ss : List ByteArray) : List Value := (List.range ss.length).map fun i => .string (curB (ss.take (i + 1)))
theorem namesL_snoc (ss : List ByteArray) (s : ByteArray) : namesL (ss ++ [s]) = namesL ss ++ [.string (curB (ss ++ [s]))] := by
  unfold namesL
  rw [List.length_append, List.length_singleton, List.range_succ, List.map_append]
  congr 1
  · apply List.map_congr_left
    intro i hi
    rw [List.mem_range] at hi
    rw [List.take_append_of_le_length (by omega)]
  · have : (ss ++ [s]).take (ss.length + 1) = ss ++ [s] := List.take_of_length_le (by simp)
    simp only [List.map_cons, List.map_nil, this]
theorem take_snocB (ss : List ByteArray) (k : Nat) (h : k < ss.length) : ss.take (k + 1) = ss.take k ++ [ss[k]] := by
  rw [List.take_succ_eq_append_getElem h]

structure Inv (B bb b : Nat) (bd : ByteArray) (k kn : Nat) (fs ns : List Value) (vf vn : Value) (W0 w : World) : Prop where
  wr : Wr w b (.iface 55 (.pointer (some ⟨bb, 0, none⟩))) bd none
  buf : Buf w B bb []
  fine : w.ownsRow B 4 1 vf k fs
  names : w.ownsRow B 9 1 vn kn ns
  below : Below B W0 w
  base : B ≤ b
  room : B ≤ w.heap.size

section
variable {B bb b : Nat} {bd bd' : ByteArray} {k kn m : Nat} {fs fs' ns ns' : List Value} {vf vf' vn vn' : Value} {W0 w w' : World}
/-- Whatever keeps the rows and the two structs. -/
theorem Inv.keepAll (h : Inv B bb b bd k kn fs ns vf vn W0 w) (hk : ∀ (i : Nat) (c : Array Value) (e : TypeId) (fz : Nat × Nat), w.heap[i]? = some (Obj.cells c e fz) → e = 5 ∨ (fz = (0, 0) ∧ (e = 59 ∨ e = 4 ∨ e = 9)) → w'.heap[i]? = w.heap[i]?)
    (hw : Wr w' b (.iface 55 (.pointer (some ⟨bb, 0, none⟩))) bd' none) (hb : Below B w w') : Inv B bb b bd' k kn fs ns vf vn W0 w' := by
  refine ⟨hw, h.buf.carry fun i o hi ho => ?_, own_carry h.fine fun g hg => ?_, own_carry h.names fun g hg => ?_, h.below.trans hb, h.base, Nat.le_trans h.room hb.size⟩
  · rcases ho with rfl | ⟨c, fz, rfl⟩
    · obtain ⟨v, lr, hbk⟩ := h.buf.block
      rw [hk _ _ _ _ hbk (.inr ⟨rfl, .inl rfl⟩), hi]
    · rw [hk _ _ _ _ hi (.inl rfl), hi]
  · obtain ⟨c, hc⟩ := own_block h.fine hg
    exact hk _ _ _ _ hc (.inr ⟨rfl, .inr (.inl rfl)⟩)
  · obtain ⟨c, hc⟩ := own_block h.names hg
    exact hk _ _ _ _ hc (.inr ⟨rfl, .inr (.inr rfl)⟩)
theorem Inv.keep (h : Inv B bb b bd k kn fs ns vf vn W0 w) (hw : Wr w' b (.iface 55 (.pointer (some ⟨bb, 0, none⟩))) bd' none)
    (hk : ∀ i, i < w.heap.size → i ≠ b → w'.heap[i]? = w.heap[i]?) (hb : Below B w w') : Inv B bb b bd' k kn fs ns vf vn W0 w' := by
  refine h.keepAll (fun i c e fz hi he => hk i (Array.getElem?_eq_some_iff.1 hi).1 ?_) hw hb
  rintro rfl
  have := h.wr
  unfold Wr at this
  rw [this] at hi
  injection hi with hi
  injection hi with _ hi
  subst hi
  rcases he with he | ⟨_, he | he | he⟩ <;> cases he
theorem Inv.alloc (h : Inv B bb b bd k kn fs ns vf vn W0 w) (o : Obj) : Inv B bb b bd k kn fs ns vf vn W0 (w.alloc o) := by
  have hal := (Below.refl w.heap.size w).alloc (Nat.le_refl _) o
  exact h.keep (h.wr.below hal h.wr.lt) (fun i hi _ => hal.block i hi) (hal.mono h.room)
theorem Inv.addFine (h : Inv B bb b bd k kn fs ns vf vn W0 w) (hg : w.grownBy w' vf.ownBlock) (hown : w'.ownsRow B 4 1 vf' m fs') : Inv B bb b bd m kn fs' ns vf' vn W0 w' := by
  have hne : ∀ (i : Nat) (c : Array Value) (e : TypeId) (fz : Nat × Nat), w.heap[i]? = some (Obj.cells c e fz) → e ≠ 4 → w'.heap[i]? = w.heap[i]? := by
    intro i c e fz hi he
    refine hg.block i (Array.getElem?_eq_some_iff.1 hi).1 fun hx => ?_
    obtain ⟨c', hc⟩ := own_block h.fine hx.symm
    rw [hc] at hi
    injection hi with hi
    injection hi with _ hi
    exact he hi.symm
  have hb := (Below.refl B w).grown hg h.room (fun j hj => (h.fine.lt j hj).1)
  refine ⟨(hne _ _ _ _ h.wr (by decide)).trans h.wr, h.buf.carry fun i o hi ho => ?_, hown, own_carry h.names fun g hg => ?_, h.below.trans hb, h.base, Nat.le_trans h.room hb.size⟩
  · rcases ho with rfl | ⟨c, fz, rfl⟩
    · obtain ⟨v, lr, hbk⟩ := h.buf.block
      rw [hne _ _ _ _ hbk (by decide), hi]
    · rw [hne _ _ _ _ hi (by decide), hi]
  · obtain ⟨c, hc⟩ := own_block h.names hg
    exact hne _ _ _ _ hc (by decide)
theorem Inv.addName (h : Inv B bb b bd k kn fs ns vf vn W0 w) (hg : w.grownBy w' vn.ownBlock) (hown : w'.ownsRow B 9 1 vn' m ns') : Inv B bb b bd k m fs ns' vf vn' W0 w' := by
  have hne : ∀ (i : Nat) (c : Array Value) (e : TypeId) (fz : Nat × Nat), w.heap[i]? = some (Obj.cells c e fz) → e ≠ 9 → w'.heap[i]? = w.heap[i]? := by
    intro i c e fz hi he
    refine hg.block i (Array.getElem?_eq_some_iff.1 hi).1 fun hx => ?_
    obtain ⟨c', hc⟩ := own_block h.names hx.symm
    rw [hc] at hi
    injection hi with hi
    injection hi with _ hi
    exact he hi.symm
  have hb := (Below.refl B w).grown hg h.room (fun j hj => (h.names.lt j hj).1)
  refine ⟨(hne _ _ _ _ h.wr (by decide)).trans h.wr, h.buf.carry fun i o hi ho => ?_, own_carry h.fine fun g hg => ?_, hown, h.below.trans hb, h.base, Nat.le_trans h.room hb.size⟩
  · rcases ho with rfl | ⟨c, fz, rfl⟩
    · obtain ⟨v, lr, hbk⟩ := h.buf.block
      rw [hne _ _ _ _ hbk (by decide), hi]
    · rw [hne _ _ _ _ hi (by decide), hi]
  · obtain ⟨c, hc⟩ := own_block h.fine hg
    exact hne _ _ _ _ hc (by decide)
end

set_option maxRecDepth 20000 in
set_option maxHeartbeats 1000000 in
theorem sets_any (A : Option Addr) (c : Nat) (ss : List ByteArray) (W0 : World) (hn : ss.length ≤ 65536) (hr : Rd W0 W0.heap.size 1 A ss.length (ss.map Value.string)) :
    Calls Tryd.prog 10 #[.slice A ss.length c] W0 fun e w' => ∃ vf vn, e = .returned (.tuple #[vf, vn, .bool false]) ∧ w'.ownsRow W0.heap.size 4 1 vf ss.length (fineL ss) ∧ w'.ownsRow W0.heap.size 9 1 vn ss.length (namesL ss) ∧ Below W0.heap.size W0 w' := by
  obtain ⟨i4, hi4, ha0, ha1, ha2⟩ := info_parts info4
  obtain ⟨i9, hi9, hb0, hb1, hb2⟩ := info_parts info9
  have HR := Lib.hid hr
  clear hr
  go_enter Tryd.func10, Tryd.ntmps10
  go_wp2_with fail
  refine (writer_any _ _).mono ?_
  rintro e w1 ⟨rfl, rfl⟩
  go_wp2_with fail
  obtain ⟨b, hb⟩ : ∃ b, b = W0.heap.size + 1 := ⟨_, rfl⟩
  have hI0 : Inv W0.heap.size W0.heap.size b ⟨#[]⟩ 0 0 [] [] (.slice none 0 0) (.slice none 0 0) W0 ((W0.alloc (.cells #[.slice none 0 0, .int .i64 0, .int .i8 0] 59)).alloc (.cells #[.iface 55 (.pointer (some ⟨W0.heap.size, 0, none⟩)), .string ⟨#[]⟩, .pointer none] 95 (0, 0))) := by
    refine ⟨?_, (Lib.fresh_isBuffer 59 5 W0).alloc _, World.ownsRow_nil _ _ _ _, World.ownsRow_nil _ _ _ _, ((Below.refl W0.heap.size W0).alloc (Nat.le_refl _) _).alloc (by simp) _, by omega, by simp; omega⟩
    unfold Wr
    have hn := heap_alloc_new (W0.alloc (.cells #[.slice none 0 0, .int .i64 0, .int .i8 0] 59)) (.cells #[.iface 55 (.pointer (some ⟨W0.heap.size, 0, none⟩)), .string ⟨#[]⟩, .pointer none] 95 (0, 0))
    rw [show (W0.alloc (.cells #[.slice none 0 0, .int .i64 0, .int .i8 0] 59)).heap.size = b by rw [hb]; simp] at hn
    exact hn
  rw [← hb]
  have HBe := Lib.hid hb
  clear hb
  go_loopw [6, 7, 17] (fun vf vn i w => ∃ k : Nat, k ≤ ss.length ∧ i = .int .i64 k ∧ Hid (Inv W0.heap.size W0.heap.size b (curB (ss.take k)) k k (fineL (ss.take k)) (namesL (ss.take k)) vf vn W0 w)) (fun _ _ i _ => ss.length - (intOf i).toNat)
  case atStart => exact ⟨0, Nat.zero_le _, rfl, hI0⟩
  case round =>
    obtain ⟨k, hk, rfl, HI⟩ := hrel
    by_cases hlt : k < ss.length
    · obtain ⟨b', o', rfl, hb', hcell⟩ := HR.out.2 (by omega)
      have ck : wr.cell? ⟨b', o' + k, none⟩ = some (.string ss[k]) := (HI.out.below.cell (p := ⟨b', o' + k, none⟩) hb').trans (hcell k _ (by simp [hlt]))
      obtain ⟨ok, hok⟩ : ∃ ok, boundB ss[k].data.toList = ok := ⟨_, rfl⟩
      have HS := Lib.hid (set_both b _ _ ss[k] wr HI.out.wr)
      rw [hok] at HS
      have hT1 := take_snocB ss k hlt
      have HC : Hid (curB (ss.take (k + 1)) = if ok = true then ss[k] else curB (ss.take k)) := by show _ = _; rw [hT1, curB_snoc, hok]
      have HFl : Hid (fineL (ss.take (k + 1)) = fineL (ss.take k) ++ [.bool ok]) := by show _ = _; rw [hT1, fineL_snoc, hok]
      have HNl : Hid (namesL (ss.take (k + 1)) = namesL (ss.take k) ++ [.string (if ok = true then ss[k] else curB (ss.take k))]) := by show _ = _; rw [hT1, namesL_snoc, curB_snoc, hok]
      obtain ⟨s, hs⟩ : ∃ s, ss[k] = s := ⟨_, rfl⟩
      rw [hs] at ck HS HC HNl
      obtain ⟨old, ho⟩ : ∃ x, curB (ss.take k) = x := ⟨_, rfl⟩
      obtain ⟨cur, hcur⟩ : ∃ x, (if ok = true then s else old) = x := ⟨_, rfl⟩
      rw [ho] at HS HC HNl HI
      rw [hcur] at HS HC HNl
      obtain ⟨fs, hfs⟩ : ∃ x, fineL (ss.take k) = x := ⟨_, rfl⟩
      obtain ⟨ns, hns⟩ : ∃ x, namesL (ss.take k) = x := ⟨_, rfl⟩
      rw [hfs] at HI HFl
      rw [hns] at HI HNl
      clear hT1 hok hs ho hcur hfs hns hcell hb'
      have HTail : ∀ w1, Wr w1 b (.iface 55 (.pointer (some ⟨W0.heap.size, 0, none⟩))) cur none → (∀ i, i < wr.heap.size → i ≠ b → w1.heap[i]? = wr.heap[i]?) → Below b wr w1 → Inv W0.heap.size W0.heap.size b cur k k fs ns u6 u7 W0 w1 :=
        fun w1 h1 h2 h3 => HI.out.keep h1 h2 (h3.mono HI.out.base)
      have HTail := Lib.hid HTail
      cases ok
      · go_wp2_with fail
        refine HS.out.mono ?_
        rintro e w1 ⟨he, hw1, hk1, hc1⟩
        rw [if_neg (by decide)] at he
        obtain ⟨q, rfl⟩ := he
        have HI1 := Lib.hid (HTail.out w1 hw1 hk1 hc1)
        clear hw1 hk1 hc1 HTail HS ck HI
        go_wp2_with (first
          | (at_builtin; refine wpList_append_any _ rfl (.tmp 21) (.tmp 26) 22 rfl W0.heap.size 4 i4 (.bool false) 1 1 Tryd.underlying22 hi4 ha0 ha1 ha2 rfl (by decide) u6 k fs rfl (HI1.out.alloc _).fine (w1.heap.size + 1) (some ⟨w1.heap.size, 0, none⟩) 1 1 [.bool false] rfl (by have h := Rd.of_own (World.ownsRow_lit (base := w1.heap.size) (e := 4) (size := 1) w1 #[.bool false] 1 (Nat.le_refl _) (by decide) rfl); simpa using h) (by intro u hu; rw [List.mem_singleton.1 hu]; rfl) (by unfold maxLen; omega) (by omega) (HI1.out.alloc _).room ?_; intro A2 c2 w2 hown2 hgrow2 hlie2))
        have HI2 := Lib.hid ((HI1.out.alloc _).addFine hgrow2 hown2)
        clear HI1 hown2 hgrow2 hlie2
        refine (name_any b _ cur none w2 HI2.out.wr).mono ?_
        rintro e w3 ⟨rfl, rfl⟩
        go_wp2_with (first
          | (at_builtin; refine wpList_append_any _ rfl (.tmp 28) (.tmp 31) 23 rfl W0.heap.size 9 i9 (.string ⟨#[]⟩) 1 16 Tryd.underlying23 hi9 hb0 hb1 hb2 rfl (by decide) u7 k ns rfl (HI2.out.alloc _).names (w2.heap.size + 1) (some ⟨w2.heap.size, 0, none⟩) 1 1 [.string cur] rfl (by have h := Rd.of_own (World.ownsRow_lit (base := w2.heap.size) (e := 9) (size := 1) w2 #[.string cur] 1 (Nat.le_refl _) (by decide) rfl); simpa using h) (by intro u hu; rw [List.mem_singleton.1 hu]; rfl) (by unfold maxLen; omega) (by omega) (HI2.out.alloc _).room ?_; intro A4 c4 w4 hown4 hgrow4 hlie4))
        have HI4 := Lib.hid ((HI2.out.alloc _).addName hgrow4 hown4)
        clear HI2 hown4 hgrow4 hlie4
        go_roundw
        case rel =>
          refine ⟨k + 1, by omega, by go_num, ?_⟩
          show Inv _ _ _ _ _ _ _ _ _ _ _ _
          rw [HC.out, HFl.out, HNl.out]
          exact HI4.out
        case measure => simp [intOf]; omega
      · go_wp2_with fail
        refine HS.out.mono ?_
        rintro e w1 ⟨he, hw1, hk1, hc1⟩
        rw [if_pos trivial] at he
        subst he
        have HI1 := Lib.hid (HTail.out w1 hw1 hk1 hc1)
        clear hw1 hk1 hc1 HTail HS ck HI
        go_wp2_with (first
          | (at_builtin; refine wpList_append_any _ rfl (.tmp 21) (.tmp 26) 22 rfl W0.heap.size 4 i4 (.bool false) 1 1 Tryd.underlying22 hi4 ha0 ha1 ha2 rfl (by decide) u6 k fs rfl (HI1.out.alloc _).fine (w1.heap.size + 1) (some ⟨w1.heap.size, 0, none⟩) 1 1 [.bool true] rfl (by have h := Rd.of_own (World.ownsRow_lit (base := w1.heap.size) (e := 4) (size := 1) w1 #[.bool true] 1 (Nat.le_refl _) (by decide) rfl); simpa using h) (by intro u hu; rw [List.mem_singleton.1 hu]; rfl) (by unfold maxLen; omega) (by omega) (HI1.out.alloc _).room ?_; intro A2 c2 w2 hown2 hgrow2 hlie2))
        have HI2 := Lib.hid ((HI1.out.alloc _).addFine hgrow2 hown2)
        clear HI1 hown2 hgrow2 hlie2
        refine (name_any b _ cur none w2 HI2.out.wr).mono ?_
        rintro e w3 ⟨rfl, rfl⟩
        go_wp2_with (first
          | (at_builtin; refine wpList_append_any _ rfl (.tmp 28) (.tmp 31) 23 rfl W0.heap.size 9 i9 (.string ⟨#[]⟩) 1 16 Tryd.underlying23 hi9 hb0 hb1 hb2 rfl (by decide) u7 k ns rfl (HI2.out.alloc _).names (w2.heap.size + 1) (some ⟨w2.heap.size, 0, none⟩) 1 1 [.string cur] rfl (by have h := Rd.of_own (World.ownsRow_lit (base := w2.heap.size) (e := 9) (size := 1) w2 #[.string cur] 1 (Nat.le_refl _) (by decide) rfl); simpa using h) (by intro u hu; rw [List.mem_singleton.1 hu]; rfl) (by unfold maxLen; omega) (by omega) (HI2.out.alloc _).room ?_; intro A4 c4 w4 hown4 hgrow4 hlie4))
        have HI4 := Lib.hid ((HI2.out.alloc _).addName hgrow4 hown4)
        clear HI2 hown4 hgrow4 hlie4
        go_roundw
        case rel =>
          refine ⟨k + 1, by omega, by go_num, ?_⟩
          show Inv _ _ _ _ _ _ _ _ _ _ _ _
          rw [HC.out, HFl.out, HNl.out]
          exact HI4.out
        case measure => simp [intOf]; omega
    · have hkn : k = ss.length := by omega
      subst hkn
      rw [List.take_length] at HI
      have hnx : ¬ ((ss.length : Int) < (ss.length : Int)) := by omega
      go_wp2_with fail
      refine (create_first W0.heap.size W0.heap.size b (curB ss) [] wr HI.out.buf HI.out.wr HI.out.base HI.out.room (by have := curB_size ss; omega) (by simp)).mono ?_
      rintro e w2 ⟨p', rfl, M, K⟩
      have hf : w2.ownsRow W0.heap.size 4 1 u6 ss.length (fineL ss) := own_carry HI.out.fine fun g hg => by
        obtain ⟨c', hc⟩ := own_block HI.out.fine hg
        rw [hc]
        refine K g _ hc ?_ (fun c fz e => by injection e with _ e; cases e)
        rintro (rfl | rfl)
        · obtain ⟨v, lr, hbk⟩ := HI.out.buf.block
          rw [hc] at hbk
          injection hbk with hbk
          injection hbk with _ hbk
          cases hbk
        · have := HI.out.wr
          unfold Wr at this
          rw [hc] at this
          injection this with this
          injection this with _ this
          cases this
      have hnm : w2.ownsRow W0.heap.size 9 1 u7 ss.length (namesL ss) := own_carry HI.out.names fun g hg => by
        obtain ⟨c', hc⟩ := own_block HI.out.names hg
        rw [hc]
        refine K g _ hc ?_ (fun c fz e => by injection e with _ e; cases e)
        rintro (rfl | rfl)
        · obtain ⟨v, lr, hbk⟩ := HI.out.buf.block
          rw [hc] at hbk
          injection hbk with hbk
          injection hbk with _ hbk
          cases hbk
        · have := HI.out.wr
          unfold Wr at this
          rw [hc] at this
          injection this with this
          injection this with _ this
          cases this
      have hwr := M.wr
      have hbl : Below W0.heap.size W0 w2 := HI.out.below.trans M.below
      clear M K HI hI0 hnx
      by_cases h0 : ss.length = 0
      · have hpos : ¬ ((0 : Int) < (ss.length : Int)) := by omega
        go_wp2_with fail
        go_ret3
        exact ⟨_, _, rfl, hf, hnm, hbl⟩
      · have hpos : (0 : Int) < (ss.length : Int) := by omega
        have hix : (ss.length : Int) - 1 < (ss.length : Int) := by omega
        obtain ⟨b', o', rfl, hb', hcell⟩ := HR.out.2 (by omega)
        have ck : w2.cell? ⟨b', o' + (ss.length - 1), none⟩ = some (.string (ss[ss.length - 1]'(by omega))) := (hbl.cell (p := ⟨b', o' + (ss.length - 1), none⟩) hb').trans (hcell _ _ (by simp))
        have HSL := Lib.hid (set_late b _ _ (ss[ss.length - 1]'(by omega)) ⟨p', 0, none⟩ w2 hwr)
        obtain ⟨t, ht⟩ : ∃ t, ss[ss.length - 1]'(by omega) = t := ⟨_, rfl⟩
        rw [ht] at ck HSL
        clear hcell hb' ht HR hwr
        go_wp2_with fail
        refine HSL.out.mono ?_
        rintro e w3 ⟨⟨q, rfl⟩, hb3⟩
        have hk3 : ∀ (v : Value) (e : TypeId) (xs : List Value) (n : Nat), w2.ownsRow W0.heap.size e 1 v n xs → w3.ownsRow W0.heap.size e 1 v n xs := fun v e xs n h => own_carry h fun g hg => by
          obtain ⟨c', hc⟩ := own_block h hg
          exact hb3.block g (Array.getElem?_eq_some_iff.1 hc).1
        have hf3 := hk3 _ _ _ _ hf
        have hnm3 := hk3 _ _ _ _ hnm
        have hbl3 := hbl.trans (hb3.mono hbl.size)
        clear hk3 hf hnm ck hbl hb3
        go_wp2
        go_ret3
        exact ⟨_, _, rfl, hf3, hnm3, hbl3⟩

end Go.Proofs.YtklkgddldndmmaaDoor

/- Small walks for impl.Old and its kin. -/
namespace Go.Proofs.YtklkgddldndmmaaDoor
open Go.RowKit
set_option linter.unusedVariables false
set_option linter.unusedSimpArgs false

/-- A part's Write, behind an append in a world w. -/
theorem partWrite_app (B bb b p : Nat) (bd : ByteArray) (lp : Option Addr) (o l : List UInt8) (n : Nat) (w : World) (ho : Buf w B bb o) (hw : Wr w b (.iface 55 (.pointer (some ⟨bb, 0, none⟩))) bd lp) (hp : Pt w p b false) (hl : l.length = n)
    (hlim : o.length + n ≤ 140737488355328) (hBw : B ≤ w.heap.size) (W : World) (A : Option Addr) (c : Nat) (hA : AppAfter w W A l) :
    Calls Tryd.prog 131 #[.pointer (some ⟨p, 0, none⟩), .slice A n c] W fun e w' => e = .returned (.tuple #[.int .i64 n, .nilIface]) ∧ Buf w' B bb (o ++ l) ∧ Below B w w' ∧ Kept (fun k => k = bb) w w' :=
  (partWrite_any B bb b p bd lp o l A n c W (ho.old hA.below) (hw.below hA.below hw.lt) ((hA.below.block p hp.lt).trans hp) (hA.src hl ho.lt) hlim (Nat.le_trans hBw hA.below.size)).mono fun e w' ⟨he, h1, h2, h3⟩ =>
    ⟨he, h1, (hA.below.mono hBw).trans h2, (Kept.of_below hA.below).trans h3⟩

/-- A late Write of a part that is shut. -/
theorem partLate_app (b p : Nat) (n : Nat) (l : List UInt8) (w : World) (hp : Pt w p b true) (W : World) (A : Option Addr) (c : Nat) (hA : AppAfter w W A l) :
    Calls Tryd.prog 131 #[.pointer (some ⟨p, 0, none⟩), .slice A n c] W fun e w' => (∃ q, e = .returned (.tuple #[.int .i64 0, .iface 116 (.pointer (some q))])) ∧ Below w.heap.size w w' :=
  (partLate_any b p A n c W ((hA.below.block p hp.lt).trans hp)).mono fun e w' ⟨he, hb⟩ => ⟨he, hA.below.trans (hb.mono hA.below.size)⟩

theorem bytes_core (b g n cap : Nat) (lr : Value) (w : World) (hb : w.heap[b]? = some (.cells #[.slice (some ⟨g, 0, none⟩) n cap, .int .i64 0, lr] 59 (0, 0))) (hle : n ≤ cap) (hpos : 0 < n) (hcm : cap ≤ 9223372036854775807) :
    Calls Tryd.prog 38 #[.pointer (some ⟨b, 0, none⟩)] w fun e w' => e = .returned (.slice (some ⟨g, 0, none⟩) n cap) ∧ ∃ q, w' = w.drewN q := by
  have d0 : ∀ q, (w.drewN q).cell? ⟨b, 0, none⟩ = some (.slice (some ⟨g, 0, none⟩) n cap) := fun q => by
    show w.cell? _ = _
    rw [Lib.cell_of_heap hb]; rfl
  have d1 : ∀ q, (w.drewN q).cell? ⟨b, 1, none⟩ = some (.int .i64 0) := fun q => by
    show w.cell? _ = _
    rw [Lib.cell_of_heap hb]; rfl
  clear hb
  have hne : ¬ cap = 0 := by omega
  go_enter Tryd.func38, Tryd.ntmps38
  go_wp2_with fail
  go_quiet (fail)
  go_wp2
  go_ret
  exact ⟨rfl, _, rfl⟩
theorem bytes_any (B b : Nat) (l : List UInt8) (w : World) (h : Buf w B b l) (h0 : l ≠ []) :
    ∃ g c, (∀ n, Calls Tryd.prog 38 #[.pointer (some ⟨b, 0, none⟩)] (w.drewN n) fun e w' => e = .returned (.slice (some ⟨g, 0, none⟩) l.length c) ∧ ∃ q, w' = (w.drewN n).drewN q) ∧ RdB w w.heap.size (some ⟨g, 0, none⟩) l.length l := by
  obtain ⟨g, cap, lr, hb, _, _, hle, hcm, ⟨cur, hg⟩, hc⟩ := h.row h0
  unfold maxLen at hcm
  exact ⟨g, cap, fun n => bytes_core b g l.length cap _ (w.drewN n) hb hle (List.length_pos_iff.2 h0) (by omega), ⟨by rw [bc_len]; simp, fun _ => ⟨g, 0, rfl, (Array.getElem?_eq_some_iff.1 hg).1, hc⟩⟩⟩

/-- SetBoundary of a fine boundary, what is kept. -/
theorem set_ok (B bb b : Nat) (v0 : Value) (old s : ByteArray) (o : List UInt8) (w : World) (hw : Wr w b v0 old none) (ho : Buf w B bb o) (hBb : B ≤ b) (h : boundB s.data.toList = true) :
    Calls Tryd.prog 29 #[.pointer (some ⟨b, 0, none⟩), .string s] w fun e w' => e = .returned .nilIface ∧ Wr w' b v0 s none ∧ Buf w' B bb o ∧ Below B w w' := by
  refine (set_both b v0 old s w hw).mono ?_
  rintro e w' ⟨he, h1, h2, h3⟩
  rw [if_pos h] at he h1
  refine ⟨he, h1, ho.carry fun k x hk hx => ?_, h3.mono hBb⟩
  refine (h2 k (Array.getElem?_eq_some_iff.1 hk).1 ?_).trans hk
  rintro rfl
  unfold Wr at hw
  rcases hx with rfl | ⟨c, fz, rfl⟩
  · exact wr_ne_buf hw ho rfl
  · rw [hw] at hk
    injection hk with hk
    injection hk with _ hk
    cases hk

end Go.Proofs.YtklkgddldndmmaaDoor

/- Plain laws behind a header's map. No program in sight. -/
namespace Go.Proofs.YtklkgddldndmmaaDoor
open Go

theorem insert_last {H : Type} (x : Lit × DataW H) : ∀ es : List (Lit × DataW H), (∀ p ∈ es, x.1.before p.1 = false) → DataW.insert x es = es ++ [x]
  | [], _ => rfl
  | y :: r, h => by
    unfold DataW.insert
    rw [h y (List.mem_cons_self ..)]
    simp only [Bool.false_eq_true, if_false, List.cons_append]
    rw [insert_last x r fun p hp => h p (List.mem_cons_of_mem _ hp)]
theorem put_last {H : Type} (es : List (Lit × DataW H)) (k : Lit) (d : DataW H) (h1 : ∀ p ∈ es, p.1.sameKey k = false) (h2 : ∀ p ∈ es, k.before p.1 = false) : (DataW.map es).put k d = .map (es ++ [(k, d)]) := by
  show DataW.map (DataW.insert (k, d) (es.filter fun p => !p.1.sameKey k)) = _
  have hf : es.filter (fun p => !p.1.sameKey k) = es := List.filter_eq_self.2 fun p hp => by rw [h1 p hp]; rfl
  rw [hf, insert_last (k, d) es h2]

/-- A slice value written down as a datum. -/
def encS {H : Type} : Value → Option (DataW H × List MemPlace)
  | .slice none 0 0 => some (.nil, [])
  | .slice (some ⟨g, 0, none⟩) n c => some (.agg [.lit (.int .i64 g), .lit (.int .i64 n), .lit (.int .i64 c)], [])
  | _ => none
theorem encS_inj {H : Type} {v : Value} {g n c : Nat} {ps : List MemPlace} (h : encS (H := H) v = some (.agg [.lit (.int .i64 g), .lit (.int .i64 n), .lit (.int .i64 c)], ps)) : v = .slice (some ⟨g, 0, none⟩) n c := by
  unfold encS at h
  split at h
  · simp at h
  · simp at h
    obtain ⟨⟨h1, h2, h3⟩, _⟩ := h
    obtain rfl := Int.ofNat.inj h1
    obtain rfl := Int.ofNat.inj h2
    obtain rfl := Int.ofNat.inj h3
    rfl
  · simp at h
theorem encS_nil {H : Type} {v : Value} {ps : List MemPlace} (h : encS (H := H) v = some (.nil, ps)) : v = .slice none 0 0 := by
  unfold encS at h
  split at h
  · rfl
  · simp at h
  · simp at h

/-- A list that is a rearrangement of an ascending one, sorted: the ascending one. -/
theorem sorted_is {ss ks : List (List UInt8)} (hp : ss.Perm ks) (hs : ks.Pairwise (· ≤ ·)) : ss.mergeSort (fun x y => decide (x ≤ y)) = ks := by
  have h1 : (ss.mergeSort (fun x y => decide (x ≤ y))).Pairwise (fun x y => decide (x ≤ y) = true) :=
    List.pairwise_mergeSort (fun a b c h1 h2 => by simp at h1 h2 ⊢; exact List.le_trans h1 h2) (fun a b => by simp; exact List.le_total a b) ss
  have h2 := (List.mergeSort_perm ss (fun x y => decide (x ≤ y))).trans hp
  refine List.Perm.eq_of_pairwise (le := (· ≤ ·)) (fun a b _ _ hab hba => List.le_antisymm hab hba) (h1.imp fun h => by simpa using h) hs h2

theorem before_lt : ∀ {a b : List UInt8}, bytesBefore a b = true → a < b
  | [], [], h => by simp [bytesBefore] at h
  | [], _ :: _, _ => by simp
  | _ :: _, [], h => by simp [bytesBefore] at h
  | x :: r, y :: t, h => by
    simp only [bytesBefore, Bool.or_eq_true, Bool.and_eq_true, decide_eq_true_eq, beq_iff_eq] at h
    rw [List.cons_lt_cons_iff]
    rcases h with h | ⟨h1, h2⟩
    · exact .inl h
    · exact .inr ⟨h1, before_lt h2⟩
/-- A greater key stands behind, and is another one. -/
theorem key_last {a b : List UInt8} (h : a < b) : (Lit.string b).before (.string a) = false ∧ (Lit.string a).sameKey (.string b) = false := by
  constructor
  · cases h2 : bytesBefore b a with
    | false => exact h2
    | true => exact absurd (before_lt h2) (List.lt_asymm h)
  · show (a == b) = false
    rw [beq_eq_false_iff_ne]
    rintro rfl
    exact List.lt_irrefl _ h

/-- The entries of a header's map: each key with the row of its values (block, capacity). -/
def ents : List (ByteArray × List ByteArray) → List (Nat × Nat) → List (Lit × DataW Unit)
  | h :: hs, g :: gs => (.string h.1.data.toList, .agg [.lit (.int .i64 g.1), .lit (.int .i64 h.2.length), .lit (.int .i64 g.2)]) :: ents hs gs
  | _, _ => []
theorem ents_snoc : ∀ (hs : List (ByteArray × List ByteArray)) (gs : List (Nat × Nat)) (h : ByteArray × List ByteArray) (g : Nat × Nat), hs.length = gs.length →
    ents (hs ++ [h]) (gs ++ [g]) = ents hs gs ++ [(.string h.1.data.toList, .agg [.lit (.int .i64 g.1), .lit (.int .i64 h.2.length), .lit (.int .i64 g.2)])]
  | [], [], _, _, _ => rfl
  | x :: hs, y :: gs, h, g, hl => by
    simp only [List.cons_append, ents]
    rw [ents_snoc hs gs h g (by simpa using hl)]
  | [], _ :: _, _, _, hl => by simp at hl
  | _ :: _, [], _, _, hl => by simp at hl
theorem ents_mem : ∀ {hs : List (ByteArray × List ByteArray)} {gs : List (Nat × Nat)} {p : Lit × DataW Unit}, p ∈ ents hs gs → ∃ h ∈ hs, p.1 = .string h.1.data.toList
  | [], _, _, hp => by simp [ents] at hp
  | _ :: _, [], _, hp => by simp [ents] at hp
  | h :: hs, g :: gs, p, hp => by
    simp only [ents, List.mem_cons] at hp
    rcases hp with rfl | hp
    · exact ⟨h, List.mem_cons_self .., rfl⟩
    · obtain ⟨h', hm, e⟩ := ents_mem hp
      exact ⟨h', List.mem_cons_of_mem _ hm, e⟩
theorem ents_keys : ∀ (hs : List (ByteArray × List ByteArray)) (gs : List (Nat × Nat)), hs.length = gs.length → strKeys (.map (ents hs gs)) = hs.map fun h => h.1.data.toList
  | [], [], _ => rfl
  | h :: hs, g :: gs, hl => by
    have := ents_keys hs gs (by simpa using hl)
    simp only [ents, strKeys, List.map_cons] at this ⊢
    rw [this]
    rfl
  | [], _ :: _, hl => by simp at hl
  | _ :: _, [], hl => by simp at hl

end Go.Proofs.YtklkgddldndmmaaDoor
