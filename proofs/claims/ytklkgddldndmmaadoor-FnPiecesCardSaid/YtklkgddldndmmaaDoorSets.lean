/- The walk of impl.Sets. -/
import Derived.Test.YtklkgddldndmmaaDoorNilA
namespace Go.Proofs.YtklkgddldndmmaaDoor
open Go.RowKit
set_option linter.unusedVariables false
set_option linter.unusedSimpArgs false

theorem info4 : (Tryd.prog.info? 4).map (fun i => (i.zero, i.size, i.bytes)) = some (some (.bool false), 1, 1) := by kernel_rfl
theorem info9 : (Tryd.prog.info? 9).map (fun i => (i.zero, i.size, i.bytes)) = some (some (.string ⟨#[]⟩), 1, 16) := by kernel_rfl

theorem own_block {w : World} {base : Nat} {e : TypeId} {size n : Nat} {v : Value} {xs : List Value} (h : w.ownsRow base e size v n xs) {g : Nat} (hg : v.ownBlock = some g) : ∃ cur, w.heap[g]? = some (.cells cur e (0, 0)) := by
  rcases h.2 with ⟨rfl, _⟩ | ⟨g', cap, cur, rfl, _, hb, _⟩
  · cases hg
  · obtain rfl : g' = g := by injection hg
    exact ⟨cur, hb⟩
theorem own_carry {w w' : World} {base : Nat} {e : TypeId} {size n : Nat} {v : Value} {xs : List Value} (h : w.ownsRow base e size v n xs) (hk : ∀ g, v.ownBlock = some g → w'.heap[g]? = w.heap[g]?) : w'.ownsRow base e size v n xs := by
  refine ⟨h.1, ?_⟩
  rcases h.2 with hn | ⟨g, cap, cur, rfl, hb, hg, rest⟩
  · exact .inl hn
  · exact .inr ⟨g, cap, cur, rfl, hb, (hk g rfl).trans hg, rest⟩
theorem own_slice {w : World} {base : Nat} {e : TypeId} {size n : Nat} {v : Value} {xs : List Value} (h : w.ownsRow base e size v n xs) : ∃ A c, v = .slice A n c := by
  rcases h.2 with ⟨rfl, rfl⟩ | ⟨g, cap, cur, rfl, _⟩
  · exact ⟨_, _, rfl⟩
  · exact ⟨_, _, rfl⟩

/-- SetBoundary, both ways, and what it leaves alone. -/
theorem set_both (b : Nat) (v0 : Value) (old s : ByteArray) (w : World) (hw : Wr w b v0 old none) :
    Calls Tryd.prog 29 #[.pointer (some ⟨b, 0, none⟩), .string s] w fun e w' =>
      (if boundB s.data.toList = true then e = .returned .nilIface else ∃ p, e = .returned (.iface 116 (.pointer (some p)))) ∧
      Wr w' b v0 (if boundB s.data.toList = true then s else old) none ∧ (∀ k, k < w.heap.size → k ≠ b → w'.heap[k]? = w.heap[k]?) ∧ Below b w w' := by
  have hlen : s.data.toList.length = s.size := by simp
  by_cases h : boundB s.data.toList = true
  · have h1 : 0 < s.size ∧ s.size ≤ 70 := by
      have h' := h
      unfold boundB at h'
      rw [hlen] at h'
      simp at h'
      omega
    refine (set_loop b v0 old s w hw h1.1 h1.2).mono ?_
    rintro e w' (⟨_, he, w1, hb, rfl⟩ | ⟨hB, _⟩)
    · rw [if_pos h, if_pos h]
      refine ⟨he, (hw.below hb hw.lt).set s, fun k hk hne => ?_, (hb.mono (Nat.le_of_lt hw.lt)).setCell (Nat.le_refl _) _⟩
      rw [← hb.block k hk]
      show (w1.heap.modify b _)[k]? = _
      rw [Array.getElem?_modify, if_neg (Ne.symm hne)]
    · rw [h] at hB; cases hB
  · refine (set_no b v0 old s w hw (by simpa using h)).mono ?_
    rintro e w' ⟨he, hb⟩
    rw [if_neg h, if_neg h]
    exact ⟨he, hw.below hb hw.lt, fun k hk _ => hb.block k hk, hb.mono (Nat.le_of_lt hw.lt)⟩

theorem name_any (b : Nat) (v0 : Value) (bd : ByteArray) (lp : Option Addr) (w : World) (hw : Wr w b v0 bd lp) :
    Calls Tryd.prog 30 #[.pointer (some ⟨b, 0, none⟩)] w fun e w' => e = .returned (.string bd) ∧ w = w' := by
  have c1 := hw.c1
  go_enter Tryd.func30, Tryd.ntmps30
  go_wp2
  go_ret
  exact ⟨rfl, rfl⟩

/-- The boundary behind a list of them. -/
def curB (ss : List ByteArray) : ByteArray := ss.foldl (fun old s => if boundB s.data.toList = true then s else old) ⟨#[]⟩
theorem curB_snoc (ss : List ByteArray) (s : ByteArray) : curB (ss ++ [s]) = if boundB s.data.toList = true then s else curB ss := by simp [curB]
theorem curB_size (ss : List ByteArray) : (curB ss).size ≤ 70 := by
  have : ∀ (ss : List ByteArray) (a : ByteArray), a.size ≤ 70 → (ss.foldl (fun old s => if boundB s.data.toList = true then s else old) a).size ≤ 70 := by
    intro ss
    induction ss with
    | nil => exact fun a h => h
    | cons s t ih =>
      intro a h
      refine ih _ ?_
      show (if boundB s.data.toList = true then s else a).size ≤ 70
      split
      · rename_i hb
        unfold boundB at hb
        simp at hb
        have : s.data.toList.length = s.size := by simp
        omega
      · exact h
  exact this ss _ (by decide)
def fineL (ss : List ByteArray) : List Value := ss.map fun s => .bool (boundB s.data.toList)
theorem fineL_snoc (ss : List ByteArray) (s : ByteArray) : fineL (ss ++ [s]) = fineL ss ++ [.bool (boundB s.data.toList)] := by simp [fineL]
def namesL (ss : List ByteArray) : List Value := (List.range ss.length).map fun i => .string (curB (ss.take (i + 1)))
theorem namesL_snoc (ss : List ByteArray) (s : ByteArray) : namesL (ss ++ [s]) = namesL ss ++ [.string (curB (ss ++ [s]))] := by
  unfold namesL
  rw [List.length_append, List.length_singleton, List.range_succ, List.map_append]
  congr 1
  · apply List.map_congr_left
    intro i hi
    rw [List.mem_range] at hi
    rw [List.take_append_of_le_length (by omega)]
  · have : (ss ++ [s]).take (ss.length + 1) = ss ++ [s] := List.take_of_length_le (by simp)
    simp only [List.map_cons, List.map_nil, this]
theorem take_snocB (ss : List ByteArray) (k : Nat) (h : k < ss.length) : ss.take (k + 1) = ss.take k ++ [ss[k]] := by
  rw [List.take_succ_eq_append_getElem h]

structure Inv (B bb b : Nat) (bd : ByteArray) (k kn : Nat) (fs ns : List Value) (vf vn : Value) (W0 w : World) : Prop where
  wr : Wr w b (.iface 55 (.pointer (some ⟨bb, 0, none⟩))) bd none
  buf : Buf w B bb []
  fine : w.ownsRow B 4 1 vf k fs
  names : w.ownsRow B 9 1 vn kn ns
  below : Below B W0 w
  base : B ≤ b
  room : B ≤ w.heap.size

section
variable {B bb b : Nat} {bd bd' : ByteArray} {k kn m : Nat} {fs fs' ns ns' : List Value} {vf vf' vn vn' : Value} {W0 w w' : World}
/-- Whatever keeps the rows and the two structs. -/
theorem Inv.keepAll (h : Inv B bb b bd k kn fs ns vf vn W0 w) (hk : ∀ (i : Nat) (c : Array Value) (e : TypeId) (fz : Nat × Nat), w.heap[i]? = some (Obj.cells c e fz) → e = 5 ∨ (fz = (0, 0) ∧ (e = 59 ∨ e = 4 ∨ e = 9)) → w'.heap[i]? = w.heap[i]?)
    (hw : Wr w' b (.iface 55 (.pointer (some ⟨bb, 0, none⟩))) bd' none) (hb : Below B w w') : Inv B bb b bd' k kn fs ns vf vn W0 w' := by
  refine ⟨hw, h.buf.carry fun i o hi ho => ?_, own_carry h.fine fun g hg => ?_, own_carry h.names fun g hg => ?_, h.below.trans hb, h.base, Nat.le_trans h.room hb.size⟩
  · rcases ho with rfl | ⟨c, fz, rfl⟩
    · obtain ⟨v, lr, hbk⟩ := h.buf.block
      rw [hk _ _ _ _ hbk (.inr ⟨rfl, .inl rfl⟩), hi]
    · rw [hk _ _ _ _ hi (.inl rfl), hi]
  · obtain ⟨c, hc⟩ := own_block h.fine hg
    exact hk _ _ _ _ hc (.inr ⟨rfl, .inr (.inl rfl)⟩)
  · obtain ⟨c, hc⟩ := own_block h.names hg
    exact hk _ _ _ _ hc (.inr ⟨rfl, .inr (.inr rfl)⟩)
theorem Inv.keep (h : Inv B bb b bd k kn fs ns vf vn W0 w) (hw : Wr w' b (.iface 55 (.pointer (some ⟨bb, 0, none⟩))) bd' none)
    (hk : ∀ i, i < w.heap.size → i ≠ b → w'.heap[i]? = w.heap[i]?) (hb : Below B w w') : Inv B bb b bd' k kn fs ns vf vn W0 w' := by
  refine h.keepAll (fun i c e fz hi he => hk i (Array.getElem?_eq_some_iff.1 hi).1 ?_) hw hb
  rintro rfl
  have := h.wr
  unfold Wr at this
  rw [this] at hi
  injection hi with hi
  injection hi with _ hi
  subst hi
  rcases he with he | ⟨_, he | he | he⟩ <;> cases he
theorem Inv.alloc (h : Inv B bb b bd k kn fs ns vf vn W0 w) (o : Obj) : Inv B bb b bd k kn fs ns vf vn W0 (w.alloc o) := by
  have hal := (Below.refl w.heap.size w).alloc (Nat.le_refl _) o
  exact h.keep (h.wr.below hal h.wr.lt) (fun i hi _ => hal.block i hi) (hal.mono h.room)
theorem Inv.addFine (h : Inv B bb b bd k kn fs ns vf vn W0 w) (hg : w.grownBy w' vf.ownBlock) (hown : w'.ownsRow B 4 1 vf' m fs') : Inv B bb b bd m kn fs' ns vf' vn W0 w' := by
  have hne : ∀ (i : Nat) (c : Array Value) (e : TypeId) (fz : Nat × Nat), w.heap[i]? = some (Obj.cells c e fz) → e ≠ 4 → w'.heap[i]? = w.heap[i]? := by
    intro i c e fz hi he
    refine hg.block i (Array.getElem?_eq_some_iff.1 hi).1 fun hx => ?_
    obtain ⟨c', hc⟩ := own_block h.fine hx.symm
    rw [hc] at hi
    injection hi with hi
    injection hi with _ hi
    exact he hi.symm
  have hb := (Below.refl B w).grown hg h.room (fun j hj => (h.fine.lt j hj).1)
  refine ⟨(hne _ _ _ _ h.wr (by decide)).trans h.wr, h.buf.carry fun i o hi ho => ?_, hown, own_carry h.names fun g hg => ?_, h.below.trans hb, h.base, Nat.le_trans h.room hb.size⟩
  · rcases ho with rfl | ⟨c, fz, rfl⟩
    · obtain ⟨v, lr, hbk⟩ := h.buf.block
      rw [hne _ _ _ _ hbk (by decide), hi]
    · rw [hne _ _ _ _ hi (by decide), hi]
  · obtain ⟨c, hc⟩ := own_block h.names hg
    exact hne _ _ _ _ hc (by decide)
theorem Inv.addName (h : Inv B bb b bd k kn fs ns vf vn W0 w) (hg : w.grownBy w' vn.ownBlock) (hown : w'.ownsRow B 9 1 vn' m ns') : Inv B bb b bd k m fs ns' vf vn' W0 w' := by
  have hne : ∀ (i : Nat) (c : Array Value) (e : TypeId) (fz : Nat × Nat), w.heap[i]? = some (Obj.cells c e fz) → e ≠ 9 → w'.heap[i]? = w.heap[i]? := by
    intro i c e fz hi he
    refine hg.block i (Array.getElem?_eq_some_iff.1 hi).1 fun hx => ?_
    obtain ⟨c', hc⟩ := own_block h.names hx.symm
    rw [hc] at hi
    injection hi with hi
    injection hi with _ hi
    exact he hi.symm
  have hb := (Below.refl B w).grown hg h.room (fun j hj => (h.names.lt j hj).1)
  refine ⟨(hne _ _ _ _ h.wr (by decide)).trans h.wr, h.buf.carry fun i o hi ho => ?_, own_carry h.fine fun g hg => ?_, hown, h.below.trans hb, h.base, Nat.le_trans h.room hb.size⟩
  · rcases ho with rfl | ⟨c, fz, rfl⟩
    · obtain ⟨v, lr, hbk⟩ := h.buf.block
      rw [hne _ _ _ _ hbk (by decide), hi]
    · rw [hne _ _ _ _ hi (by decide), hi]
  · obtain ⟨c, hc⟩ := own_block h.fine hg
    exact hne _ _ _ _ hc (by decide)
end

set_option maxRecDepth 20000 in
set_option maxHeartbeats 1000000 in
theorem sets_any (A : Option Addr) (c : Nat) (ss : List ByteArray) (W0 : World) (hn : ss.length ≤ 65536) (hr : Rd W0 W0.heap.size 1 A ss.length (ss.map Value.string)) :
    Calls Tryd.prog 10 #[.slice A ss.length c] W0 fun e w' => ∃ vf vn, e = .returned (.tuple #[vf, vn, .bool false]) ∧ w'.ownsRow W0.heap.size 4 1 vf ss.length (fineL ss) ∧ w'.ownsRow W0.heap.size 9 1 vn ss.length (namesL ss) ∧ Below W0.heap.size W0 w' := by
  obtain ⟨i4, hi4, ha0, ha1, ha2⟩ := info_parts info4
  obtain ⟨i9, hi9, hb0, hb1, hb2⟩ := info_parts info9
  have HR := Lib.hid hr
  clear hr
  go_enter Tryd.func10, Tryd.ntmps10
  go_wp2_with fail
  refine (writer_any _ _).mono ?_
  rintro e w1 ⟨rfl, rfl⟩
  go_wp2_with fail
  obtain ⟨b, hb⟩ : ∃ b, b = W0.heap.size + 1 := ⟨_, rfl⟩
  have hI0 : Inv W0.heap.size W0.heap.size b ⟨#[]⟩ 0 0 [] [] (.slice none 0 0) (.slice none 0 0) W0 ((W0.alloc (.cells #[.slice none 0 0, .int .i64 0, .int .i8 0] 59)).alloc (.cells #[.iface 55 (.pointer (some ⟨W0.heap.size, 0, none⟩)), .string ⟨#[]⟩, .pointer none] 95 (0, 0))) := by
    refine ⟨?_, (Lib.fresh_isBuffer 59 5 W0).alloc _, World.ownsRow_nil _ _ _ _, World.ownsRow_nil _ _ _ _, ((Below.refl W0.heap.size W0).alloc (Nat.le_refl _) _).alloc (by simp) _, by omega, by simp; omega⟩
    unfold Wr
    have hn := heap_alloc_new (W0.alloc (.cells #[.slice none 0 0, .int .i64 0, .int .i8 0] 59)) (.cells #[.iface 55 (.pointer (some ⟨W0.heap.size, 0, none⟩)), .string ⟨#[]⟩, .pointer none] 95 (0, 0))
    rw [show (W0.alloc (.cells #[.slice none 0 0, .int .i64 0, .int .i8 0] 59)).heap.size = b by rw [hb]; simp] at hn
    exact hn
  rw [← hb]
  have HBe := Lib.hid hb
  clear hb
  go_loopw [6, 7, 17] (fun vf vn i w => ∃ k : Nat, k ≤ ss.length ∧ i = .int .i64 k ∧ Hid (Inv W0.heap.size W0.heap.size b (curB (ss.take k)) k k (fineL (ss.take k)) (namesL (ss.take k)) vf vn W0 w)) (fun _ _ i _ => ss.length - (intOf i).toNat)
  case atStart => exact ⟨0, Nat.zero_le _, rfl, hI0⟩
  case round =>
    obtain ⟨k, hk, rfl, HI⟩ := hrel
    by_cases hlt : k < ss.length
    · obtain ⟨b', o', rfl, hb', hcell⟩ := HR.out.2 (by omega)
      have ck : wr.cell? ⟨b', o' + k, none⟩ = some (.string ss[k]) := (HI.out.below.cell (p := ⟨b', o' + k, none⟩) hb').trans (hcell k _ (by simp [hlt]))
      obtain ⟨ok, hok⟩ : ∃ ok, boundB ss[k].data.toList = ok := ⟨_, rfl⟩
      have HS := Lib.hid (set_both b _ _ ss[k] wr HI.out.wr)
      rw [hok] at HS
      have hT1 := take_snocB ss k hlt
      have HC : Hid (curB (ss.take (k + 1)) = if ok = true then ss[k] else curB (ss.take k)) := by show _ = _; rw [hT1, curB_snoc, hok]
      have HFl : Hid (fineL (ss.take (k + 1)) = fineL (ss.take k) ++ [.bool ok]) := by show _ = _; rw [hT1, fineL_snoc, hok]
      have HNl : Hid (namesL (ss.take (k + 1)) = namesL (ss.take k) ++ [.string (if ok = true then ss[k] else curB (ss.take k))]) := by show _ = _; rw [hT1, namesL_snoc, curB_snoc, hok]
      obtain ⟨s, hs⟩ : ∃ s, ss[k] = s := ⟨_, rfl⟩
      rw [hs] at ck HS HC HNl
      obtain ⟨old, ho⟩ : ∃ x, curB (ss.take k) = x := ⟨_, rfl⟩
      obtain ⟨cur, hcur⟩ : ∃ x, (if ok = true then s else old) = x := ⟨_, rfl⟩
      rw [ho] at HS HC HNl HI
      rw [hcur] at HS HC HNl
      obtain ⟨fs, hfs⟩ : ∃ x, fineL (ss.take k) = x := ⟨_, rfl⟩
      obtain ⟨ns, hns⟩ : ∃ x, namesL (ss.take k) = x := ⟨_, rfl⟩
      rw [hfs] at HI HFl
      rw [hns] at HI HNl
      clear hT1 hok hs ho hcur hfs hns hcell hb'
      have HTail : ∀ w1, Wr w1 b (.iface 55 (.pointer (some ⟨W0.heap.size, 0, none⟩))) cur none → (∀ i, i < wr.heap.size → i ≠ b → w1.heap[i]? = wr.heap[i]?) → Below b wr w1 → Inv W0.heap.size W0.heap.size b cur k k fs ns u6 u7 W0 w1 :=
        fun w1 h1 h2 h3 => HI.out.keep h1 h2 (h3.mono HI.out.base)
      have HTail := Lib.hid HTail
      cases ok
      · go_wp2_with fail
        refine HS.out.mono ?_
        rintro e w1 ⟨he, hw1, hk1, hc1⟩
        rw [if_neg (by decide)] at he
        obtain ⟨q, rfl⟩ := he
        have HI1 := Lib.hid (HTail.out w1 hw1 hk1 hc1)
        clear hw1 hk1 hc1 HTail HS ck HI
        go_wp2_with (first
          | (at_builtin; refine wpList_append_any _ rfl (.tmp 21) (.tmp 26) 22 rfl W0.heap.size 4 i4 (.bool false) 1 1 Tryd.underlying22 hi4 ha0 ha1 ha2 rfl (by decide) u6 k fs rfl (HI1.out.alloc _).fine (w1.heap.size + 1) (some ⟨w1.heap.size, 0, none⟩) 1 1 [.bool false] rfl (by have h := Rd.of_own (World.ownsRow_lit (base := w1.heap.size) (e := 4) (size := 1) w1 #[.bool false] 1 (Nat.le_refl _) (by decide) rfl); simpa using h) (by intro u hu; rw [List.mem_singleton.1 hu]; rfl) (by unfold maxLen; omega) (by omega) (HI1.out.alloc _).room ?_; intro A2 c2 w2 hown2 hgrow2 hlie2))
        have HI2 := Lib.hid ((HI1.out.alloc _).addFine hgrow2 hown2)
        clear HI1 hown2 hgrow2 hlie2
        refine (name_any b _ cur none w2 HI2.out.wr).mono ?_
        rintro e w3 ⟨rfl, rfl⟩
        go_wp2_with (first
          | (at_builtin; refine wpList_append_any _ rfl (.tmp 28) (.tmp 31) 23 rfl W0.heap.size 9 i9 (.string ⟨#[]⟩) 1 16 Tryd.underlying23 hi9 hb0 hb1 hb2 rfl (by decide) u7 k ns rfl (HI2.out.alloc _).names (w2.heap.size + 1) (some ⟨w2.heap.size, 0, none⟩) 1 1 [.string cur] rfl (by have h := Rd.of_own (World.ownsRow_lit (base := w2.heap.size) (e := 9) (size := 1) w2 #[.string cur] 1 (Nat.le_refl _) (by decide) rfl); simpa using h) (by intro u hu; rw [List.mem_singleton.1 hu]; rfl) (by unfold maxLen; omega) (by omega) (HI2.out.alloc _).room ?_; intro A4 c4 w4 hown4 hgrow4 hlie4))
        have HI4 := Lib.hid ((HI2.out.alloc _).addName hgrow4 hown4)
        clear HI2 hown4 hgrow4 hlie4
        go_roundw
        case rel =>
          refine ⟨k + 1, by omega, by go_num, ?_⟩
          show Inv _ _ _ _ _ _ _ _ _ _ _ _
          rw [HC.out, HFl.out, HNl.out]
          exact HI4.out
        case measure => simp [intOf]; omega
      · go_wp2_with fail
        refine HS.out.mono ?_
        rintro e w1 ⟨he, hw1, hk1, hc1⟩
        rw [if_pos trivial] at he
        subst he
        have HI1 := Lib.hid (HTail.out w1 hw1 hk1 hc1)
        clear hw1 hk1 hc1 HTail HS ck HI
        go_wp2_with (first
          | (at_builtin; refine wpList_append_any _ rfl (.tmp 21) (.tmp 26) 22 rfl W0.heap.size 4 i4 (.bool false) 1 1 Tryd.underlying22 hi4 ha0 ha1 ha2 rfl (by decide) u6 k fs rfl (HI1.out.alloc _).fine (w1.heap.size + 1) (some ⟨w1.heap.size, 0, none⟩) 1 1 [.bool true] rfl (by have h := Rd.of_own (World.ownsRow_lit (base := w1.heap.size) (e := 4) (size := 1) w1 #[.bool true] 1 (Nat.le_refl _) (by decide) rfl); simpa using h) (by intro u hu; rw [List.mem_singleton.1 hu]; rfl) (by unfold maxLen; omega) (by omega) (HI1.out.alloc _).room ?_; intro A2 c2 w2 hown2 hgrow2 hlie2))
        have HI2 := Lib.hid ((HI1.out.alloc _).addFine hgrow2 hown2)
        clear HI1 hown2 hgrow2 hlie2
        refine (name_any b _ cur none w2 HI2.out.wr).mono ?_
        rintro e w3 ⟨rfl, rfl⟩
        go_wp2_with (first
          | (at_builtin; refine wpList_append_any _ rfl (.tmp 28) (.tmp 31) 23 rfl W0.heap.size 9 i9 (.string ⟨#[]⟩) 1 16 Tryd.underlying23 hi9 hb0 hb1 hb2 rfl (by decide) u7 k ns rfl (HI2.out.alloc _).names (w2.heap.size + 1) (some ⟨w2.heap.size, 0, none⟩) 1 1 [.string cur] rfl (by have h := Rd.of_own (World.ownsRow_lit (base := w2.heap.size) (e := 9) (size := 1) w2 #[.string cur] 1 (Nat.le_refl _) (by decide) rfl); simpa using h) (by intro u hu; rw [List.mem_singleton.1 hu]; rfl) (by unfold maxLen; omega) (by omega) (HI2.out.alloc _).room ?_; intro A4 c4 w4 hown4 hgrow4 hlie4))
        have HI4 := Lib.hid ((HI2.out.alloc _).addName hgrow4 hown4)
        clear HI2 hown4 hgrow4 hlie4
        go_roundw
        case rel =>
          refine ⟨k + 1, by omega, by go_num, ?_⟩
          show Inv _ _ _ _ _ _ _ _ _ _ _ _
          rw [HC.out, HFl.out, HNl.out]
          exact HI4.out
        case measure => simp [intOf]; omega
    · have hkn : k = ss.length := by omega
      subst hkn
      rw [List.take_length] at HI
      have hnx : ¬ ((ss.length : Int) < (ss.length : Int)) := by omega
      go_wp2_with fail
      refine (create_first W0.heap.size W0.heap.size b (curB ss) [] wr HI.out.buf HI.out.wr HI.out.base HI.out.room (by have := curB_size ss; omega) (by simp)).mono ?_
      rintro e w2 ⟨p', rfl, M, K⟩
      have hf : w2.ownsRow W0.heap.size 4 1 u6 ss.length (fineL ss) := own_carry HI.out.fine fun g hg => by
        obtain ⟨c', hc⟩ := own_block HI.out.fine hg
        rw [hc]
        refine K g _ hc ?_ (fun c fz e => by injection e with _ e; cases e)
        rintro (rfl | rfl)
        · obtain ⟨v, lr, hbk⟩ := HI.out.buf.block
          rw [hc] at hbk
          injection hbk with hbk
          injection hbk with _ hbk
          cases hbk
        · have := HI.out.wr
          unfold Wr at this
          rw [hc] at this
          injection this with this
          injection this with _ this
          cases this
      have hnm : w2.ownsRow W0.heap.size 9 1 u7 ss.length (namesL ss) := own_carry HI.out.names fun g hg => by
        obtain ⟨c', hc⟩ := own_block HI.out.names hg
        rw [hc]
        refine K g _ hc ?_ (fun c fz e => by injection e with _ e; cases e)
        rintro (rfl | rfl)
        · obtain ⟨v, lr, hbk⟩ := HI.out.buf.block
          rw [hc] at hbk
          injection hbk with hbk
          injection hbk with _ hbk
          cases hbk
        · have := HI.out.wr
          unfold Wr at this
          rw [hc] at this
          injection this with this
          injection this with _ this
          cases this
      have hwr := M.wr
      have hbl : Below W0.heap.size W0 w2 := HI.out.below.trans M.below
      clear M K HI hI0 hnx
      by_cases h0 : ss.length = 0
      · have hpos : ¬ ((0 : Int) < (ss.length : Int)) := by omega
        go_wp2_with fail
        go_ret3
        exact ⟨_, _, rfl, hf, hnm, hbl⟩
      · have hpos : (0 : Int) < (ss.length : Int) := by omega
        have hix : (ss.length : Int) - 1 < (ss.length : Int) := by omega
        obtain ⟨b', o', rfl, hb', hcell⟩ := HR.out.2 (by omega)
        have ck : w2.cell? ⟨b', o' + (ss.length - 1), none⟩ = some (.string (ss[ss.length - 1]'(by omega))) := (hbl.cell (p := ⟨b', o' + (ss.length - 1), none⟩) hb').trans (hcell _ _ (by simp))
        have HSL := Lib.hid (set_late b _ _ (ss[ss.length - 1]'(by omega)) ⟨p', 0, none⟩ w2 hwr)
        obtain ⟨t, ht⟩ : ∃ t, ss[ss.length - 1]'(by omega) = t := ⟨_, rfl⟩
        rw [ht] at ck HSL
        clear hcell hb' ht HR hwr
        go_wp2_with fail
        refine HSL.out.mono ?_
        rintro e w3 ⟨⟨q, rfl⟩, hb3⟩
        have hk3 : ∀ (v : Value) (e : TypeId) (xs : List Value) (n : Nat), w2.ownsRow W0.heap.size e 1 v n xs → w3.ownsRow W0.heap.size e 1 v n xs := fun v e xs n h => own_carry h fun g hg => by
          obtain ⟨c', hc⟩ := own_block h hg
          exact hb3.block g (Array.getElem?_eq_some_iff.1 hc).1
        have hf3 := hk3 _ _ _ _ hf
        have hnm3 := hk3 _ _ _ _ hnm
        have hbl3 := hbl.trans (hb3.mono hbl.size)
        clear hk3 hf hnm ck hbl hb3
        go_wp2
        go_ret3
        exact ⟨_, _, rfl, hf3, hnm3, hbl3⟩

end Go.Proofs.YtklkgddldndmmaaDoor
