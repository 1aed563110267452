/- The walks of the searches: Equal, HasPrefix, find, Free (turned from the seat of the first round). -/
import Derived.Test.YtklkgddldndmmaaDoorWriteA
import Derived.Test.YtklkgddldndmmaaDoorConv
import Derived.Lib.IndexLaws
import Derived.LoopTactic
namespace Go.Proofs.YtklkgddldndmmaaDoor
open Go.RowKit
set_option linter.unusedVariables false
set_option linter.unusedSimpArgs false

theorem equal_any (A1 A2 : Option Addr) (n c m d B : Nat) (l1 l2 : List UInt8) (w : World) (h1 : RdB w B A1 n l1) (h2 : RdB w B A2 m l2) :
    Calls Tryd.prog 78 #[.slice A1 n c, .slice A2 m d] w fun e w' => e = .returned (.bool (l1 == l2)) ∧ w = w' := by
  have c1 := h1.conv (P := Tryd.prog) (src := 31) (dst := 9) Tryd.underlying31 Tryd.underlying5 Tryd.underlying9 c
  have c2 := h2.conv (P := Tryd.prog) (src := 31) (dst := 9) Tryd.underlying31 Tryd.underlying5 Tryd.underlying9 d
  clear h1 h2
  go_enter Tryd.func78, Tryd.ntmps78
  go_wp2
  go_ret
  exact ⟨by simp, rfl⟩

theorem hasPrefix_any (A1 A2 : Option Addr) (n c m d B : Nat) (l1 l2 : List UInt8) (w : World) (hn : n ≤ c) (h1 : RdB w B A1 n l1) (h2 : RdB w B A2 m l2) :
    Calls Tryd.prog 62 #[.slice A1 n c, .slice A2 m d] w fun e w' => e = .returned (.bool (Lib.hasPrefix l1 l2)) ∧ w = w' := by
  have hl1 := h1.len
  have hl2 := h2.len
  by_cases hm : m ≤ n
  · have HE := Lib.hid (equal_any A1 A2 m c m d B (l1.take m) l2 w (h1.take hm) h2)
    have HR : Hid (Lib.hasPrefix l1 l2 = (l1.take m == l2)) := by
      show _ = _
      rw [← Lib.hasPrefix_of_take, hl2, hl1]
      simp [hm]
    have hz := map_add_zero' A1
    clear h1 h2 hl1 hl2
    go_enter Tryd.func62, Tryd.ntmps62
    go_wp2_with fail
    refine HE.out.mono ?_
    rintro e w1 ⟨rfl, rfl⟩
    go_wp2
    go_ret
    exact ⟨ret_bool HR.out.symm, rfl⟩
  · have HR : Hid (Lib.hasPrefix l1 l2 = false) := by
      show _ = _
      rw [← Lib.hasPrefix_of_take, hl2, hl1]
      simp [hm]
    clear h1 h2 hl1 hl2
    go_enter Tryd.func62, Tryd.ntmps62
    go_wp2
    go_ret
    exact ⟨ret_bool HR.out.symm, rfl⟩

theorem drop_at {l : List UInt8} {k : Nat} {c : UInt8} (h : l[k]? = some c) : l.drop k = c :: l.drop (k + 1) := by
  obtain ⟨hk, rfl⟩ := List.getElem?_eq_some_iff.1 h
  exact List.drop_eq_getElem_cons hk
theorem beq_of {a b : Int} (h : a = b) : (a == b) = true := by simpa using h
theorem beq_not {a b : Int} (h : ¬ a = b) : (a == b) = false := by simpa using h

theorem noocc_next {l p : List UInt8} {k : Nat} (h : Lib.NoOcc l p k) (h2 : Lib.hasPrefix (l.drop k) p = false) : Lib.NoOcc l p (k + 1) := h.succ h2

set_option maxHeartbeats 1000000 in
theorem find_any (A A2 : Option Addr) (n c m d B : Nat) (l p : List UInt8) (w : World) (hnc : n ≤ c) (hn : n ≤ 2305843009213693952) (hm : m ≤ 2305843009213693952) (h0 : 0 < m) (hr : RdB w B A n l) (hr2 : RdB w B A2 m p) :
    Calls Tryd.prog 48 #[.slice A n c, .slice A2 m d] w fun e w' => e = .returned (.int .i64 (Lib.index l p)) ∧ w = w' := by
  have hl := hr.len
  have hl2 := hr2.len
  have hpn : p ≠ [] := by rintro rfl; simp at hl2; omega
  have HL : Hid (l.length = n ∧ p.length = m ∧ p ≠ []) := ⟨hl, hl2, hpn⟩
  clear hl hl2 hpn
  go_enter Tryd.func48, Tryd.ntmps48
  go_wp2
  go_loop [5] (fun i => ∃ k : Nat, i = .int .i64 k ∧ Hid (Lib.NoOcc l p k) ∧ k ≤ n + 1) (fun i => n + 1 - (intOf i).toNat)
  case atStart => exact ⟨0, rfl, Lib.NoOcc.zero _ _, by omega⟩
  case round =>
    obtain ⟨k, rfl, HN, hk⟩ := hrel
    by_cases hlt : k + m ≤ n
    · have hb : (k : Int) + (m : Int) ≤ (n : Int) := by omega
      have hkc : (k : Int) ≤ (c : Int) := by omega
      have hkn : (k : Int) ≤ (n : Int) := by omega
      have hck : ¬ c = k := by omega
      obtain ⟨b, o, rfl, hbB, _⟩ := hr.2 (by omega)
      have HC := Lib.hid (show RdB w B (some ⟨b, o + k, none⟩) (n - k) (l.drop k) from by have := hr.cut (k := k) (cap := c) (by omega) hnc; rw [if_neg hck] at this; simpa [Addr.add_lit] using this)
      have HH := Lib.hid (fun w' => hasPrefix_any (some ⟨b, o + k, none⟩) A2 (n - k) (c - k) m d B (l.drop k) p w' (by omega))
      have HR2 := Lib.hid hr2
      have hr' := Lib.hid hr
      clear hr hr2
      by_cases hp : Lib.hasPrefix (l.drop k) p = true
      · have HP := Lib.hid hp
        have HX : Hid (Lib.index l p = k) := Lib.index_hit HN.out (by have := HL.out; omega) hp
        clear hp
        go_wp2_with fail
        refine (HH.out _ HC.out HR2.out).mono ?_
        rintro e w1 ⟨rfl, rfl⟩
        rw [HP.out]
        go_wp2
        go_ret
        exact ⟨ret_int HX.out.symm, rfl⟩
      · have HP := Lib.hid (show Lib.hasPrefix (l.drop k) p = false by simpa using hp)
        have HX : Hid (Lib.NoOcc l p (k + 1)) := noocc_next HN.out HP.out
        clear hp
        go_wp2_with fail
        refine (HH.out _ HC.out HR2.out).mono ?_
        rintro e w1 ⟨rfl, rfl⟩
        rw [HP.out]
        go_wp2
        go_round
        case rel => exact ⟨k + 1, by go_num, HX, by omega⟩
        case measure => simp [intOf]; omega
    · have HX : Hid (Lib.index l p = -1) := Lib.index_past HL.out.2.2 HN.out (by have := HL.out; omega)
      go_wp2
      go_ret
      exact ⟨ret_int HX.out.symm, rfl⟩

theorem hp_b {A1 A2 : Option Addr} {n c m d B : Nat} {l1 l2 : List UInt8} {w : World} (b : Bool) (hn : n ≤ c) (h1 : RdB w B A1 n l1) (h2 : RdB w B A2 m l2) (h : Lib.hasPrefix l1 l2 = b) :
    Calls Tryd.prog 62 #[.slice A1 n c, .slice A2 m d] w fun e w' => e = .returned (.bool b) ∧ w = w' :=
  (hasPrefix_any A1 A2 n c m d B l1 l2 w hn h1 h2).mono fun _ _ ⟨he, hw⟩ => ⟨by rw [he, h], hw⟩
theorem below_own {w w1 : World} {o : Obj} {e : TypeId} {size n : Nat} {v : Value} {xs : List Value} (hown : (w.alloc o).ownsRow w.heap.size e size v n xs) (hgrow : (w.alloc o).grownBy w1 v.ownBlock) : Below w.heap.size w w1 :=
  ((Below.refl _ w).alloc (Nat.le_refl _) o).grown hgrow (by simp) (fun j hj => (hown.lt j hj).1)

/-- In a body the delimiter does not stand at the beginning, nor behind a LF. -/
def freeB (l b : List UInt8) : Bool := !(Lib.hasPrefix l (45 :: 45 :: b)) && decide (Lib.index l (10 :: 45 :: 45 :: b) < 0)

theorem fi_b {A A2 : Option Addr} {n c m d B : Nat} {l p : List UInt8} {w : World} (k : Int) (hnc : n ≤ c) (hn : n ≤ 2305843009213693952) (hm : m ≤ 2305843009213693952) (h0 : 0 < m) (hr : RdB w B A n l) (hr2 : RdB w B A2 m p) (h : Lib.index l p = k) :
    Calls Tryd.prog 48 #[.slice A n c, .slice A2 m d] w fun e w' => e = .returned (.int .i64 k) ∧ w = w' :=
  (find_any A A2 n c m d B l p w hnc hn hm h0 hr hr2).mono fun _ _ ⟨he, hw⟩ => ⟨by rw [he, h], hw⟩

set_option maxHeartbeats 2000000 in
theorem free_any (A : Option Addr) (n c B : Nat) (bd : ByteArray) (l : List UInt8) (w : World) (hnc : n ≤ c) (hn : n ≤ 140737488000000) (hbd : bd.size ≤ 16777216) (hB : B ≤ w.heap.size) (hr : RdB w B A n l) :
    Calls Tryd.prog 36 #[.slice A n c, .string bd] w fun e' w' => e' = .returned (.bool (freeB l bd.data.toList)) ∧ Below w.heap.size w w' := by
  obtain ⟨i0, hi, hz0, hz1, hz2⟩ := info_parts info5
  have HD : Hid ((⟨#[45, 45]⟩ ++ bd : ByteArray).data.toList = 45 :: 45 :: bd.data.toList) := by show _ = _; rw [app_data]; rfl
  have HS1 : Hid ((⟨#[45, 45]⟩ ++ bd : ByteArray).size = 2 + bd.size) := by show _ = _; rw [app_size]; rfl
  have HR := Lib.hid hr
  clear hr
  by_cases hp : Lib.hasPrefix l (45 :: 45 :: bd.data.toList) = true
  · have HF : Hid (freeB l bd.data.toList = false) := by show _ = _; simp [freeB, hp]
    have HP := Lib.hid hp
    clear hp
    go_enter Tryd.func36, Tryd.ntmps36
    go_wp2_with (refine wpList_conv_any _ rfl (.tmp 7) 9 31 5 rfl Tryd.underlying9 Tryd.underlying31 Tryd.underlying5 _ rfl ?_; intro A2 c2 w2 hr2 hc2 hb2; have hsz2 := hb2.size)
    rw [HS1.out, HD.out] at hr2
    refine (hp_b true hnc ((HR.out.below (hb2.mono hB)).more (B' := w2.heap.size) (by omega)) hr2 HP.out).mono ?_
    rintro e w3 ⟨rfl, rfl⟩
    go_wp2
    go_ret
    exact ⟨ret_bool HF.out.symm, hb2⟩
  · have hp' : Lib.hasPrefix l (45 :: 45 :: bd.data.toList) = false := by simpa using hp
    have HP := Lib.hid hp'
    have hix : Lib.index l (10 :: 45 :: 45 :: bd.data.toList) = -1 ∨ 0 ≤ Lib.index l (10 :: 45 :: 45 :: bd.data.toList) := by
      have := Lib.index_ge l (10 :: 45 :: 45 :: bd.data.toList); omega
    obtain ⟨k, hk⟩ : ∃ k, Lib.index l (10 :: 45 :: 45 :: bd.data.toList) = k := ⟨_, rfl⟩
    rw [hk] at hix
    have HF : Hid (freeB l bd.data.toList = decide (k < 0)) := by show _ = _; simp [freeB, hp', hk]
    have HK := Lib.hid hk
    clear hp hp' hk
    go_enter Tryd.func36, Tryd.ntmps36
    go_wp2_with (refine wpList_conv_any _ rfl (.tmp 7) 9 31 5 rfl Tryd.underlying9 Tryd.underlying31 Tryd.underlying5 _ rfl ?_; intro A2 c2 w2 hr2 hc2 hb2; have hsz2 := hb2.size)
    rw [HS1.out, HD.out] at hr2
    refine (hp_b false hnc ((HR.out.below (hb2.mono hB)).more (B' := w2.heap.size) (by omega)) hr2 HP.out).mono ?_
    rintro e w3 ⟨rfl, rfl⟩
    have hown0 := World.ownsRow_lit (base := w2.heap.size) (e := 5) (size := 1) w2 #[.int .u8 10] 1 (Nat.le_refl _) (by decide) rfl
    go_wp2_with (at_builtin; refine wpList_append_want _ (.tmp 15) (.tmp 16) 31 rfl rfl w2.heap.size 5 i0 (.int .u8 0) 1 1 Tryd.underlying31 hi hz0 hz1 hz2 rfl (by decide) _ _ _ rfl hown0 w2.heap.size A2 (2 + bd.size) c2 (Lib.byteCells (45 :: 45 :: bd.data.toList)) rfl (hr2.alloc (Nat.le_refl _) _) (bc_one _) (by unfold maxLen; omega) (by omega) (by simp) ?_; intro A3 c3 w3 hown3 hgrow3 hlie3; have hb3 := below_own hown0 hgrow3; clear hgrow3 hlie3; have hsz3 := hb3.size)
    have r1 := ((HR.out.below (hb2.mono hB)).below (hb3.mono (by omega))).more (B' := w3.heap.size) (by omega)
    have r3 : RdB w3 w3.heap.size A3 (1 + (2 + bd.size)) (10 :: 45 :: 45 :: bd.data.toList) := Rd.of_own hown3
    refine (fi_b k hnc (by omega) (by omega) (by omega) r1 r3 HK.out).mono ?_
    rintro e w4 ⟨rfl, rfl⟩
    have hbb := hb2.trans (hb3.mono hsz2)
    go_wp2
    go_ret
    exact ⟨ret_bool HF.out.symm, hbb⟩


end Go.Proofs.YtklkgddldndmmaaDoor
