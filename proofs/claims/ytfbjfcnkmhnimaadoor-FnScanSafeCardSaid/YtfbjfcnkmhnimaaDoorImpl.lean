/- The walk of impl.Scan. -/
import Derived.Test.YtfbjfcnkmhnimaaDoorScanC
import Derived.Test.YtfbjfcnkmhnimaaDoorConv
import Derived.Test.YtfbjfcnkmhnimaaDoorMatch
namespace Go.Proofs.YtfbjfcnkmhnimaaDoor
open Go.RowKit
set_option linter.unusedVariables false
set_option linter.unusedSimpArgs false

theorem app_data (a b : ByteArray) : (a ++ b).data.toList = a.data.toList ++ b.data.toList := by
  rw [ByteArray.data_append, Array.toList_append]
theorem app_size (a b : ByteArray) : (a ++ b).size = a.size + b.size := by
  rw [← ByteArray.size_data, ByteArray.data_append, Array.size_append]; rfl

set_option maxHeartbeats 2000000 in
theorem impl_scan (A : Option Addr) (n c B : Nat) (bd : ByteArray) (t : Int) (l : List UInt8) (e : Bool) (aE aU : Addr) (w : World) (hn : n ≤ 134217728) (hbd : bd.size ≤ 900) (hB : B ≤ w.heap.size)
    (hr : RdB w B A n l) (hE : ErrIs w 1 aE) (hU : ErrIs w 0 aU) (hne : aU ≠ aE) :
    Calls Tryd.prog 10 #[.slice A n c, .string bd, .int .i64 t, .bool e] w fun e' w' => e' = .returned (.tuple #[.int .i64 (scanP l (45 :: 45 :: bd.data.toList) (13 :: 10 :: 45 :: 45 :: bd.data.toList) (t == 0) e).1, .int .i64 (how e (scanP l (45 :: 45 :: bd.data.toList) (13 :: 10 :: 45 :: 45 :: bd.data.toList) (t == 0) e).2)]) ∧ Below w.heap.size w w' := by
  obtain ⟨i0, hi, hz0, hz1, hz2⟩ := info_parts info5
  have hown0 := World.ownsRow_lit (base := w.heap.size) (e := 5) (size := 1) w #[] 0 (Nat.le_refl _) (by decide) rfl
  have HD : Hid ((⟨#[45, 45]⟩ ++ bd : ByteArray).data.toList = 45 :: 45 :: bd.data.toList ∧ (⟨#[13, 10, 45, 45]⟩ ++ bd : ByteArray).data.toList = 13 :: 10 :: 45 :: 45 :: bd.data.toList) := ⟨by rw [app_data]; rfl, by rw [app_data]; rfl⟩
  have s1 : (⟨#[45, 45]⟩ ++ bd : ByteArray).size = 2 + bd.size := by rw [app_size]; rfl
  have s2 : (⟨#[13, 10, 45, 45]⟩ ++ bd : ByteArray).size = 4 + bd.size := by rw [app_size]; rfl
  have HS1 := Lib.hid s1
  have HS2 := Lib.hid s2
  clear s1 s2
  have HE := Lib.hid hE
  have HU := Lib.hid hU
  have HNe := Lib.hid hne
  clear hE hU hne
  go_enter Tryd.func10, Tryd.ntmps10
  go_wp2_with (first
    | (at_builtin; refine wpList_append_any _ rfl (.tmp 10) (.tmp 11) 22 rfl w.heap.size 5 i0 (.int .u8 0) 1 1 Tryd.underlying22 hi hz0 hz1 hz2 rfl (by decide) _ _ _ rfl hown0 B A n c (Lib.byteCells l) rfl (hr.alloc hB _) (bc_one l) (by unfold maxLen; omega) (by omega) (by simp) ?_; intro A1 c1 w1 hown1 hgrow1 hlie1; have hb1 := below_own hown0 hgrow1; simp only [Nat.zero_add, List.nil_append] at hown1; clear hgrow1 hlie1; have hsz1 := hb1.size)
    | (refine wpList_conv_any _ rfl (.tmp 14) 9 22 5 rfl Tryd.underlying9 Tryd.underlying22 Tryd.underlying5 _ rfl ?_; intro A2 c2 w2 hr2 hc2 hb2; have hsz2 := hb2.size)
    | (refine wpList_conv_any _ rfl (.tmp 17) 9 22 5 rfl Tryd.underlying9 Tryd.underlying22 Tryd.underlying5 _ rfl ?_; intro A3 c3 w3 hr3 hc3 hb3; have hsz3 := hb3.size))
  rw [HS1.out, HD.out.1] at hr2
  rw [HS2.out, HD.out.2] at hr3
  rw [HS1.out] at hc2
  rw [HS2.out] at hc3
  have hw12 := hb1.trans (hb2.mono hsz1)
  have hw13 := hw12.trans (hb3.mono (by omega))
  have r1 := (((Rd.of_own hown1).below hb2).below (hb3.mono (by omega))).more (B' := w3.heap.size) (by omega)
  have r2 := (hr2.below hb3).more (B' := w3.heap.size) (by omega)
  refine (mp_scan A1 A2 A3 n c1 _ c2 _ c3 w3.heap.size t l _ _ e aE aU w3 ?_ (by omega) hc2 (by omega) (by omega) hc3 (by omega) (Nat.le_refl _) r1 r2 hr3 (HE.out.below hw13) (HU.out.below hw13) HNe.out).mono ?_
  · rcases hown1.2 with ⟨h, h0⟩ | ⟨g, cap, cur, h, _, _, hle, _⟩
    · injection h with _ h2 h3; omega
    · injection h with _ h2 h3; omega
  rintro e' w4 ⟨rfl, hb4⟩
  go_wp2
  go_ret2
  exact ⟨rfl, hw13.trans (hb4.mono (by have := hw13.size; omega))⟩

theorem letter_b {c : UInt8} {w : World} (b : Bool) (h : letterB c = b) :
    Calls Tryd.prog 14 #[.int .u8 (c.toNat : Int)] w fun e w' => e = .returned (.bool b) ∧ w = w' :=
  (letter_any c w).mono fun _ _ ⟨he, hw⟩ => ⟨by rw [he, h], hw⟩
theorem within_b' {s : ByteArray} {c : UInt8} {w : World} (b : Bool) (hs : s.size ≤ 9223372036854775806) (h : inB s.data.toList c = b) :
    Calls Tryd.prog 12 #[.string s, .int .u8 (c.toNat : Int)] w fun e w' => e = .returned (.bool b) ∧ w = w' :=
  (within_any s c w hs).mono fun _ _ ⟨he, hw⟩ => ⟨by rw [he, h], hw⟩

/-- Each byte may stand in a boundary. -/
def allOk (l : List UInt8) : Bool := l.all okB
theorem allOk_snoc (l : List UInt8) (c : UInt8) : allOk (l ++ [c]) = (allOk l && okB c) := by simp [allOk]
theorem allOk_head (l : List UInt8) (k : Nat) (h : allOk (l.take k) = false) : allOk l = false := by
  rw [← List.take_append_drop k l]
  unfold allOk at h ⊢
  rw [List.all_append, h, Bool.false_and]
theorem signs_data : (⟨#[39, 40, 41, 43, 95, 44, 45, 46, 47, 58, 61, 63, 32]⟩ : ByteArray).data.toList = signs := rfl

set_option maxHeartbeats 2000000 in
theorem bound_any (s : ByteArray) (w : World) (hs : s.size ≤ 2147483647) :
    Calls Tryd.prog 8 #[.string s] w fun e w' => e = .returned (.bool (boundB s.data.toList)) ∧ w = w' := by
  have HB : Hid (boundB s.data.toList = (allOk s.data.toList && decide (0 < s.size) && decide (s.size ≤ 70) && decide (s.data.toList[s.size - 1]? ≠ some 32))) := by
    show _ = _
    unfold boundB allOk
    rw [Lib.size_eq]
  go_enter Tryd.func8, Tryd.ntmps8
  go_wp2
  go_loop [3] (fun i => ∃ k : Nat, k ≤ s.size ∧ i = .int .i64 k ∧ Hid (allOk (s.data.toList.take k) = true)) (fun i => s.size - (intOf i).toNat)
  case atStart => exact ⟨0, Nat.zero_le _, rfl, rfl⟩
  case round =>
    obtain ⟨k, hk, rfl, HP⟩ := hrel
    by_cases hlt : k < s.size
    · have HS : Hid (allOk (s.data.toList.take (k + 1)) = okB s[k]) := by
        show _ = _
        rw [take_snoc s k hlt, allOk_snoc, HP.out, Bool.true_and]
      by_cases h1 : letterB s[k] = true
      · have H1 := Lib.hid (fun w : World => letter_b (w := w) true h1)
        have HN : Hid (allOk (s.data.toList.take (k + 1)) = true) := by show _ = _; rw [HS.out]; simp [okB, h1]
        clear h1
        go_wp2_with fail
        refine (H1.out _).mono ?_
        rintro e w1 ⟨rfl, rfl⟩
        go_wp2
        go_round
        case rel => exact ⟨k + 1, by omega, by go_num, HN⟩
        case measure => simp [intOf]; omega
      · have H1 := Lib.hid (fun w : World => letter_b (w := w) false (by simpa using h1))
        by_cases h2 : inB signs s[k] = true
        · have H2 := Lib.hid (fun w : World => within_b' (s := ⟨#[39, 40, 41, 43, 95, 44, 45, 46, 47, 58, 61, 63, 32]⟩) (w := w) true (by decide) h2)
          have HN : Hid (allOk (s.data.toList.take (k + 1)) = true) := by show _ = _; rw [HS.out]; simp [okB, h2]
          clear h1 h2
          go_wp2_with fail
          refine (H1.out _).mono ?_
          rintro e w1 ⟨rfl, rfl⟩
          go_wp2_with fail
          refine (H2.out _).mono ?_
          rintro e w1 ⟨rfl, rfl⟩
          go_wp2
          go_round
          case rel => exact ⟨k + 1, by omega, by go_num, HN⟩
          case measure => simp [intOf]; omega
        · have H2 := Lib.hid (fun w : World => within_b' (s := ⟨#[39, 40, 41, 43, 95, 44, 45, 46, 47, 58, 61, 63, 32]⟩) (w := w) false (by decide) (by rw [signs_data]; simpa using h2))
          have HN : Hid (boundB s.data.toList = false) := by
            show _ = _
            rw [HB.out, allOk_head _ (k + 1) (by rw [HS.out]; simp only [Bool.not_eq_true] at h1 h2; simp [okB, h1, h2])]
            rfl
          clear h1 h2
          go_wp2_with fail
          refine (H1.out _).mono ?_
          rintro e w1 ⟨rfl, rfl⟩
          go_wp2_with fail
          refine (H2.out _).mono ?_
          rintro e w1 ⟨rfl, rfl⟩
          go_wp2
          go_ret
          exact ⟨ret_bool HN.out.symm, rfl⟩
    · have HA : Hid (allOk s.data.toList = true) := by
        have := HP.out
        rw [List.take_of_length_le (by simp; omega)] at this
        exact this
      by_cases h0 : s.size = 0
      · have HN : Hid (boundB s.data.toList = false) := by show _ = _; rw [HB.out, h0]; simp
        have hz : (s.size : Int) ≤ 0 := by omega
        go_wp2
        go_ret
        exact ⟨ret_bool HN.out.symm, rfl⟩
      · have hp : (0 : Int) < (s.size : Int) := by omega
        by_cases h70 : s.size ≤ 70
        · have h70' : (s.size : Int) ≤ 70 := by omega
          have hix : (s.size : Int) - 1 < (s.size : Int) := by omega
          have hgt : s.data.toList[s.size - 1]? = some s[s.size - 1] := by
            rw [Array.getElem?_toList]
            exact Array.getElem?_eq_getElem _
          by_cases h32 : (s[s.size - 1].toNat : Int) = 32
          · have HN : Hid (boundB s.data.toList = false) := by
              show _ = _
              rw [HB.out, hgt, u8_eq (n := 32) (by decide) h32]
              simp
            have hq : ((s[s.size - 1].toNat : Int) != 32) = false := by simp [h32]
            clear h32 hgt
            go_wp2
            go_ret
            exact ⟨ret_bool HN.out.symm, rfl⟩
          · have hne := u8_ne (n := 32) (by decide) h32
            have HN : Hid (boundB s.data.toList = true) := by
              show _ = _
              rw [HB.out, hgt, HA.out]
              simp
              exact ⟨⟨by omega, h70⟩, hne⟩
            have hq : ((s[s.size - 1].toNat : Int) != 32) = true := by simp [h32]
            clear h32 hgt hne
            go_wp2
            go_ret
            exact ⟨ret_bool HN.out.symm, rfl⟩
        · have HN : Hid (boundB s.data.toList = false) := by show _ = _; rw [HB.out]; simp [h70]
          have h70' : ¬ (s.size : Int) ≤ 70 := by omega
          go_wp2
          go_ret
          exact ⟨ret_bool HN.out.symm, rfl⟩

/-- In a body the delimiter does not stand at the beginning, nor behind a LF. -/
def freeB (l b : List UInt8) : Bool := !(Lib.hasPrefix l (45 :: 45 :: b)) && decide (Lib.index l (10 :: 45 :: 45 :: b) < 0)

theorem fi_b {A A2 : Option Addr} {n c m d B : Nat} {l p : List UInt8} {w : World} (k : Int) (hnc : n ≤ c) (hn : n ≤ 2305843009213693952) (hm : m ≤ 2305843009213693952) (h0 : 0 < m) (hr : RdB w B A n l) (hr2 : RdB w B A2 m p) (h : Lib.index l p = k) :
    Calls Tryd.prog 16 #[.slice A n c, .slice A2 m d] w fun e w' => e = .returned (.int .i64 k) ∧ w = w' :=
  (find_any A A2 n c m d B l p w hnc hn hm h0 hr hr2).mono fun _ _ ⟨he, hw⟩ => ⟨by rw [he, h], hw⟩

set_option maxHeartbeats 2000000 in
theorem free_any (A : Option Addr) (n c B : Nat) (bd : ByteArray) (l : List UInt8) (w : World) (hnc : n ≤ c) (hn : n ≤ 134217728) (hbd : bd.size ≤ 16777216) (hB : B ≤ w.heap.size) (hr : RdB w B A n l) :
    Calls Tryd.prog 9 #[.slice A n c, .string bd] w fun e' w' => e' = .returned (.bool (freeB l bd.data.toList)) ∧ Below w.heap.size w w' := by
  obtain ⟨i0, hi, hz0, hz1, hz2⟩ := info_parts info5
  have HD : Hid ((⟨#[45, 45]⟩ ++ bd : ByteArray).data.toList = 45 :: 45 :: bd.data.toList) := by show _ = _; rw [app_data]; rfl
  have HS1 : Hid ((⟨#[45, 45]⟩ ++ bd : ByteArray).size = 2 + bd.size) := by show _ = _; rw [app_size]; rfl
  have HR := Lib.hid hr
  clear hr
  by_cases hp : Lib.hasPrefix l (45 :: 45 :: bd.data.toList) = true
  · have HF : Hid (freeB l bd.data.toList = false) := by show _ = _; simp [freeB, hp]
    have HP := Lib.hid hp
    clear hp
    go_enter Tryd.func9, Tryd.ntmps9
    go_wp2_with (refine wpList_conv_any _ rfl (.tmp 7) 9 22 5 rfl Tryd.underlying9 Tryd.underlying22 Tryd.underlying5 _ rfl ?_; intro A2 c2 w2 hr2 hc2 hb2; have hsz2 := hb2.size)
    rw [HS1.out, HD.out] at hr2
    refine (hp_b true hnc ((HR.out.below (hb2.mono hB)).more (B' := w2.heap.size) (by omega)) hr2 HP.out).mono ?_
    rintro e w3 ⟨rfl, rfl⟩
    go_wp2
    go_ret
    exact ⟨ret_bool HF.out.symm, hb2⟩
  · have hp' : Lib.hasPrefix l (45 :: 45 :: bd.data.toList) = false := by simpa using hp
    have HP := Lib.hid hp'
    have hix : Lib.index l (10 :: 45 :: 45 :: bd.data.toList) = -1 ∨ 0 ≤ Lib.index l (10 :: 45 :: 45 :: bd.data.toList) := by
      have := Lib.index_ge l (10 :: 45 :: 45 :: bd.data.toList); omega
    obtain ⟨k, hk⟩ : ∃ k, Lib.index l (10 :: 45 :: 45 :: bd.data.toList) = k := ⟨_, rfl⟩
    rw [hk] at hix
    have HF : Hid (freeB l bd.data.toList = decide (k < 0)) := by show _ = _; simp [freeB, hp', hk]
    have HK := Lib.hid hk
    clear hp hp' hk
    go_enter Tryd.func9, Tryd.ntmps9
    go_wp2_with (refine wpList_conv_any _ rfl (.tmp 7) 9 22 5 rfl Tryd.underlying9 Tryd.underlying22 Tryd.underlying5 _ rfl ?_; intro A2 c2 w2 hr2 hc2 hb2; have hsz2 := hb2.size)
    rw [HS1.out, HD.out] at hr2
    refine (hp_b false hnc ((HR.out.below (hb2.mono hB)).more (B' := w2.heap.size) (by omega)) hr2 HP.out).mono ?_
    rintro e w3 ⟨rfl, rfl⟩
    have hown0 := World.ownsRow_lit (base := w2.heap.size) (e := 5) (size := 1) w2 #[.int .u8 10] 1 (Nat.le_refl _) (by decide) rfl
    go_wp2_with (at_builtin; refine wpList_append_want _ (.tmp 15) (.tmp 16) 22 rfl rfl w2.heap.size 5 i0 (.int .u8 0) 1 1 Tryd.underlying22 hi hz0 hz1 hz2 rfl (by decide) _ _ _ rfl hown0 w2.heap.size A2 (2 + bd.size) c2 (Lib.byteCells (45 :: 45 :: bd.data.toList)) rfl (hr2.alloc (Nat.le_refl _) _) (bc_one _) (by unfold maxLen; omega) (by omega) (by simp) ?_; intro A3 c3 w3 hown3 hgrow3 hlie3; have hb3 := below_own hown0 hgrow3; clear hgrow3 hlie3; have hsz3 := hb3.size)
    have r1 := ((HR.out.below (hb2.mono hB)).below (hb3.mono (by omega))).more (B' := w3.heap.size) (by omega)
    have r3 : RdB w3 w3.heap.size A3 (1 + (2 + bd.size)) (10 :: 45 :: 45 :: bd.data.toList) := Rd.of_own hown3
    refine (fi_b k hnc (by omega) (by omega) (by omega) r1 r3 HK.out).mono ?_
    rintro e w4 ⟨rfl, rfl⟩
    have hbb := hb2.trans (hb3.mono hsz2)
    go_wp2
    go_ret
    exact ⟨ret_bool HF.out.symm, hbb⟩

/-- Is there a CR? -/
theorem return_any (A : Option Addr) (n c B : Nat) (l : List UInt8) (w : World) (hn : n ≤ 134217728) (hB : B ≤ w.heap.size) (hr : RdB w B A n l) :
    Calls Tryd.prog 11 #[.slice A n c] w fun e' w' => e' = .returned (.bool (inB l 13)) ∧ Below w.heap.size w w' := by
  have hl := hr.len
  subst hl
  go_enter Tryd.func11, Tryd.ntmps11
  have hcv : (convert 22 9 (Value.slice A l.length c)).run Tryd.prog w = .ok (.string ⟨l.toArray⟩) w := hr.conv Tryd.underlying22 Tryd.underlying5 Tryd.underlying9 c
  go_wp2_with fail
  refine (within_any ⟨l.toArray⟩ 13 w (by rw [size_list]; omega)).mono ?_
  rintro e w1 ⟨rfl, rfl⟩
  go_wp2
  go_ret
  exact ⟨rfl, Below.refl _ _⟩

end Go.Proofs.YtfbjfcnkmhnimaaDoor
