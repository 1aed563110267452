/- The walk of the law FnExactScan. -/
import Derived.Test.YtfbjfcnkmhnimaaDoorImpl
import Derived.Test.YtfbjfcnkmhnimaaDoorLaws
import Derived.Lib.AppendStr
namespace Go.Proofs.YtfbjfcnkmhnimaaDoor
open Go.RowKit
set_option linter.unusedVariables false
set_option linter.unusedSimpArgs false

theorem sm_is {l : List UInt8} {e : Bool} {A : Option Addr} {n c B : Nat} {w : World} (k : Int) (hn : n ≤ 9223372036854775806) (hr : RdB w B A n l) (h : (sMatch l e).2 = true) (hk : (sMatch l e).1 = k) :
    Calls Tryd.prog 6 #[.slice A n c, .bool e] w fun e' w' => e' = .returned (.tuple #[.int .i64 k, .bool true]) ∧ Below w.heap.size w w' :=
  (smatch_any A n c B l e w hn hr).mono fun _ _ ⟨he, hw⟩ => ⟨by rw [he, h, hk], hw⟩
theorem bound_b {s : ByteArray} {w : World} (b : Bool) (hs : s.size ≤ 2147483647) (h : boundB s.data.toList = b) :
    Calls Tryd.prog 8 #[.string s] w fun e w' => e = .returned (.bool b) ∧ w = w' :=
  (bound_any s w hs).mono fun _ _ ⟨he, hw⟩ => ⟨by rw [he, h], hw⟩
theorem free_b {A : Option Addr} {n c B : Nat} {bd : ByteArray} {l : List UInt8} {w : World} (b : Bool) (hnc : n ≤ c) (hn : n ≤ 134217728) (hbd : bd.size ≤ 16777216) (hB : B ≤ w.heap.size) (hr : RdB w B A n l) (h : freeB l bd.data.toList = b) :
    Calls Tryd.prog 9 #[.slice A n c, .string bd] w fun e' w' => e' = .returned (.bool b) ∧ Below w.heap.size w w' :=
  (free_any A n c B bd l w hnc hn hbd hB hr).mono fun _ _ ⟨he, hw⟩ => ⟨by rw [he, h], hw⟩
theorem boundB_size {s : ByteArray} (h : boundB s.data.toList = true) : s.size ≤ 70 := by
  unfold boundB at h
  simp only [Bool.and_eq_true, decide_eq_true_eq] at h
  have := h.1.2
  have h2 : s.data.toList.length = s.size := by simp
  omega
theorem freeB_of {l b : List UInt8} (h : freeB l b = true) : Lib.hasPrefix l (45 :: 45 :: b) = false ∧ Lib.index l (10 :: 45 :: 45 :: b) < 0 := by
  unfold freeB at h
  simpa using h
theorem sMatch_cases (r : List UInt8) (e : Bool) : (sMatch r e).1 = -1 ∨ (sMatch r e).1 = 0 ∨ (sMatch r e).1 = 1 := by
  unfold sMatch
  repeat' split
  all_goals simp

section
variable (A A2 : Option Addr) (n c m d B : Nat) (l r : List UInt8) (bd : ByteArray) (t : Int) (e : Bool) (aE aU : Addr) (w : World)
set_option maxHeartbeats 4000000 in
theorem xscan_small (hn : n ≤ 16777216) (hbd : bd.size ≤ 16777216) (hm : m ≤ 16777216) (hnc : n ≤ c) (hB : B ≤ w.heap.size) (hr : RdB w B A n l) (hr2 : RdB w B A2 m r) (hE : ErrIs w 1 aE) (hU : ErrIs w 0 aU) (hne : aU ≠ aE) :
    Calls Tryd.prog 4 #[.slice A n c, .string bd, .slice A2 m d, .int .i64 t, .bool e] w fun e' w' => e' = .returned (.bool true) ∧ Below w.heap.size w w' := by
  by_cases hs : (sMatch r e).2 = true
  · obtain ⟨k, hk⟩ : ∃ k, (sMatch r e).1 = k := ⟨_, rfl⟩
    by_cases hk1 : k = 1
    · subst hk1
      have HS := Lib.hid (sm_is (c := d) (w := w) 1 (by omega) hr2 hs hk)
      by_cases ht : t < 0
      · clear hs hk hr hr2 hE hU hne
        go_enter Tryd.func4, Tryd.ntmps4
        go_wp2_with fail
        refine HS.out.mono ?_
        rintro e w0 ⟨rfl, hb0⟩
        go_wp2
        go_ret
        exact ⟨rfl, hb0⟩
      · have ht' : ((decide (t < 0)) : Bool) = false := by simpa using ht
        by_cases hb : boundB bd.data.toList = true
        · have hb70 := boundB_size hb
          have HB := Lib.hid (fun w : World => bound_b (w := w) true (s := bd) (by omega) hb)
          by_cases hf : freeB l bd.data.toList = true
          · have HX : Hid (scanP (l ++ (13 :: 10 :: 45 :: 45 :: bd.data.toList) ++ r) (45 :: 45 :: bd.data.toList) (13 :: 10 :: 45 :: 45 :: bd.data.toList) (t == 0) e = ((n : Int), 1)) := by
              show _ = _
              rw [← hr.len]
              exact scan_end _ _ _ _ _ hb (freeB_of hf).1 (freeB_of hf).2 (by rw [sMatch_ok _ _ hs]; exact hk)
            obtain ⟨i0, hi, hz0, hz1, hz2⟩ := info_parts info5
            have HD : Hid ((⟨#[13, 10, 45, 45]⟩ ++ bd : ByteArray).data.toList = 13 :: 10 :: 45 :: 45 :: bd.data.toList) := by show _ = _; rw [app_data]; rfl
            have hs1 : (⟨#[13, 10, 45, 45]⟩ ++ bd : ByteArray).size = 4 + bd.size := by rw [app_size]; rfl
            have HF := Lib.hid hf
            have HR := Lib.hid hr
            have HR2 := Lib.hid hr2
            have HE := Lib.hid hE
            have HU := Lib.hid hU
            have HNe := Lib.hid hne
            clear hs hk hr hr2 hE hU hne hb hf
            go_enter Tryd.func4, Tryd.ntmps4
            go_wp2_with fail
            refine HS.out.mono ?_
            rintro e w0 ⟨rfl, hb0⟩
            have hsz0 := hb0.size
            go_wp2_with fail
            refine (HB.out _).mono ?_
            rintro e w1 ⟨rfl, rfl⟩
            go_wp2_with fail
            refine (free_b (B := B) (w := w0) true hnc (by omega) hbd (by omega) (HR.out.below (hb0.mono hB)) HF.out).mono ?_
            rintro e w1 ⟨rfl, hb1⟩
            have hsz1 := hb1.size
            have hw1 := hb0.trans (hb1.mono hsz0)
            have hra := HR.out.below (hw1.mono hB)
            have hra2 := HR2.out.below (hw1.mono hB)
            have hown0 := World.ownsRow_lit (base := w1.heap.size) (e := 5) (size := 1) w1 #[] 0 (Nat.le_refl _) (by decide) rfl
            go_wp2_with (first
              | (at_builtin; refine wpList_append_any _ rfl (.tmp 69) (.tmp 70) 22 rfl w1.heap.size 5 i0 (.int .u8 0) 1 1 Tryd.underlying22 hi hz0 hz1 hz2 rfl (by decide) _ _ _ rfl hown0 B A n c (Lib.byteCells l) rfl (hra.alloc (by omega) _) (bc_one l) (by unfold maxLen; omega) (by omega) (by simp) ?_; intro A1 c1 w2 hown1 hgrow1 hlie1; have hb2 := below_own hown0 hgrow1; simp only [Nat.zero_add, List.nil_append] at hown1; clear hgrow1 hlie1; have hsz2 := hb2.size)
              | (at_builtin; refine Lib.wpList_append_own_string _ rfl (.tmp 71) (.tmp 73) 22 9 rfl w1.heap.size 5 i0 Tryd.underlying22 Tryd.underlying9 hi hz0 hz1 hz2 _ _ _ rfl hown1 _ rfl (by unfold maxLen; omega) (by omega) (by omega) ?_; intro v3 w3 hown3 hgrow3 hlie3; have hb3 := hb2.grown hgrow3 hsz2 (fun j hj => (hown1.lt j hj).1); clear hgrow3 hlie3; have hsz3 := hb3.size)
              | (at_builtin; refine wpList_append_any _ rfl (.tmp 74) (.tmp 75) 22 rfl w1.heap.size 5 i0 (.int .u8 0) 1 1 Tryd.underlying22 hi hz0 hz1 hz2 rfl (by decide) _ _ _ rfl hown3 B A2 m d (Lib.byteCells r) rfl (hra2.below (hb3.mono (by omega))) (bc_one r) (by unfold maxLen; omega) (by omega) (by omega) ?_; intro A4 c4 w4 hown4 hgrow4 hlie4; have hb4 := hb3.grown hgrow4 hsz3 (fun j hj => (hown3.lt j hj).1); clear hgrow4 hlie4; have hsz4 := hb4.size))
            rw [Lib.strCells_eq, HD.out, ← Lib.byteCells_append, ← Lib.byteCells_append, hs1] at hown4
            have hw4 := hw1.trans (hb4.mono (by omega))
            refine (impl_scan A4 (n + (4 + bd.size) + m) c4 w4.heap.size bd t _ e aE aU w4 (by omega) (by omega) (Nat.le_refl _) (Rd.of_own hown4) (HE.out.below hw4) (HU.out.below hw4) HNe.out).mono ?_
            rintro e' w5 ⟨rfl, hb5⟩
            rw [HX.out]
            go_wp2
            go_ret
            exact ⟨rfl, hw4.trans (hb5.mono (by omega))⟩
          · have HF := Lib.hid (show freeB l bd.data.toList = false by simpa using hf)
            have HR := Lib.hid hr
            clear hs hk hr hr2 hE hU hne hb hf
            go_enter Tryd.func4, Tryd.ntmps4
            go_wp2_with fail
            refine HS.out.mono ?_
            rintro e w0 ⟨rfl, hb0⟩
            have hsz0 := hb0.size
            go_wp2_with fail
            refine (HB.out _).mono ?_
            rintro e w1 ⟨rfl, rfl⟩
            go_wp2_with fail
            refine (free_b (B := B) (w := w0) false hnc (by omega) hbd (by omega) (HR.out.below (hb0.mono hB)) HF.out).mono ?_
            rintro e w1 ⟨rfl, hb1⟩
            go_wp2
            go_ret
            exact ⟨rfl, hb0.trans (hb1.mono hsz0)⟩
        · have HB := Lib.hid (fun w : World => bound_b (w := w) false (s := bd) (by omega) (by simpa using hb))
          clear hs hk hr hr2 hE hU hne hb
          go_enter Tryd.func4, Tryd.ntmps4
          go_wp2_with fail
          refine HS.out.mono ?_
          rintro e w0 ⟨rfl, hb0⟩
          go_wp2_with fail
          refine (HB.out _).mono ?_
          rintro e w1 ⟨rfl, rfl⟩
          go_wp2
          go_ret
          exact ⟨rfl, hb0⟩
    · have hq : ((k != 1) : Bool) = true := by simpa using hk1
      have HS := Lib.hid (sm_is (c := d) (w := w) k (by omega) hr2 hs hk)
      clear hs hk hr hr2 hE hU hne
      go_enter Tryd.func4, Tryd.ntmps4
      go_wp2_with fail
      refine HS.out.mono ?_
      rintro e w0 ⟨rfl, hb0⟩
      go_wp2
      go_ret
      exact ⟨rfl, hb0⟩
  · have HS := Lib.hid (sm_no (c := d) (w := w) (by omega) hr2 (by simpa using hs))
    clear hs hr hr2 hE hU hne
    go_enter Tryd.func4, Tryd.ntmps4
    go_wp2_with fail
    refine HS.out.mono ?_
    rintro e w0 ⟨rfl, hb0⟩
    go_wp2
    go_ret
    exact ⟨rfl, hb0⟩

theorem xscan (hnc : n ≤ c) (hB : B ≤ w.heap.size) (hr : RdB w B A n l) (hr2 : RdB w B A2 m r) (hE : ErrIs w 1 aE) (hU : ErrIs w 0 aU) (hne : aU ≠ aE) :
    Calls Tryd.prog 4 #[.slice A n c, .string bd, .slice A2 m d, .int .i64 t, .bool e] w fun e' w' => e' = .returned (.bool true) ∧ Below w.heap.size w w' := by
  by_cases h0 : n ≤ 16777216 ∧ bd.size ≤ 16777216 ∧ m ≤ 16777216
  · exact xscan_small A A2 n c m d B l r bd t e aE aU w h0.1 h0.2.1 h0.2.2 hnc hB hr hr2 hE hU hne
  · clear hr hr2 hE hU hne
    have h : 2147483647 < n ∨ (n ≤ 2147483647 ∧ 2147483647 < bd.size) ∨ (n ≤ 2147483647 ∧ bd.size ≤ 2147483647 ∧ 2147483647 < m) ∨ (bd.size ≤ 2147483647 ∧ m ≤ 2147483647 ∧ n ≤ 2147483647 ∧ 16777216 < n) ∨ (bd.size ≤ 2147483647 ∧ m ≤ 2147483647 ∧ n ≤ 16777216 ∧ 16777216 < bd.size) ∨ (m ≤ 2147483647 ∧ n ≤ 16777216 ∧ bd.size ≤ 16777216 ∧ 16777216 < m) := by omega
    clear h0
    rcases h with h | ⟨h, h'⟩ | ⟨h, h', h''⟩ | ⟨h, h', h'', h3⟩ | ⟨h, h', h'', h3⟩ | ⟨h, h', h'', h3⟩
    all_goals
      go_enter Tryd.func4, Tryd.ntmps4
      go_wp2
      go_ret
      exact ⟨rfl, Below.refl _ _⟩
end

end Go.Proofs.YtfbjfcnkmhnimaaDoor
