/- The walk of the law FnScanSafe. -/
import Derived.Test.YtfbjfcnkmhnimaaDoorScanLaw
namespace Go.Proofs.YtfbjfcnkmhnimaaDoor
open Go.RowKit
set_option linter.unusedVariables false
set_option linter.unusedSimpArgs false

theorem impl_is (A : Option Addr) (n c B : Nat) (bd : ByteArray) (t : Int) (l : List UInt8) (e : Bool) (aE aU : Addr) (w : World) (i j : Int) (hn : n ≤ 134217728) (hbd : bd.size ≤ 900) (hB : B ≤ w.heap.size)
    (hr : RdB w B A n l) (hE : ErrIs w 1 aE) (hU : ErrIs w 0 aU) (hne : aU ≠ aE)
    (hi : (scanP l (45 :: 45 :: bd.data.toList) (13 :: 10 :: 45 :: 45 :: bd.data.toList) (t == 0) e).1 = i) (hj : how e (scanP l (45 :: 45 :: bd.data.toList) (13 :: 10 :: 45 :: 45 :: bd.data.toList) (t == 0) e).2 = j) :
    Calls Tryd.prog 10 #[.slice A n c, .string bd, .int .i64 t, .bool e] w fun e' w' => e' = .returned (.tuple #[.int .i64 i, .int .i64 j]) ∧ Below w.heap.size w w' :=
  (impl_scan A n c B bd t l e aE aU w hn hbd hB hr hE hU hne).mono fun _ _ ⟨he, hw⟩ => ⟨by rw [he, hi, hj], hw⟩
theorem return_b {A : Option Addr} {n c B : Nat} {l : List UInt8} {w : World} (b : Bool) (hn : n ≤ 134217728) (hB : B ≤ w.heap.size) (hr : RdB w B A n l) (h : inB l 13 = b) :
    Calls Tryd.prog 11 #[.slice A n c] w fun e' w' => e' = .returned (.bool b) ∧ Below w.heap.size w w' :=
  (return_any A n c B l w hn hB hr).mono fun _ _ ⟨he, hw⟩ => ⟨by rw [he, h], hw⟩
theorem how_false (k : Nat) : how false k = if k = 1 then 1 else 0 := by
  unfold how
  by_cases h0 : k = 0 <;> by_cases h1 : k = 1 <;> simp [h0, h1]

section
variable (A A2 : Option Addr) (n c m d B : Nat) (l r : List UInt8) (bd : ByteArray) (t : Int) (e : Bool) (aE aU : Addr) (w : World)
set_option maxHeartbeats 4000000 in
theorem xsafe_small (hn : n ≤ 16777216) (hbd : bd.size ≤ 16777216) (hm : m ≤ 16777216) (hnc : n ≤ c) (hB : B ≤ w.heap.size) (hr : RdB w B A n l) (hr2 : RdB w B A2 m r) (hE : ErrIs w 1 aE) (hU : ErrIs w 0 aU) (hne : aU ≠ aE) :
    Calls Tryd.prog 5 #[.slice A n c, .slice A2 m d, .string bd, .int .i64 t, .bool e] w fun e' w' => e' = .returned (.bool true) ∧ Below w.heap.size w w' := by
  by_cases ht : t < 0
  · clear hr hr2 hE hU hne
    go_enter Tryd.func5, Tryd.ntmps5
    go_wp2
    go_ret
    exact ⟨rfl, Below.refl _ _⟩
  · have ht' : ((decide (t < 0)) : Bool) = false := by simpa using ht
    by_cases hb : boundB bd.data.toList = true
    · have hb70 := boundB_size hb
      have HB := Lib.hid (fun w : World => bound_b (w := w) true (s := bd) (by omega) hb)
      have hl := hr.len
      have hS := scan_safe (buf := l) (m := r) (nl_of hb) (t == 0) e
      obtain ⟨i, hi⟩ : ∃ i, (scanP l (45 :: 45 :: bd.data.toList) (13 :: 10 :: 45 :: 45 :: bd.data.toList) (t == 0) false).1 = i := ⟨_, rfl⟩
      obtain ⟨j, hj⟩ : ∃ j, how false (scanP l (45 :: 45 :: bd.data.toList) (13 :: 10 :: 45 :: 45 :: bd.data.toList) (t == 0) false).2 = j := ⟨_, rfl⟩
      obtain ⟨i2, hi2⟩ : ∃ i, (scanP (l ++ r) (45 :: 45 :: bd.data.toList) (13 :: 10 :: 45 :: 45 :: bd.data.toList) (t == 0) e).1 = i := ⟨_, rfl⟩
      obtain ⟨j2, hj2⟩ : ∃ j, how e (scanP (l ++ r) (45 :: 45 :: bd.data.toList) (13 :: 10 :: 45 :: 45 :: bd.data.toList) (t == 0) e).2 = j := ⟨_, rfl⟩
      have q1 : 0 ≤ i := hi ▸ hS.pos
      have q2 : i ≤ (n : Int) := by rw [← hi, ← hl]; exact hS.le
      have q3 : i ≤ i2 := by rw [← hi, ← hi2]; exact hS.more
      have q4 : j = 0 ∨ (j = 1 ∧ i2 = i) := by
        rw [← hj, how_false]
        split
        · rename_i h
          exact .inr ⟨rfl, by rw [← hi, ← hi2]; exact hS.last h⟩
        · exact .inl rfl
      have q5 : t = 0 ∨ inB l 13 = true ∨ i = (n : Int) := by
        rcases hS.cr with h | h | h
        · exact .inl (by simpa using h)
        · exact .inr (.inl h)
        · exact .inr (.inr (by rw [← hi, ← hl]; exact h))
      obtain ⟨i0, hi0, hz0, hz1, hz2⟩ := info_parts info5
      have H1 := Lib.hid (fun (w : World) (A : Option Addr) (c : Nat) (hB : w.heap.size ≤ w.heap.size) (hr : RdB w w.heap.size A n l) (hE : ErrIs w 1 aE) (hU : ErrIs w 0 aU) => impl_is A n c w.heap.size bd t l false aE aU w i j (by omega) (by omega) hB hr hE hU hne hi hj)
      have H2 := Lib.hid (fun (w : World) (A : Option Addr) (c : Nat) (hB : w.heap.size ≤ w.heap.size) (hr : RdB w w.heap.size A (n + m) (l ++ r)) (hE : ErrIs w 1 aE) (hU : ErrIs w 0 aU) => impl_is A (n + m) c w.heap.size bd t (l ++ r) e aE aU w i2 j2 (by omega) (by omega) hB hr hE hU hne hi2 hj2)
      have HR := Lib.hid hr
      have HR2 := Lib.hid hr2
      have HE := Lib.hid hE
      have HU := Lib.hid hU
      have HQ5 := Lib.hid q5
      have HQ4 := Lib.hid q4
      clear hr hr2 hE hU hne hi hj hi2 hj2 hb hS hl q5 q4
      have d1 : decide ((0 : Int) ≤ i) = true := by simpa using q1
      have d2 : decide (i ≤ (n : Int)) = true := by simpa using q2
      have d3 : decide (i ≤ i2) = true := by simpa using q3
      go_enter Tryd.func5, Tryd.ntmps5
      go_wp2_with fail
      refine (HB.out _).mono ?_
      rintro e w1 ⟨rfl, rfl⟩
      go_wp2_with fail
      refine (H1.out w A c (Nat.le_refl _) (HR.out.more hB) HE.out HU.out).mono ?_
      rintro e w1 ⟨rfl, hb1⟩
      have hsz1 := hb1.size
      have hra := HR.out.below (hb1.mono hB)
      have hra2 := HR2.out.below (hb1.mono hB)
      have hown0 := World.ownsRow_lit (base := w1.heap.size) (e := 5) (size := 1) w1 #[] 0 (Nat.le_refl _) (by decide) rfl
      go_wp2_with (first
        | (at_builtin; refine wpList_append_any _ rfl (.tmp 56) (.tmp 57) 22 rfl w1.heap.size 5 i0 (.int .u8 0) 1 1 Tryd.underlying22 hi0 hz0 hz1 hz2 rfl (by decide) _ _ _ rfl hown0 B A n c (Lib.byteCells l) rfl (hra.alloc (by omega) _) (bc_one l) (by unfold maxLen; omega) (by omega) (by simp) ?_; intro A1 c1 w2 hown1 hgrow1 hlie1; have hb2 := below_own hown0 hgrow1; simp only [Nat.zero_add, List.nil_append] at hown1; clear hgrow1 hlie1; have hsz2 := hb2.size)
        | (at_builtin; refine wpList_append_any _ rfl (.tmp 58) (.tmp 59) 22 rfl w1.heap.size 5 i0 (.int .u8 0) 1 1 Tryd.underlying22 hi0 hz0 hz1 hz2 rfl (by decide) _ _ _ rfl hown1 B A2 m d (Lib.byteCells r) rfl (hra2.below (hb2.mono (by omega))) (bc_one r) (by unfold maxLen; omega) (by omega) (by omega) ?_; intro A4 c4 w4 hown4 hgrow4 hlie4; have hb4 := hb2.grown hgrow4 hsz2 (fun j hj => (hown1.lt j hj).1); clear hgrow4 hlie4; have hsz4 := hb4.size))
      rw [← Lib.byteCells_append] at hown4
      have hw4 := hb1.trans (hb4.mono hsz1)
      refine (H2.out w4 A4 c4 (Nat.le_refl _) (Rd.of_own hown4) (HE.out.below hw4) (HU.out.below hw4)).mono ?_
      rintro e' w5 ⟨rfl, hb5⟩
      have hsz5 := hb5.size
      have hw5 := hw4.trans (hb5.mono (by omega))
      have hra5 := HR.out.below (hw5.mono hB)
      have H11 : ∀ b : Bool, inB l 13 = b → Calls Tryd.prog 11 #[.slice A n c] w5 fun e' w' => e' = .returned (.bool b) ∧ Below w5.heap.size w5 w' := fun b h => return_b b (by omega) (by omega) hra5 h
      have fin : ∀ w6, Below w5.heap.size w5 w6 → Below w.heap.size w w6 := fun w6 h => hw5.trans (h.mono (by omega))
      clear hra hra2 hown1 hown4 hw4 hb1 hb2 hb4 hb5 hown0 hra5
      by_cases ht0 : t = 0
      · subst ht0
        rcases HQ4.out with rfl | ⟨rfl, rfl⟩
        · go_wp2
          go_ret
          exact ⟨rfl, hw5⟩
        · have d4 : ((i2 == i2) : Bool) = true := by simp
          go_wp2
          go_ret
          exact ⟨rfl, hw5⟩
      · have d5 : ((t == 0) : Bool) = false := by simpa using ht0
        by_cases h13 : inB l 13 = true
        · have HN := Lib.hid (H11 true h13)
          clear H11 h13
          rcases HQ4.out with rfl | ⟨rfl, rfl⟩
          · go_wp2_with fail
            refine HN.out.mono ?_
            rintro e' w6 ⟨rfl, hb6⟩
            go_wp2
            go_ret
            exact ⟨rfl, fin w6 hb6⟩
          · have d4 : ((i2 == i2) : Bool) = true := by simp
            go_wp2_with fail
            refine HN.out.mono ?_
            rintro e' w6 ⟨rfl, hb6⟩
            go_wp2
            go_ret
            exact ⟨rfl, fin w6 hb6⟩
        · have hin : i = (n : Int) := by
            rcases HQ5.out with h | h | h
            · exact absurd h ht0
            · exact absurd h h13
            · exact h
          have HN := Lib.hid (H11 false (by simpa using h13))
          clear H11 h13
          rcases HQ4.out with rfl | ⟨rfl, rfl⟩
          · subst hin
            go_wp2_with fail
            refine HN.out.mono ?_
            rintro e' w6 ⟨rfl, hb6⟩
            go_wp2
            go_ret
            exact ⟨rfl, fin w6 hb6⟩
          · subst hin
            have d4 : (((n : Int) == (n : Int)) : Bool) = true := by simp
            go_wp2_with fail
            refine HN.out.mono ?_
            rintro e' w6 ⟨rfl, hb6⟩
            go_wp2
            go_ret
            exact ⟨rfl, fin w6 hb6⟩
    · have HB := Lib.hid (fun w : World => bound_b (w := w) false (s := bd) (by omega) (by simpa using hb))
      clear hr hr2 hE hU hne hb
      go_enter Tryd.func5, Tryd.ntmps5
      go_wp2_with fail
      refine (HB.out _).mono ?_
      rintro e w1 ⟨rfl, rfl⟩
      go_wp2
      go_ret
      exact ⟨rfl, Below.refl _ _⟩

theorem xsafe (hnc : n ≤ c) (hB : B ≤ w.heap.size) (hr : RdB w B A n l) (hr2 : RdB w B A2 m r) (hE : ErrIs w 1 aE) (hU : ErrIs w 0 aU) (hne : aU ≠ aE) :
    Calls Tryd.prog 5 #[.slice A n c, .slice A2 m d, .string bd, .int .i64 t, .bool e] w fun e' w' => e' = .returned (.bool true) ∧ Below w.heap.size w w' := by
  by_cases h0 : n ≤ 16777216 ∧ bd.size ≤ 16777216 ∧ m ≤ 16777216
  · exact xsafe_small A A2 n c m d B l r bd t e aE aU w h0.1 h0.2.1 h0.2.2 hnc hB hr hr2 hE hU hne
  · clear hr hr2 hE hU hne
    have h : 2147483647 < n ∨ (n ≤ 2147483647 ∧ 2147483647 < m) ∨ (n ≤ 2147483647 ∧ m ≤ 2147483647 ∧ 2147483647 < bd.size) ∨ (bd.size ≤ 2147483647 ∧ m ≤ 2147483647 ∧ n ≤ 2147483647 ∧ 16777216 < n) ∨ (bd.size ≤ 2147483647 ∧ m ≤ 2147483647 ∧ n ≤ 16777216 ∧ 16777216 < m) ∨ (bd.size ≤ 2147483647 ∧ n ≤ 16777216 ∧ m ≤ 16777216 ∧ 16777216 < bd.size) := by omega
    clear h0
    rcases h with h | ⟨h, h'⟩ | ⟨h, h', h''⟩ | ⟨h, h', h'', h3⟩ | ⟨h, h', h'', h3⟩ | ⟨h, h', h'', h3⟩
    all_goals
      go_enter Tryd.func5, Tryd.ntmps5
      go_wp2
      go_ret
      exact ⟨rfl, Below.refl _ _⟩
end

end Go.Proofs.YtfbjfcnkmhnimaaDoor
