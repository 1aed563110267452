/- The walks of the law on what stands behind a delimiter, and of what it calls. -/
import Derived.Test.YtfbjfcnkmhnimaaDoorWalks
import Derived.Test.YtfbjfcnkmhnimaaDoorLaid
namespace Go.Proofs.YtfbjfcnkmhnimaaDoor
open Go.RowKit

theorem within_b (s : ByteArray) (c : UInt8) (b : Bool) (w : World) (hs : s.size ≤ 9223372036854775806) (h : inB s.data.toList c = b) :
    Calls Tryd.prog 12 #[.string s, .int .u8 (c.toNat : Int)] w fun e w' => e = .returned (.bool b) ∧ w = w' :=
  (within_any s c w hs).mono fun _ _ ⟨he, hw⟩ => ⟨by rw [he, h], hw⟩

theorem inB_blank (c : UInt8) : inB [32, 9, 13, 10] c = decide (c = 32 ∨ c = 9 ∨ c = 13 ∨ c = 10) := by
  rw [Bool.eq_iff_iff]; simp [inB]

theorem ret_ib {p : Int × Bool} {a : Int} {b : Bool} (h : p = (a, b)) : Ending.returned (.tuple #[.int .i64 a, .bool b]) = Ending.returned (.tuple #[.int .i64 p.1, .bool p.2]) := by rw [h]

set_option maxHeartbeats 1000000 in
theorem smatch_any (A : Option Addr) (n c B : Nat) (l : List UInt8) (e : Bool) (w : World) (hn : n ≤ 9223372036854775806) (hr : RdB w B A n l) :
    Calls Tryd.prog 6 #[.slice A n c, .bool e] w fun e' w' => e' = .returned (.tuple #[.int .i64 (sMatch l e).1, .bool (sMatch l e).2]) ∧ Below w.heap.size w w' := by
  have hl := hr.len
  by_cases h0 : n = 0
  · subst h0
    obtain rfl : l = [] := List.eq_nil_of_length_eq_zero hl
    cases e
    all_goals
      go_enter Tryd.func6, Tryd.ntmps6
      go_wp2
      go_ret2
      exact ⟨rfl, Below.refl _ _⟩
  · obtain ⟨b, o, x, rfl, _, hx, hc⟩ := hr.at_ (k := 0) (by omega)
    rw [Nat.add_zero] at hc
    have hn0 : ((n : Int) == 0) = false := beq_not (by omega)
    have hp0 : (0 : Int) < (n : Int) := by omega
    have HD := Lib.hid (show l = x :: l.drop 1 from by have := drop_at hx; simpa using this)
    by_cases h1 : x = 32 ∨ x = 9 ∨ x = 13 ∨ x = 10
    · have HW := Lib.hid (fun w : World => within_b ⟨#[32, 9, 13, 10]⟩ x true w (by decide) (by rw [inB_blank]; simp [h1]))
      have HR : Hid (sMatch l e = (1, true)) := by
        show _ = _
        rw [HD.out]
        simp [sMatch, h1]
      clear h1 hx hl hr h0
      go_enter Tryd.func6, Tryd.ntmps6
      go_wp2_with fail
      refine (HW.out _).mono ?_
      rintro e w1 ⟨rfl, rfl⟩
      go_wp2
      go_ret2
      exact ⟨ret_ib HR.out, Below.refl _ _⟩
    · have HW := Lib.hid (fun w : World => within_b ⟨#[32, 9, 13, 10]⟩ x false w (by decide) (by rw [inB_blank]; simp [h1]))
      by_cases h2 : (x.toNat : Int) = 45
      · have e45 : x = 45 := u8_eq (n := 45) (by decide) h2
        have hq : ((x.toNat : Int) == 45) = true := beq_of h2
        by_cases h3 : n = 1
        · have HR : Hid (sMatch l e = (1, false)) := by
            show _ = _
            rw [HD.out, List.drop_eq_nil_of_le (by omega)]
            simp [sMatch, e45]
          subst h3
          clear h1 hx hl hr h0 e45 h2
          go_enter Tryd.func6, Tryd.ntmps6
          go_wp2_with fail
          refine (HW.out _).mono ?_
          rintro e w1 ⟨rfl, rfl⟩
          go_wp2
          go_quiet (fail)
          go_wp2
          go_ret2
          exact ⟨ret_ib HR.out, ⟨rfl, rfl, rfl, Nat.le_refl _, fun _ _ => rfl⟩⟩
        · obtain ⟨b', o', y, had, _, hy, hcy⟩ := hr.at_ (k := 1) (by omega)
          obtain ⟨rfl, rfl⟩ : b = b' ∧ o = o' := by simpa using had
          have HR : Hid (sMatch l e = (1, decide (y = 45))) := by
            show _ = _
            rw [HD.out, drop_at hy]
            simp [sMatch, e45]
          have hp1 : (1 : Int) < (n : Int) := by omega
          have hd1 : decide ((1 : Int) < (n : Int)) = true := by simpa using hp1
          clear h1 hx hl hr h0 e45 h2 had hy h3
          have hyb := u8_lt y
          by_cases h4 : (y.toNat : Int) = 45
          · have HR2 : Hid (sMatch l e = (1, true)) := by show _ = _; rw [HR.out, u8_eq (n := 45) (by decide) h4]; rfl
            have hq2 : ((y.toNat : Int) == 45) = true := beq_of h4
            clear h4
            go_enter Tryd.func6, Tryd.ntmps6
            go_wp2_with fail
            refine (HW.out _).mono ?_
            rintro e w1 ⟨rfl, rfl⟩
            go_wp2
            go_quiet (fail)
            go_wp2
            go_ret2
            exact ⟨ret_ib HR2.out, ⟨rfl, rfl, rfl, Nat.le_refl _, fun _ _ => rfl⟩⟩
          · have HR2 : Hid (sMatch l e = (1, false)) := by
              have := u8_ne (n := 45) (by decide) h4
              show _ = _
              rw [HR.out]
              simpa using this
            have hq2 : ((y.toNat : Int) == 45) = false := beq_not h4
            clear h4
            go_enter Tryd.func6, Tryd.ntmps6
            go_wp2_with fail
            refine (HW.out _).mono ?_
            rintro e w1 ⟨rfl, rfl⟩
            go_wp2
            go_quiet (fail)
            go_wp2
            go_ret2
            exact ⟨ret_ib HR2.out, ⟨rfl, rfl, rfl, Nat.le_refl _, fun _ _ => rfl⟩⟩
      · have hne : x ≠ 45 := u8_ne (n := 45) (by decide) h2
        have hq : ((x.toNat : Int) == 45) = false := beq_not h2
        have HR : Hid (sMatch l e = (-1, true)) := by
          show _ = _
          rw [HD.out]
          simp [sMatch, h1, hne]
        clear h1 hx hl hr h0 h2 hne
        go_enter Tryd.func6, Tryd.ntmps6
        go_wp2_with fail
        refine (HW.out _).mono ?_
        rintro e w1 ⟨rfl, rfl⟩
        go_wp2
        go_ret2
        exact ⟨ret_ib HR.out, Below.refl _ _⟩

theorem mp_match (A A2 : Option Addr) (n c m d B : Nat) (l : List UInt8) (e : Bool) (w : World) (hm : m ≤ n) (hn : n ≤ 9223372036854775806) (hr : RdB w B A n l) (hg : ErrAt w 0) :
    Calls Tryd.prog 13 #[.slice A n c, .slice A2 m d, .bool e] w fun e' w' => e' = .returned (.int .i64 (mAfter (l.drop m) e)) ∧ w = w' := by
  obtain ⟨p, hc, _⟩ := hg
  cases e
  · have HM := Lib.hid (mafter_any A A2 n c m d B l false .nilIface w hm hn hr (.inl ⟨rfl, rfl⟩))
    clear hr
    go_enter Tryd.func13, Tryd.ntmps13
    go_wp2_with fail
    refine HM.out.mono ?_
    rintro e w1 ⟨rfl, rfl⟩
    go_wp2
    go_ret
    exact ⟨rfl, rfl⟩
  · have HM := Lib.hid (mafter_any A A2 n c m d B l true (.iface 45 (.pointer (some p))) w hm hn hr (.inr ⟨rfl, 45, some p, rfl⟩))
    clear hr
    go_enter Tryd.func13, Tryd.ntmps13
    go_wp2_with fail
    refine HM.out.mono ?_
    rintro e w1 ⟨rfl, rfl⟩
    go_wp2
    go_ret
    exact ⟨rfl, rfl⟩

/-- Behind an append onto a literal of the call's own. -/
theorem below_own {w w1 : World} {o : Obj} {e : TypeId} {size n : Nat} {v : Value} {xs : List Value} (hown : (w.alloc o).ownsRow w.heap.size e size v n xs) (hgrow : (w.alloc o).grownBy w1 v.ownBlock) : Below w.heap.size w w1 :=
  ((Below.refl _ w).alloc (Nat.le_refl _) o).grown hgrow (by simp) (fun j hj => (hown.lt j hj).1)

set_option maxHeartbeats 1000000 in
theorem impl_match (A A2 : Option Addr) (n c m d B : Nat) (l p : List UInt8) (e : Bool) (w : World) (hm : m ≤ n) (hn : n ≤ 134217728) (hB : B ≤ w.heap.size) (hr : RdB w B A n l) (hr2 : RdB w B A2 m p) (hg : ErrAt w 0) :
    Calls Tryd.prog 7 #[.slice A n c, .slice A2 m d, .bool e] w fun e' w' => e' = .returned (.int .i64 (mAfter (l.drop m) e)) ∧ Below w.heap.size w w' := by
  obtain ⟨i0, hi, hz0, hz1, hz2⟩ := info_parts info5
  have hown0 := World.ownsRow_lit (base := w.heap.size) (e := 5) (size := 1) w #[] 0 (Nat.le_refl _) (by decide) rfl
  go_enter Tryd.func7, Tryd.ntmps7
  go_wp2_with (first
    | (at_builtin; refine wpList_append_any _ rfl (.tmp 7) (.tmp 8) 22 rfl w.heap.size 5 i0 (.int .u8 0) 1 1 Tryd.underlying22 hi hz0 hz1 hz2 rfl (by decide) _ _ _ rfl hown0 B A n c (Lib.byteCells l) rfl (hr.alloc hB _) (bc_one l) (by unfold maxLen; omega) (by omega) (by simp) ?_; intro A1 c1 w1 hown1 hgrow1 hlie1; have hb1 := below_own hown0 hgrow1; simp only [Nat.zero_add, List.nil_append] at hown1; clear hgrow1 hlie1; have hsz1 := hb1.size)
    | (at_builtin; refine wpList_append_any _ rfl (.tmp 10) (.tmp 11) 22 rfl w1.heap.size 5 i0 (.int .u8 0) 1 1 Tryd.underlying22 hi hz0 hz1 hz2 rfl (by decide) _ _ _ rfl (World.ownsRow_lit (base := w1.heap.size) (e := 5) (size := 1) w1 #[] 0 (Nat.le_refl _) (by decide) rfl) B A2 m d (Lib.byteCells p) rfl ((hr2.below (hb1.mono hB)).alloc (by omega) _) (bc_one p) (by unfold maxLen; omega) (by omega) (by simp) ?_; intro A2' c2 w2 hown2 hgrow2 hlie2; have hb2 := below_own (World.ownsRow_lit (base := w1.heap.size) (e := 5) (size := 1) w1 #[] 0 (Nat.le_refl _) (by decide) rfl) hgrow2; clear hgrow2 hlie2))
  have hsz2 := hb2.size
  have hrd := (Rd.of_own hown1).below hb2
  refine (mp_match A1 A2' n c1 m c2 _ l e w2 hm (by omega) hrd ((hg.below hb1).below hb2)).mono ?_
  rintro e w3 ⟨rfl, rfl⟩
  go_wp2
  go_ret
  exact ⟨rfl, hb1.trans (hb2.mono hsz1)⟩

theorem sm_no {l : List UInt8} {e : Bool} {A : Option Addr} {n c B : Nat} {w : World} (hn : n ≤ 9223372036854775806) (hr : RdB w B A n l) (h : (sMatch l e).2 = false) :
    Calls Tryd.prog 6 #[.slice A n c, .bool e] w fun e' w' => e' = .returned (.tuple #[.int .i64 (sMatch l e).1, .bool false]) ∧ Below w.heap.size w w' :=
  (smatch_any A n c B l e w hn hr).mono fun _ _ ⟨he, hw⟩ => ⟨by rw [he, h], hw⟩
theorem sm_yes {l : List UInt8} {e : Bool} {A : Option Addr} {n c B : Nat} {w : World} (hn : n ≤ 9223372036854775806) (hr : RdB w B A n l) (h : (sMatch l e).2 = true) :
    Calls Tryd.prog 6 #[.slice A n c, .bool e] w fun e' w' => e' = .returned (.tuple #[.int .i64 (mAfter l e), .bool true]) ∧ Below w.heap.size w w' :=
  (smatch_any A n c B l e w hn hr).mono fun _ _ ⟨he, hw⟩ => ⟨by rw [he, h, sMatch_ok l e h], hw⟩

set_option maxHeartbeats 1000000 in
theorem walk_small (A A2 : Option Addr) (n c m d B : Nat) (p l : List UInt8) (e : Bool) (w : World) (hn : n ≤ 16777216) (hm : m ≤ 16777216) (hB : B ≤ w.heap.size) (hr : RdB w B A n p) (hr2 : RdB w B A2 m l) (hg : ErrAt w 0) :
    Calls Tryd.prog 3 #[.slice A n c, .slice A2 m d, .bool e] w fun e' w' => e' = .returned (.bool true) ∧ Below w.heap.size w w' := by
  obtain ⟨i0, hi, hz0, hz1, hz2⟩ := info_parts info5
  by_cases hs : (sMatch l e).2 = true
  · have HS := Lib.hid (sm_yes (c := d) (w := w) (by omega) hr2 hs)
    clear hs
    go_enter Tryd.func3, Tryd.ntmps3
    go_wp2_with fail
    refine HS.out.mono ?_
    rintro e w0 ⟨rfl, hb0⟩
    have hsz0 := hb0.size
    have hg0 := hg.below hb0
    have hra := hr.below (hb0.mono hB)
    have hra2 := hr2.below (hb0.mono hB)
    have hown0 := World.ownsRow_lit (base := w0.heap.size) (e := 5) (size := 1) w0 #[] 0 (Nat.le_refl _) (by decide) rfl
    clear hr hr2
    go_wp2_with (first
      | (at_builtin; refine wpList_append_any _ rfl (.tmp 33) (.tmp 34) 22 rfl w0.heap.size 5 i0 (.int .u8 0) 1 1 Tryd.underlying22 hi hz0 hz1 hz2 rfl (by decide) _ _ _ rfl hown0 B A n c (Lib.byteCells p) rfl (hra.alloc (by omega) _) (bc_one p) (by unfold maxLen; omega) (by omega) (by simp) ?_; intro A1 c1 w1 hown1 hgrow1 hlie1; have hb1 := below_own hown0 hgrow1; simp only [Nat.zero_add, List.nil_append] at hown1; clear hgrow1 hlie1; have hsz1 := hb1.size)
      | (at_builtin; refine wpList_append_any _ rfl (.tmp 35) (.tmp 36) 22 rfl w0.heap.size 5 i0 (.int .u8 0) 1 1 Tryd.underlying22 hi hz0 hz1 hz2 rfl (by decide) _ _ _ rfl hown1 B A2 m d (Lib.byteCells l) rfl (hra2.below (hb1.mono (by omega))) (bc_one l) (by unfold maxLen; omega) (by omega) (by omega) ?_; intro A2' c2 w2 hown2 hgrow2 hlie2; have hb2 := hb1.grown hgrow2 hsz1 (fun j hj => (hown1.lt j hj).1); clear hgrow2 hlie2))
    have hsz2 := hb2.size
    rw [← Lib.byteCells_append] at hown2
    have hrd := Rd.of_own hown2
    have hpl : p.length = n := RdB.len hra
    have HL : Hid ((p ++ l).drop n = l) := by show _ = _; rw [← hpl, List.drop_left]
    refine (impl_match A2' A (n + m) c2 n c w2.heap.size (p ++ l) p e w2 (by omega) (by omega) (Nat.le_refl _) hrd ((hra.below (hb2.mono (by omega))).more (by omega)) (hg0.below hb2)).mono ?_
    rintro e w3 ⟨rfl, hb3⟩
    rw [HL.out]
    go_wp2
    go_ret
    exact ⟨by simp, (hb0.trans (hb2.mono hsz0)).trans (hb3.mono (by omega))⟩
  · have HS := Lib.hid (sm_no (c := d) (w := w) (by omega) hr2 (by simpa using hs))
    clear hs hr hr2
    go_enter Tryd.func3, Tryd.ntmps3
    go_wp2_with fail
    refine HS.out.mono ?_
    rintro e w0 ⟨rfl, hb0⟩
    go_wp2
    go_ret
    exact ⟨rfl, hb0⟩

theorem walk (A A2 : Option Addr) (n c m d B : Nat) (p l : List UInt8) (e : Bool) (w : World) (hB : B ≤ w.heap.size) (hr : RdB w B A n p) (hr2 : RdB w B A2 m l) (hg : ErrAt w 0) :
    Calls Tryd.prog 3 #[.slice A n c, .slice A2 m d, .bool e] w fun e' w' => e' = .returned (.bool true) ∧ Below w.heap.size w w' := by
  by_cases h0 : n ≤ 16777216 ∧ m ≤ 16777216
  · exact walk_small A A2 n c m d B p l e w h0.1 h0.2 hB hr hr2 hg
  · clear hr hr2
    have h : 2147483647 < n ∨ (n ≤ 2147483647 ∧ 2147483647 < m) ∨ (n ≤ 2147483647 ∧ m ≤ 2147483647 ∧ 16777216 < n) ∨ (m ≤ 2147483647 ∧ n ≤ 16777216 ∧ 16777216 < m) := by omega
    clear h0
    rcases h with h | ⟨h, h'⟩ | ⟨h, h', h''⟩ | ⟨h, h', h''⟩
    all_goals
      go_enter Tryd.func3, Tryd.ntmps3
      go_wp2
      go_ret
      exact ⟨rfl, Below.refl _ _⟩

end Go.Proofs.YtfbjfcnkmhnimaaDoor
