/- scanUntilBoundary for every text, ScanUntilBoundary, and impl.Scan. -/
import Derived.Test.YtfbjfcnkmhnimaaDoorScanB
import Derived.Lib.IndexMore
import Derived.LaidEql
namespace Go.Proofs.YtfbjfcnkmhnimaaDoor
open Go.RowKit
set_option linter.unusedVariables false
set_option linter.unusedSimpArgs false

set_option maxHeartbeats 2000000 in
theorem scan_short (A0 A1 A2 : Option Addr) (n c m1 c1 m2 c2 B : Nat) (l d nl : List UInt8) (e : Bool) (v : Value) (aE : Addr) (w : World) (hnc : n ≤ c) (hm1 : m1 ≤ c1)
    (hr : RdB w B A0 n l) (hd : RdB w B A1 m1 d) (he : IsErr e v) (hp : Lib.hasPrefix l d = false) (hp2 : Lib.hasPrefix d l = true) :
    Calls Tryd.prog 20 #[.slice A0 n c, .slice A1 m1 c1, .slice A2 m2 c2, .int .i64 0, v] w fun e' w' => e' = .returned (.tuple #[.int .i64 (scanP l d nl true e).1, errR aE v (scanP l d nl true e).2]) ∧ Below w.heap.size w w' := by
  have HR : Hid (scanP l d nl true e = (0, 2)) := by
    show _ = _
    unfold scanP
    rw [if_neg (by simp [hp]), if_pos ⟨rfl, hp2⟩]
  have H1 := Lib.hid hp
  have H2 := Lib.hid hp2
  have HRr := Lib.hid hr
  have HRd := Lib.hid hd
  clear hr hd hp hp2 he
  go_enter Tryd.func20, Tryd.ntmps20
  go_wp2_with fail
  refine (hp_b false hnc HRr.out HRd.out H1.out).mono ?_
  rintro e w1 ⟨rfl, rfl⟩
  go_wp2_with fail
  refine (hp_b true hm1 HRd.out HRr.out H2.out).mono ?_
  rintro e w1 ⟨rfl, rfl⟩
  go_wp2
  go_ret2
  exact ⟨ret_ie HR.out rfl, Below.refl _ _⟩

theorem scan_tail (A0 A1 A2 : Option Addr) (n c m1 c1 m2 c2 B : Nat) (t : Int) (l d nl : List UInt8) (e : Bool) (v : Value) (aE : Addr) (w : World) (hnc : n ≤ c) (hn : n ≤ 1152921504606846976) (hm1 : m1 ≤ c1) (hm2 : 0 < m2) (hm2c : m2 ≤ c2) (hm2b : m2 ≤ 1000) (hB : B ≤ w.heap.size)
    (hr : RdB w B A0 n l) (hd : RdB w B A1 m1 d) (hs : RdB w B A2 m2 nl) (he : IsErr e v) (hE : ErrIs w 1 aE) (hpast : Past t l d) :
    Calls Tryd.prog 20 #[.slice A0 n c, .slice A1 m1 c1, .slice A2 m2 c2, .int .i64 t, v] w fun e' w' => e' = .returned (.tuple #[.int .i64 (scanT l nl e).1, errR aE v (scanT l nl e).2]) ∧ Below w.heap.size w w' := by
  have hl := hr.len
  have hls := hs.len
  rcases Lib.index_spec l nl with ⟨hx, _⟩ | ⟨k, hx, hk, ho, _⟩
  · by_cases hp : Lib.hasPrefix nl l = true
    · exact tail_short A0 A1 A2 n c m1 c1 m2 c2 B t l d nl e v aE w hnc hn hm1 hm2 hm2c hm2b hB hr hd hs he hE hpast hx hp
    · have hp' : Lib.hasPrefix nl l = false := by simpa using hp
      have hx0 : nl[0]? = some (nl[0]'(by omega)) := List.getElem?_eq_getElem _
      rcases lastI_cases l (nl[0]'(by omega)) with ⟨hlk, _⟩ | ⟨k, hlk, hk, _⟩
      · exact tail_none A0 A1 A2 n c m1 c1 m2 c2 B t l d nl e v aE w hnc hn hm1 hm2 hm2c hm2b hB hr hd hs he hE hpast hx hp' _ hx0 hlk
      · have hkn : k < n := by rw [← hl]; exact (List.getElem?_eq_some_iff.1 hk).1
        by_cases hpk : Lib.hasPrefix nl (l.drop k) = true
        · exact tail_cut A0 A1 A2 n c m1 c1 m2 c2 B t l d nl e v aE w hnc hn hm1 hm2 hm2c hm2b hB hr hd hs he hE hpast hx hp' k _ hx0 hlk hkn hpk
        · exact tail_whole A0 A1 A2 n c m1 c1 m2 c2 B t l d nl e v aE w hnc hn hm1 hm2 hm2c hm2b hB hr hd hs he hE hpast hx hp' k _ hx0 hlk hkn (by simpa using hpk)
  · have hroom := Lib.index_room l nl (by rw [hx]; omega)
    rw [hx, hl, hls] at hroom
    have hkn : k + m2 ≤ n := by omega
    rcases mAfter_cases (l.drop (k + m2)) e with hm | hm | hm
    · exact tail_found_no A0 A1 A2 n c m1 c1 m2 c2 B t l d nl e v aE w hnc hn hm1 hm2 hm2c hm2b hB hr hd hs he hE hpast k hx hkn hm
    · exact tail_found_more A0 A1 A2 n c m1 c1 m2 c2 B t l d nl e v aE w hnc hn hm1 hm2 hm2c hm2b hB hr hd hs he hE hpast k hx hkn hm
    · exact tail_found_yes A0 A1 A2 n c m1 c1 m2 c2 B t l d nl e v aE w hnc hn hm1 hm2 hm2c hm2b hB hr hd hs he hE hpast k hx hkn hm

theorem scan_any (A0 A1 A2 : Option Addr) (n c m1 c1 m2 c2 B : Nat) (t : Int) (l d nl : List UInt8) (e : Bool) (v : Value) (aE : Addr) (w : World) (hnc : n ≤ c) (hn : n ≤ 1152921504606846976) (hm1 : m1 ≤ c1) (hm1b : m1 ≤ 1000) (hm2 : 0 < m2) (hm2c : m2 ≤ c2) (hm2b : m2 ≤ 1000) (hB : B ≤ w.heap.size)
    (hr : RdB w B A0 n l) (hd : RdB w B A1 m1 d) (hs : RdB w B A2 m2 nl) (he : IsErr e v) (hE : ErrIs w 1 aE) :
    Calls Tryd.prog 20 #[.slice A0 n c, .slice A1 m1 c1, .slice A2 m2 c2, .int .i64 t, v] w fun e' w' => e' = .returned (.tuple #[.int .i64 (scanP l d nl (t == 0) e).1, errR aE v (scanP l d nl (t == 0) e).2]) ∧ Below w.heap.size w w' := by
  by_cases ht : t = 0
  · subst ht
    by_cases hp : Lib.hasPrefix l d = true
    · exact scan_head A0 A1 A2 n c m1 c1 m2 c2 B l d nl e v aE w hnc (by omega) hm1b hr hd he hE hp
    · have hp' : Lib.hasPrefix l d = false := by simpa using hp
      by_cases hp2 : Lib.hasPrefix d l = true
      · exact scan_short A0 A1 A2 n c m1 c1 m2 c2 B l d nl e v aE w hnc hm1 hr hd he hp' hp2
      · have hp2' : Lib.hasPrefix d l = false := by simpa using hp2
        have e1 : scanP l d nl ((0 : Int) == 0) e = scanT l nl e := by
          unfold scanP
          rw [if_neg (by simp [hp']), if_neg (by simp [hp2'])]
        rw [e1]
        exact scan_tail A0 A1 A2 n c m1 c1 m2 c2 B 0 l d nl e v aE w hnc hn hm1 hm2 hm2c hm2b hB hr hd hs he hE (.inr ⟨rfl, hp', hp2'⟩)
  · have hb : (t == 0) = false := by simpa using ht
    have e1 : scanP l d nl (t == 0) e = scanT l nl e := by
      unfold scanP
      rw [hb, if_neg (by simp), if_neg (by simp)]
    rw [e1]
    exact scan_tail A0 A1 A2 n c m1 c1 m2 c2 B t l d nl e v aE w hnc hn hm1 hm2 hm2c hm2b hB hr hd hs he hE (.inl hb)

/-- What ScanUntilBoundary tells of the rest. -/
def how (e : Bool) (k : Nat) : Int := if k = 0 then 0 else if k = 1 then 1 else if e then 2 else 0

theorem info40 : (Tryd.prog.info? 45).map (·.comparable) = some true := by kernel_rfl
theorem info63 : (Tryd.prog.info? 63).map (·.size) = some 1 := by kernel_rfl

set_option maxHeartbeats 2000000 in
theorem mp_scan (A0 A1 A2 : Option Addr) (n c m1 c1 m2 c2 B : Nat) (t : Int) (l d nl : List UInt8) (e : Bool) (aE aU : Addr) (w : World) (hnc : n ≤ c) (hn : n ≤ 1152921504606846976) (hm1 : m1 ≤ c1) (hm1b : m1 ≤ 1000) (hm2 : 0 < m2) (hm2c : m2 ≤ c2) (hm2b : m2 ≤ 1000) (hB : B ≤ w.heap.size)
    (hr : RdB w B A0 n l) (hd : RdB w B A1 m1 d) (hs : RdB w B A2 m2 nl) (hE : ErrIs w 1 aE) (hU : ErrIs w 0 aU) (hne : aU ≠ aE) :
    Calls Tryd.prog 17 #[.slice A0 n c, .slice A1 m1 c1, .slice A2 m2 c2, .int .i64 t, .bool e] w fun e' w' => e' = .returned (.tuple #[.int .i64 (scanP l d nl (t == 0) e).1, .int .i64 (how e (scanP l d nl (t == 0) e).2)]) ∧ Below w.heap.size w w' := by
  obtain ⟨i45, hi45, hcomp⟩ := Option.map_eq_some_iff.1 info40
  obtain ⟨i63, hi63, hsz63⟩ := Option.map_eq_some_iff.1 info63
  obtain ⟨v, hv, hve⟩ : ∃ v, IsErr e v ∧ v = (if e then .iface 45 (.pointer (some aU)) else .nilIface) := by
    cases e
    · exact ⟨_, .inl ⟨rfl, rfl⟩, rfl⟩
    · exact ⟨_, .inr ⟨rfl, 45, some aU, rfl⟩, rfl⟩
  have HC := Lib.hid (scan_any A0 A1 A2 n c m1 c1 m2 c2 B t l d nl e v aE w hnc hn hm1 hm1b hm2 hm2c hm2b hB hr hd hs hv hE)
  have HE := Lib.hid hE
  have HU := Lib.hid hU
  have HNe := Lib.hid hne
  have hcU := hU.1
  clear hr hd hs hv hE hU hne
  obtain ⟨p, hp⟩ : ∃ p, p = scanP l d nl (t == 0) e := ⟨_, rfl⟩
  rw [← hp] at HC ⊢
  clear hp
  obtain ⟨r, k⟩ := p
  have hk : k = 0 ∨ k = 1 ∨ ∃ j, k = j + 2 := by
    rcases k with _ | _ | j
    · exact .inl rfl
    · exact .inr (.inl rfl)
    · exact .inr (.inr ⟨j, rfl⟩)
  cases e
  · simp only [Bool.false_eq_true, if_false] at hve
    subst hve
    rcases hk with rfl | rfl | ⟨j, rfl⟩
    · go_enter Tryd.func17, Tryd.ntmps17
      go_wp2_with fail
      refine HC.out.mono ?_
      rintro e w1 ⟨rfl, hb1⟩
      simp only [errR]
      go_wp2
      go_ret2
      exact ⟨by simp [how], hb1⟩
    · have heq := fun w => run_eql_iface_ptr_same (P := Tryd.prog) w aE Tryd.underlying40 Tryd.underlying45 hi45 hcomp hi63
      go_enter Tryd.func17, Tryd.ntmps17
      go_wp2_with fail
      refine HC.out.mono ?_
      rintro e w1 ⟨rfl, hb1⟩
      simp only [errR]
      have hcE := (HE.out.below hb1).1
      go_wp2
      go_ret2
      exact ⟨by simp [how], hb1⟩
    · go_enter Tryd.func17, Tryd.ntmps17
      go_wp2_with fail
      refine HC.out.mono ?_
      rintro e w1 ⟨rfl, hb1⟩
      simp only [errR]
      go_wp2
      go_ret2
      exact ⟨by simp [how], hb1⟩
  · simp only [if_true] at hve
    subst hve
    rcases hk with rfl | rfl | ⟨j, rfl⟩
    · go_enter Tryd.func17, Tryd.ntmps17
      go_wp2_with fail
      refine HC.out.mono ?_
      rintro e w1 ⟨rfl, hb1⟩
      simp only [errR]
      go_wp2
      go_ret2
      exact ⟨by simp [how], hb1⟩
    · have heq := fun w => run_eql_iface_ptr_same (P := Tryd.prog) w aE Tryd.underlying40 Tryd.underlying45 hi45 hcomp hi63
      go_enter Tryd.func17, Tryd.ntmps17
      go_wp2_with fail
      refine HC.out.mono ?_
      rintro e w1 ⟨rfl, hb1⟩
      simp only [errR]
      have hcE := (HE.out.below hb1).1
      go_wp2
      go_ret2
      exact ⟨by simp [how], hb1⟩
    · go_enter Tryd.func17, Tryd.ntmps17
      go_wp2_with fail
      refine HC.out.mono ?_
      rintro e w1 ⟨rfl, hb1⟩
      simp only [errR]
      have hcE := (HE.out.below hb1).1
      obtain ⟨ca, ta, oa⟩ := (HU.out.below hb1).2
      obtain ⟨cb, tb, ob⟩ := (HE.out.below hb1).2
      have heq := run_eql_iface_ptr_other (P := Tryd.prog) w1 Tryd.underlying40 Tryd.underlying45 hi45 hcomp hi63 (by rw [hsz63]; decide) HNe.out oa ob
      clear oa ob
      go_wp2
      go_ret2
      exact ⟨by simp [how], hb1⟩

end Go.Proofs.YtfbjfcnkmhnimaaDoor
