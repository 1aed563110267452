/- The walk of scanUntilBoundary behind the look at the body's beginning, and of what calls it. -/
import Derived.Test.YtfbjfcnkmhnimaaDoorScan
namespace Go.Proofs.YtfbjfcnkmhnimaaDoor
open Go.RowKit
set_option linter.unusedVariables false
set_option linter.unusedSimpArgs false

/-- The head of the walk: no delimiter at the beginning. -/
def Past (t : Int) (l d : List UInt8) : Prop := (t == 0) = false ∨ (t = 0 ∧ Lib.hasPrefix l d = false ∧ Lib.hasPrefix d l = false)
set_option maxHeartbeats 2000000 in
set_option maxRecDepth 100000 in
theorem tail_found_no (A0 A1 A2 : Option Addr) (n c m1 c1 m2 c2 B : Nat) (t : Int) (l d nl : List UInt8) (e : Bool) (v : Value) (aE : Addr) (w : World) (hnc : n ≤ c) (hn : n ≤ 1152921504606846976) (hm1 : m1 ≤ c1) (hm2 : 0 < m2) (hm2c : m2 ≤ c2) (hm2b : m2 ≤ 1000) (hB : B ≤ w.heap.size)
    (hr : RdB w B A0 n l) (hd : RdB w B A1 m1 d) (hs : RdB w B A2 m2 nl) (he : IsErr e v) (hE : ErrIs w 1 aE) (hpast : Past t l d) (k : Nat) (hx : Lib.index l nl = k) (hkn : k + m2 ≤ n) (hma : mAfter (l.drop (k + m2)) e = -1) :
    Calls Tryd.prog 20 #[.slice A0 n c, .slice A1 m1 c1, .slice A2 m2 c2, .int .i64 t, v] w fun e' w' => e' = .returned (.tuple #[.int .i64 (scanT l nl e).1, errR aE v (scanT l nl e).2]) ∧ Below w.heap.size w w' := by
  have hl := hr.len
  have hls := hs.len
  have HR : Hid (scanT l nl e = (((k : Int) + (m2 : Int)), 0)) := by
    show _ = _
    unfold scanT
    rw [hx, if_pos (by omega), hls, show ((k : Int).toNat + m2) = k + m2 from by omega, hma]
    simp [pick]
  have HX := Lib.hid hx
  have HMa := Lib.hid hma
  clear hx hma
  have HRr := Lib.hid hr
  have HRd := Lib.hid hd
  have HRs := Lib.hid hs
  have HIe := Lib.hid he
  have HE := Lib.hid hE
  have hBw := hB
  clear hr hd he hE hs hl hls
  have hck : ¬ c = k := by omega
  have hkc : (k : Int) ≤ (c : Int) := by omega
  have hkn' : (k : Int) ≤ (n : Int) := by omega
  obtain ⟨b, o, rfl, hbB, _⟩ := HRr.out.2 (by omega)
  rcases hpast with hpast | hpast
  · -- head 0
    go_enter Tryd.func20, Tryd.ntmps20
    go_wp2_with fail
    refine (ix_b k hnc (by omega) (by omega) hm2 hBw HRr.out HRs.out HX.out).mono ?_
    rintro e w1 ⟨rfl, hb1⟩
    have hrr := HRr.out.below (hb1.mono hBw)
    have hrs := HRs.out.below (hb1.mono hBw)
    have HA := Lib.hid hrr
    have HS2 := Lib.hid hrs
    clear hrr hrs
    have HC := Lib.hid (show RdB w1 B (some ⟨b, o + k, none⟩) (n - k) (l.drop k) from by have := RdB.cut HA.out (k := k) (cap := c) (by omega) hnc; rw [if_neg hck] at this; simpa [Addr.add_lit] using this)
    go_wp2_with fail
    refine (ma_b (m := m2) (-1) (by omega) (by omega) HC.out HIe.out (by rw [List.drop_drop]; exact HMa.out)).mono ?_
    rintro e w2 ⟨rfl, rfl⟩
    go_wp2
    go_ret2
    exact ⟨ret_ie HR.out rfl, hb1⟩
  · -- head 1
    obtain ⟨rfl, h1, h2⟩ := hpast
    have H1 := Lib.hid h1
    have H2 := Lib.hid h2
    clear h1 h2
    go_enter Tryd.func20, Tryd.ntmps20
    go_wp2_with fail
    refine (hp_b false hnc HRr.out HRd.out H1.out).mono ?_
    rintro e w1 ⟨rfl, rfl⟩
    go_wp2_with fail
    refine (hp_b false hm1 HRd.out HRr.out H2.out).mono ?_
    rintro e w1 ⟨rfl, rfl⟩
    go_wp2_with fail
    refine (ix_b k hnc (by omega) (by omega) hm2 hBw HRr.out HRs.out HX.out).mono ?_
    rintro e w1 ⟨rfl, hb1⟩
    have hrr := HRr.out.below (hb1.mono hBw)
    have hrs := HRs.out.below (hb1.mono hBw)
    have HA := Lib.hid hrr
    have HS2 := Lib.hid hrs
    clear hrr hrs
    have HC := Lib.hid (show RdB w1 B (some ⟨b, o + k, none⟩) (n - k) (l.drop k) from by have := RdB.cut HA.out (k := k) (cap := c) (by omega) hnc; rw [if_neg hck] at this; simpa [Addr.add_lit] using this)
    go_wp2_with fail
    refine (ma_b (m := m2) (-1) (by omega) (by omega) HC.out HIe.out (by rw [List.drop_drop]; exact HMa.out)).mono ?_
    rintro e w2 ⟨rfl, rfl⟩
    go_wp2
    go_ret2
    exact ⟨ret_ie HR.out rfl, hb1⟩

set_option maxHeartbeats 2000000 in
set_option maxRecDepth 100000 in
theorem tail_found_more (A0 A1 A2 : Option Addr) (n c m1 c1 m2 c2 B : Nat) (t : Int) (l d nl : List UInt8) (e : Bool) (v : Value) (aE : Addr) (w : World) (hnc : n ≤ c) (hn : n ≤ 1152921504606846976) (hm1 : m1 ≤ c1) (hm2 : 0 < m2) (hm2c : m2 ≤ c2) (hm2b : m2 ≤ 1000) (hB : B ≤ w.heap.size)
    (hr : RdB w B A0 n l) (hd : RdB w B A1 m1 d) (hs : RdB w B A2 m2 nl) (he : IsErr e v) (hE : ErrIs w 1 aE) (hpast : Past t l d) (k : Nat) (hx : Lib.index l nl = k) (hkn : k + m2 ≤ n) (hma : mAfter (l.drop (k + m2)) e = 0) :
    Calls Tryd.prog 20 #[.slice A0 n c, .slice A1 m1 c1, .slice A2 m2 c2, .int .i64 t, v] w fun e' w' => e' = .returned (.tuple #[.int .i64 (scanT l nl e).1, errR aE v (scanT l nl e).2]) ∧ Below w.heap.size w w' := by
  have hl := hr.len
  have hls := hs.len
  have HR : Hid (scanT l nl e = ((k : Int), 0)) := by
    show _ = _
    unfold scanT
    rw [hx, if_pos (by omega), hls, show ((k : Int).toNat + m2) = k + m2 from by omega, hma]
    simp [pick]
  have HX := Lib.hid hx
  have HMa := Lib.hid hma
  clear hx hma
  have HRr := Lib.hid hr
  have HRd := Lib.hid hd
  have HRs := Lib.hid hs
  have HIe := Lib.hid he
  have HE := Lib.hid hE
  have hBw := hB
  clear hr hd he hE hs hl hls
  have hck : ¬ c = k := by omega
  have hkc : (k : Int) ≤ (c : Int) := by omega
  have hkn' : (k : Int) ≤ (n : Int) := by omega
  obtain ⟨b, o, rfl, hbB, _⟩ := HRr.out.2 (by omega)
  rcases hpast with hpast | hpast
  · -- head 0
    go_enter Tryd.func20, Tryd.ntmps20
    go_wp2_with fail
    refine (ix_b k hnc (by omega) (by omega) hm2 hBw HRr.out HRs.out HX.out).mono ?_
    rintro e w1 ⟨rfl, hb1⟩
    have hrr := HRr.out.below (hb1.mono hBw)
    have hrs := HRs.out.below (hb1.mono hBw)
    have HA := Lib.hid hrr
    have HS2 := Lib.hid hrs
    clear hrr hrs
    have HC := Lib.hid (show RdB w1 B (some ⟨b, o + k, none⟩) (n - k) (l.drop k) from by have := RdB.cut HA.out (k := k) (cap := c) (by omega) hnc; rw [if_neg hck] at this; simpa [Addr.add_lit] using this)
    go_wp2_with fail
    refine (ma_b (m := m2) 0 (by omega) (by omega) HC.out HIe.out (by rw [List.drop_drop]; exact HMa.out)).mono ?_
    rintro e w2 ⟨rfl, rfl⟩
    go_wp2
    go_ret2
    exact ⟨ret_ie HR.out rfl, hb1⟩
  · -- head 1
    obtain ⟨rfl, h1, h2⟩ := hpast
    have H1 := Lib.hid h1
    have H2 := Lib.hid h2
    clear h1 h2
    go_enter Tryd.func20, Tryd.ntmps20
    go_wp2_with fail
    refine (hp_b false hnc HRr.out HRd.out H1.out).mono ?_
    rintro e w1 ⟨rfl, rfl⟩
    go_wp2_with fail
    refine (hp_b false hm1 HRd.out HRr.out H2.out).mono ?_
    rintro e w1 ⟨rfl, rfl⟩
    go_wp2_with fail
    refine (ix_b k hnc (by omega) (by omega) hm2 hBw HRr.out HRs.out HX.out).mono ?_
    rintro e w1 ⟨rfl, hb1⟩
    have hrr := HRr.out.below (hb1.mono hBw)
    have hrs := HRs.out.below (hb1.mono hBw)
    have HA := Lib.hid hrr
    have HS2 := Lib.hid hrs
    clear hrr hrs
    have HC := Lib.hid (show RdB w1 B (some ⟨b, o + k, none⟩) (n - k) (l.drop k) from by have := RdB.cut HA.out (k := k) (cap := c) (by omega) hnc; rw [if_neg hck] at this; simpa [Addr.add_lit] using this)
    go_wp2_with fail
    refine (ma_b (m := m2) 0 (by omega) (by omega) HC.out HIe.out (by rw [List.drop_drop]; exact HMa.out)).mono ?_
    rintro e w2 ⟨rfl, rfl⟩
    go_wp2
    go_ret2
    exact ⟨ret_ie HR.out rfl, hb1⟩

set_option maxHeartbeats 2000000 in
set_option maxRecDepth 100000 in
theorem tail_found_yes (A0 A1 A2 : Option Addr) (n c m1 c1 m2 c2 B : Nat) (t : Int) (l d nl : List UInt8) (e : Bool) (v : Value) (aE : Addr) (w : World) (hnc : n ≤ c) (hn : n ≤ 1152921504606846976) (hm1 : m1 ≤ c1) (hm2 : 0 < m2) (hm2c : m2 ≤ c2) (hm2b : m2 ≤ 1000) (hB : B ≤ w.heap.size)
    (hr : RdB w B A0 n l) (hd : RdB w B A1 m1 d) (hs : RdB w B A2 m2 nl) (he : IsErr e v) (hE : ErrIs w 1 aE) (hpast : Past t l d) (k : Nat) (hx : Lib.index l nl = k) (hkn : k + m2 ≤ n) (hma : mAfter (l.drop (k + m2)) e = 1) :
    Calls Tryd.prog 20 #[.slice A0 n c, .slice A1 m1 c1, .slice A2 m2 c2, .int .i64 t, v] w fun e' w' => e' = .returned (.tuple #[.int .i64 (scanT l nl e).1, errR aE v (scanT l nl e).2]) ∧ Below w.heap.size w w' := by
  have hl := hr.len
  have hls := hs.len
  have HR : Hid (scanT l nl e = ((k : Int), 1)) := by
    show _ = _
    unfold scanT
    rw [hx, if_pos (by omega), hls, show ((k : Int).toNat + m2) = k + m2 from by omega, hma]
    simp [pick]
  have HX := Lib.hid hx
  have HMa := Lib.hid hma
  clear hx hma
  have HRr := Lib.hid hr
  have HRd := Lib.hid hd
  have HRs := Lib.hid hs
  have HIe := Lib.hid he
  have HE := Lib.hid hE
  have hBw := hB
  clear hr hd he hE hs hl hls
  have hck : ¬ c = k := by omega
  have hkc : (k : Int) ≤ (c : Int) := by omega
  have hkn' : (k : Int) ≤ (n : Int) := by omega
  obtain ⟨b, o, rfl, hbB, _⟩ := HRr.out.2 (by omega)
  rcases hpast with hpast | hpast
  · -- head 0
    go_enter Tryd.func20, Tryd.ntmps20
    go_wp2_with fail
    refine (ix_b k hnc (by omega) (by omega) hm2 hBw HRr.out HRs.out HX.out).mono ?_
    rintro e w1 ⟨rfl, hb1⟩
    have hrr := HRr.out.below (hb1.mono hBw)
    have hrs := HRs.out.below (hb1.mono hBw)
    have HA := Lib.hid hrr
    have HS2 := Lib.hid hrs
    clear hrr hrs
    have HC := Lib.hid (show RdB w1 B (some ⟨b, o + k, none⟩) (n - k) (l.drop k) from by have := RdB.cut HA.out (k := k) (cap := c) (by omega) hnc; rw [if_neg hck] at this; simpa [Addr.add_lit] using this)
    have hcell := (HE.out.below hb1).1
    go_wp2_with fail
    refine (ma_b (m := m2) 1 (by omega) (by omega) HC.out HIe.out (by rw [List.drop_drop]; exact HMa.out)).mono ?_
    rintro e w2 ⟨rfl, rfl⟩
    go_wp2
    go_quiet (fail)
    go_wp2
    go_ret2
    exact ⟨ret_ie HR.out rfl, below_drewN hb1 _⟩
  · -- head 1
    obtain ⟨rfl, h1, h2⟩ := hpast
    have H1 := Lib.hid h1
    have H2 := Lib.hid h2
    clear h1 h2
    go_enter Tryd.func20, Tryd.ntmps20
    go_wp2_with fail
    refine (hp_b false hnc HRr.out HRd.out H1.out).mono ?_
    rintro e w1 ⟨rfl, rfl⟩
    go_wp2_with fail
    refine (hp_b false hm1 HRd.out HRr.out H2.out).mono ?_
    rintro e w1 ⟨rfl, rfl⟩
    go_wp2_with fail
    refine (ix_b k hnc (by omega) (by omega) hm2 hBw HRr.out HRs.out HX.out).mono ?_
    rintro e w1 ⟨rfl, hb1⟩
    have hrr := HRr.out.below (hb1.mono hBw)
    have hrs := HRs.out.below (hb1.mono hBw)
    have HA := Lib.hid hrr
    have HS2 := Lib.hid hrs
    clear hrr hrs
    have HC := Lib.hid (show RdB w1 B (some ⟨b, o + k, none⟩) (n - k) (l.drop k) from by have := RdB.cut HA.out (k := k) (cap := c) (by omega) hnc; rw [if_neg hck] at this; simpa [Addr.add_lit] using this)
    have hcell := (HE.out.below hb1).1
    go_wp2_with fail
    refine (ma_b (m := m2) 1 (by omega) (by omega) HC.out HIe.out (by rw [List.drop_drop]; exact HMa.out)).mono ?_
    rintro e w2 ⟨rfl, rfl⟩
    go_wp2
    go_quiet (fail)
    go_wp2
    go_ret2
    exact ⟨ret_ie HR.out rfl, below_drewN hb1 _⟩

set_option maxHeartbeats 2000000 in
theorem tail_short (A0 A1 A2 : Option Addr) (n c m1 c1 m2 c2 B : Nat) (t : Int) (l d nl : List UInt8) (e : Bool) (v : Value) (aE : Addr) (w : World) (hnc : n ≤ c) (hn : n ≤ 1152921504606846976) (hm1 : m1 ≤ c1) (hm2 : 0 < m2) (hm2c : m2 ≤ c2) (hm2b : m2 ≤ 1000) (hB : B ≤ w.heap.size)
    (hr : RdB w B A0 n l) (hd : RdB w B A1 m1 d) (hs : RdB w B A2 m2 nl) (he : IsErr e v) (hE : ErrIs w 1 aE) (hpast : Past t l d) (hx : Lib.index l nl = -1) (hp : Lib.hasPrefix nl l = true) :
    Calls Tryd.prog 20 #[.slice A0 n c, .slice A1 m1 c1, .slice A2 m2 c2, .int .i64 t, v] w fun e' w' => e' = .returned (.tuple #[.int .i64 (scanT l nl e).1, errR aE v (scanT l nl e).2]) ∧ Below w.heap.size w w' := by
  have hl := hr.len
  have hls := hs.len
  have HR : Hid (scanT l nl e = (0, 2)) := by
    show _ = _
    unfold scanT
    rw [hx, if_neg (by decide), if_pos hp]
  have HX := Lib.hid hx
  have HP := Lib.hid hp
  clear hx hp
  have HRr := Lib.hid hr
  have HRd := Lib.hid hd
  have HRs := Lib.hid hs
  have HIe := Lib.hid he
  have HE := Lib.hid hE
  have hBw := hB
  clear hr hd he hE hs hl hls
  rcases hpast with hpast | hpast
  · -- head 0
    go_enter Tryd.func20, Tryd.ntmps20
    go_wp2_with fail
    refine (ix_b (-1) hnc (by omega) (by omega) hm2 hBw HRr.out HRs.out HX.out).mono ?_
    rintro e w1 ⟨rfl, hb1⟩
    have hrr := HRr.out.below (hb1.mono hBw)
    have hrs := HRs.out.below (hb1.mono hBw)
    have HA := Lib.hid hrr
    have HS2 := Lib.hid hrs
    clear hrr hrs
    go_wp2_with fail
    refine (hp_b true hm2c HS2.out HA.out HP.out).mono ?_
    rintro e w2 ⟨rfl, rfl⟩
    go_wp2
    go_ret2
    exact ⟨ret_ie HR.out rfl, hb1⟩
  · -- head 1
    obtain ⟨rfl, h1, h2⟩ := hpast
    have H1 := Lib.hid h1
    have H2 := Lib.hid h2
    clear h1 h2
    go_enter Tryd.func20, Tryd.ntmps20
    go_wp2_with fail
    refine (hp_b false hnc HRr.out HRd.out H1.out).mono ?_
    rintro e w1 ⟨rfl, rfl⟩
    go_wp2_with fail
    refine (hp_b false hm1 HRd.out HRr.out H2.out).mono ?_
    rintro e w1 ⟨rfl, rfl⟩
    go_wp2_with fail
    refine (ix_b (-1) hnc (by omega) (by omega) hm2 hBw HRr.out HRs.out HX.out).mono ?_
    rintro e w1 ⟨rfl, hb1⟩
    have hrr := HRr.out.below (hb1.mono hBw)
    have hrs := HRs.out.below (hb1.mono hBw)
    have HA := Lib.hid hrr
    have HS2 := Lib.hid hrs
    clear hrr hrs
    go_wp2_with fail
    refine (hp_b true hm2c HS2.out HA.out HP.out).mono ?_
    rintro e w2 ⟨rfl, rfl⟩
    go_wp2
    go_ret2
    exact ⟨ret_ie HR.out rfl, hb1⟩

set_option maxHeartbeats 2000000 in
set_option maxRecDepth 100000 in
theorem tail_cut (A0 A1 A2 : Option Addr) (n c m1 c1 m2 c2 B : Nat) (t : Int) (l d nl : List UInt8) (e : Bool) (v : Value) (aE : Addr) (w : World) (hnc : n ≤ c) (hn : n ≤ 1152921504606846976) (hm1 : m1 ≤ c1) (hm2 : 0 < m2) (hm2c : m2 ≤ c2) (hm2b : m2 ≤ 1000) (hB : B ≤ w.heap.size)
    (hr : RdB w B A0 n l) (hd : RdB w B A1 m1 d) (hs : RdB w B A2 m2 nl) (he : IsErr e v) (hE : ErrIs w 1 aE) (hpast : Past t l d) (hx : Lib.index l nl = -1) (hp : Lib.hasPrefix nl l = false) (k : Nat) (x : UInt8) (hx0 : nl[0]? = some x) (hlk : lastI l x = k) (hkn : k < n) (hpk : Lib.hasPrefix nl (l.drop k) = true) :
    Calls Tryd.prog 20 #[.slice A0 n c, .slice A1 m1 c1, .slice A2 m2 c2, .int .i64 t, v] w fun e' w' => e' = .returned (.tuple #[.int .i64 (scanT l nl e).1, errR aE v (scanT l nl e).2]) ∧ Below w.heap.size w w' := by
  have hl := hr.len
  have hls := hs.len
  have hhd : nl.headD 0 = x := by cases nl with | nil => simp at hx0 | cons a r => simpa using hx0
  have HR : Hid (scanT l nl e = ((k : Int), 0)) := by
    show _ = _
    unfold scanT
    rw [hx, if_neg (by decide), if_neg (by simp [hp]), hhd, hlk]
    simp [hpk, hl]
  have HX := Lib.hid hx
  have HP := Lib.hid hp
  have HLk := Lib.hid hlk
  clear hx hp hlk hhd
  have HPk := Lib.hid hpk
  clear hpk
  obtain ⟨sb, so, y, rfl, hsB, hy, hcy⟩ := hs.at_ (k := 0) (by omega)
  obtain rfl : y = x := by rw [hx0] at hy; exact (Option.some.inj hy).symm
  rw [Nat.add_zero] at hcy
  have hp2 : (0 : Int) < (m2 : Int) := by omega
  clear hx0 hy
  have HRr := Lib.hid hr
  have HRd := Lib.hid hd
  have HRs := Lib.hid hs
  have HIe := Lib.hid he
  have HE := Lib.hid hE
  have hBw := hB
  clear hr hd he hE hs hl hls
  have hck : ¬ c = k := by omega
  have hkc : (k : Int) ≤ (c : Int) := by omega
  have hkn' : (k : Int) ≤ (n : Int) := by omega
  have hk0 : (0 : Int) ≤ (k : Int) := by omega
  obtain ⟨b, o, rfl, hbB, _⟩ := HRr.out.2 (by omega)
  rcases hpast with hpast | hpast
  · -- head 0
    go_enter Tryd.func20, Tryd.ntmps20
    go_wp2_with fail
    refine (ix_b (-1) hnc (by omega) (by omega) hm2 hBw HRr.out HRs.out HX.out).mono ?_
    rintro e w1 ⟨rfl, hb1⟩
    have hrr := HRr.out.below (hb1.mono hBw)
    have hrs := HRs.out.below (hb1.mono hBw)
    have HA := Lib.hid hrr
    have HS2 := Lib.hid hrs
    clear hrr hrs
    go_wp2_with fail
    refine (hp_b false hm2c HS2.out HA.out HP.out).mono ?_
    rintro e w2 ⟨rfl, rfl⟩
    have hcy2 := (hb1.cell (p := ⟨sb, so, none⟩) (by show sb < w.heap.size; omega)).trans hcy
    have HC := Lib.hid (show RdB w1 B (some ⟨b, o + k, none⟩) (n - k) (l.drop k) from by have := RdB.cut HA.out (k := k) (cap := c) (by omega) hnc; rw [if_neg hck] at this; simpa [Addr.add_lit] using this)
    go_wp2_with fail
    refine (la_b k (by omega) HA.out HLk.out).mono ?_
    rintro e w2 ⟨rfl, rfl⟩
    go_wp2_with fail
    refine (hp_b true hm2c HS2.out HC.out HPk.out).mono ?_
    rintro e w2 ⟨rfl, rfl⟩
    go_wp2
    go_ret2
    exact ⟨ret_ie HR.out rfl, hb1⟩
  · -- head 1
    obtain ⟨rfl, h1, h2⟩ := hpast
    have H1 := Lib.hid h1
    have H2 := Lib.hid h2
    clear h1 h2
    go_enter Tryd.func20, Tryd.ntmps20
    go_wp2_with fail
    refine (hp_b false hnc HRr.out HRd.out H1.out).mono ?_
    rintro e w1 ⟨rfl, rfl⟩
    go_wp2_with fail
    refine (hp_b false hm1 HRd.out HRr.out H2.out).mono ?_
    rintro e w1 ⟨rfl, rfl⟩
    go_wp2_with fail
    refine (ix_b (-1) hnc (by omega) (by omega) hm2 hBw HRr.out HRs.out HX.out).mono ?_
    rintro e w1 ⟨rfl, hb1⟩
    have hrr := HRr.out.below (hb1.mono hBw)
    have hrs := HRs.out.below (hb1.mono hBw)
    have HA := Lib.hid hrr
    have HS2 := Lib.hid hrs
    clear hrr hrs
    go_wp2_with fail
    refine (hp_b false hm2c HS2.out HA.out HP.out).mono ?_
    rintro e w2 ⟨rfl, rfl⟩
    have hcy2 := (hb1.cell (p := ⟨sb, so, none⟩) (by show sb < w.heap.size; omega)).trans hcy
    have HC := Lib.hid (show RdB w1 B (some ⟨b, o + k, none⟩) (n - k) (l.drop k) from by have := RdB.cut HA.out (k := k) (cap := c) (by omega) hnc; rw [if_neg hck] at this; simpa [Addr.add_lit] using this)
    go_wp2_with fail
    refine (la_b k (by omega) HA.out HLk.out).mono ?_
    rintro e w2 ⟨rfl, rfl⟩
    go_wp2_with fail
    refine (hp_b true hm2c HS2.out HC.out HPk.out).mono ?_
    rintro e w2 ⟨rfl, rfl⟩
    go_wp2
    go_ret2
    exact ⟨ret_ie HR.out rfl, hb1⟩

set_option maxHeartbeats 2000000 in
set_option maxRecDepth 100000 in
theorem tail_whole (A0 A1 A2 : Option Addr) (n c m1 c1 m2 c2 B : Nat) (t : Int) (l d nl : List UInt8) (e : Bool) (v : Value) (aE : Addr) (w : World) (hnc : n ≤ c) (hn : n ≤ 1152921504606846976) (hm1 : m1 ≤ c1) (hm2 : 0 < m2) (hm2c : m2 ≤ c2) (hm2b : m2 ≤ 1000) (hB : B ≤ w.heap.size)
    (hr : RdB w B A0 n l) (hd : RdB w B A1 m1 d) (hs : RdB w B A2 m2 nl) (he : IsErr e v) (hE : ErrIs w 1 aE) (hpast : Past t l d) (hx : Lib.index l nl = -1) (hp : Lib.hasPrefix nl l = false) (k : Nat) (x : UInt8) (hx0 : nl[0]? = some x) (hlk : lastI l x = k) (hkn : k < n) (hpk : Lib.hasPrefix nl (l.drop k) = false) :
    Calls Tryd.prog 20 #[.slice A0 n c, .slice A1 m1 c1, .slice A2 m2 c2, .int .i64 t, v] w fun e' w' => e' = .returned (.tuple #[.int .i64 (scanT l nl e).1, errR aE v (scanT l nl e).2]) ∧ Below w.heap.size w w' := by
  have hl := hr.len
  have hls := hs.len
  have hhd : nl.headD 0 = x := by cases nl with | nil => simp at hx0 | cons a r => simpa using hx0
  have HR : Hid (scanT l nl e = ((n : Int), 2)) := by
    show _ = _
    unfold scanT
    rw [hx, if_neg (by decide), if_neg (by simp [hp]), hhd, hlk]
    simp [hpk, hl]
  have HX := Lib.hid hx
  have HP := Lib.hid hp
  have HLk := Lib.hid hlk
  clear hx hp hlk hhd
  have HPk := Lib.hid hpk
  clear hpk
  obtain ⟨sb, so, y, rfl, hsB, hy, hcy⟩ := hs.at_ (k := 0) (by omega)
  obtain rfl : y = x := by rw [hx0] at hy; exact (Option.some.inj hy).symm
  rw [Nat.add_zero] at hcy
  have hp2 : (0 : Int) < (m2 : Int) := by omega
  clear hx0 hy
  have HRr := Lib.hid hr
  have HRd := Lib.hid hd
  have HRs := Lib.hid hs
  have HIe := Lib.hid he
  have HE := Lib.hid hE
  have hBw := hB
  clear hr hd he hE hs hl hls
  have hck : ¬ c = k := by omega
  have hkc : (k : Int) ≤ (c : Int) := by omega
  have hkn' : (k : Int) ≤ (n : Int) := by omega
  have hk0 : (0 : Int) ≤ (k : Int) := by omega
  obtain ⟨b, o, rfl, hbB, _⟩ := HRr.out.2 (by omega)
  rcases hpast with hpast | hpast
  · -- head 0
    go_enter Tryd.func20, Tryd.ntmps20
    go_wp2_with fail
    refine (ix_b (-1) hnc (by omega) (by omega) hm2 hBw HRr.out HRs.out HX.out).mono ?_
    rintro e w1 ⟨rfl, hb1⟩
    have hrr := HRr.out.below (hb1.mono hBw)
    have hrs := HRs.out.below (hb1.mono hBw)
    have HA := Lib.hid hrr
    have HS2 := Lib.hid hrs
    clear hrr hrs
    go_wp2_with fail
    refine (hp_b false hm2c HS2.out HA.out HP.out).mono ?_
    rintro e w2 ⟨rfl, rfl⟩
    have hcy2 := (hb1.cell (p := ⟨sb, so, none⟩) (by show sb < w.heap.size; omega)).trans hcy
    have HC := Lib.hid (show RdB w1 B (some ⟨b, o + k, none⟩) (n - k) (l.drop k) from by have := RdB.cut HA.out (k := k) (cap := c) (by omega) hnc; rw [if_neg hck] at this; simpa [Addr.add_lit] using this)
    go_wp2_with fail
    refine (la_b k (by omega) HA.out HLk.out).mono ?_
    rintro e w2 ⟨rfl, rfl⟩
    go_wp2_with fail
    refine (hp_b false hm2c HS2.out HC.out HPk.out).mono ?_
    rintro e w2 ⟨rfl, rfl⟩
    go_wp2
    go_ret2
    exact ⟨ret_ie HR.out rfl, hb1⟩
  · -- head 1
    obtain ⟨rfl, h1, h2⟩ := hpast
    have H1 := Lib.hid h1
    have H2 := Lib.hid h2
    clear h1 h2
    go_enter Tryd.func20, Tryd.ntmps20
    go_wp2_with fail
    refine (hp_b false hnc HRr.out HRd.out H1.out).mono ?_
    rintro e w1 ⟨rfl, rfl⟩
    go_wp2_with fail
    refine (hp_b false hm1 HRd.out HRr.out H2.out).mono ?_
    rintro e w1 ⟨rfl, rfl⟩
    go_wp2_with fail
    refine (ix_b (-1) hnc (by omega) (by omega) hm2 hBw HRr.out HRs.out HX.out).mono ?_
    rintro e w1 ⟨rfl, hb1⟩
    have hrr := HRr.out.below (hb1.mono hBw)
    have hrs := HRs.out.below (hb1.mono hBw)
    have HA := Lib.hid hrr
    have HS2 := Lib.hid hrs
    clear hrr hrs
    go_wp2_with fail
    refine (hp_b false hm2c HS2.out HA.out HP.out).mono ?_
    rintro e w2 ⟨rfl, rfl⟩
    have hcy2 := (hb1.cell (p := ⟨sb, so, none⟩) (by show sb < w.heap.size; omega)).trans hcy
    have HC := Lib.hid (show RdB w1 B (some ⟨b, o + k, none⟩) (n - k) (l.drop k) from by have := RdB.cut HA.out (k := k) (cap := c) (by omega) hnc; rw [if_neg hck] at this; simpa [Addr.add_lit] using this)
    go_wp2_with fail
    refine (la_b k (by omega) HA.out HLk.out).mono ?_
    rintro e w2 ⟨rfl, rfl⟩
    go_wp2_with fail
    refine (hp_b false hm2c HS2.out HC.out HPk.out).mono ?_
    rintro e w2 ⟨rfl, rfl⟩
    go_wp2
    go_ret2
    exact ⟨ret_ie HR.out rfl, hb1⟩

set_option maxHeartbeats 2000000 in
set_option maxRecDepth 100000 in
theorem tail_none (A0 A1 A2 : Option Addr) (n c m1 c1 m2 c2 B : Nat) (t : Int) (l d nl : List UInt8) (e : Bool) (v : Value) (aE : Addr) (w : World) (hnc : n ≤ c) (hn : n ≤ 1152921504606846976) (hm1 : m1 ≤ c1) (hm2 : 0 < m2) (hm2c : m2 ≤ c2) (hm2b : m2 ≤ 1000) (hB : B ≤ w.heap.size)
    (hr : RdB w B A0 n l) (hd : RdB w B A1 m1 d) (hs : RdB w B A2 m2 nl) (he : IsErr e v) (hE : ErrIs w 1 aE) (hpast : Past t l d) (hx : Lib.index l nl = -1) (hp : Lib.hasPrefix nl l = false) (x : UInt8) (hx0 : nl[0]? = some x) (hlk : lastI l x = -1) :
    Calls Tryd.prog 20 #[.slice A0 n c, .slice A1 m1 c1, .slice A2 m2 c2, .int .i64 t, v] w fun e' w' => e' = .returned (.tuple #[.int .i64 (scanT l nl e).1, errR aE v (scanT l nl e).2]) ∧ Below w.heap.size w w' := by
  have hl := hr.len
  have hls := hs.len
  have hhd : nl.headD 0 = x := by cases nl with | nil => simp at hx0 | cons a r => simpa using hx0
  have HR : Hid (scanT l nl e = ((n : Int), 2)) := by
    show _ = _
    unfold scanT
    rw [hx, if_neg (by decide), if_neg (by simp [hp]), hhd, hlk]
    simp [hl]
  have HX := Lib.hid hx
  have HP := Lib.hid hp
  have HLk := Lib.hid hlk
  clear hx hp hlk hhd
  obtain ⟨sb, so, y, rfl, hsB, hy, hcy⟩ := hs.at_ (k := 0) (by omega)
  obtain rfl : y = x := by rw [hx0] at hy; exact (Option.some.inj hy).symm
  rw [Nat.add_zero] at hcy
  have hp2 : (0 : Int) < (m2 : Int) := by omega
  clear hx0 hy
  have HRr := Lib.hid hr
  have HRd := Lib.hid hd
  have HRs := Lib.hid hs
  have HIe := Lib.hid he
  have HE := Lib.hid hE
  have hBw := hB
  clear hr hd he hE hs hl hls
  rcases hpast with hpast | hpast
  · -- head 0
    go_enter Tryd.func20, Tryd.ntmps20
    go_wp2_with fail
    refine (ix_b (-1) hnc (by omega) (by omega) hm2 hBw HRr.out HRs.out HX.out).mono ?_
    rintro e w1 ⟨rfl, hb1⟩
    have hrr := HRr.out.below (hb1.mono hBw)
    have hrs := HRs.out.below (hb1.mono hBw)
    have HA := Lib.hid hrr
    have HS2 := Lib.hid hrs
    clear hrr hrs
    go_wp2_with fail
    refine (hp_b false hm2c HS2.out HA.out HP.out).mono ?_
    rintro e w2 ⟨rfl, rfl⟩
    have hcy2 := (hb1.cell (p := ⟨sb, so, none⟩) (by show sb < w.heap.size; omega)).trans hcy
    go_wp2_with fail
    refine (la_b (-1) (by omega) HA.out HLk.out).mono ?_
    rintro e w2 ⟨rfl, rfl⟩
    go_wp2
    go_ret2
    exact ⟨ret_ie HR.out rfl, hb1⟩
  · -- head 1
    obtain ⟨rfl, h1, h2⟩ := hpast
    have H1 := Lib.hid h1
    have H2 := Lib.hid h2
    clear h1 h2
    go_enter Tryd.func20, Tryd.ntmps20
    go_wp2_with fail
    refine (hp_b false hnc HRr.out HRd.out H1.out).mono ?_
    rintro e w1 ⟨rfl, rfl⟩
    go_wp2_with fail
    refine (hp_b false hm1 HRd.out HRr.out H2.out).mono ?_
    rintro e w1 ⟨rfl, rfl⟩
    go_wp2_with fail
    refine (ix_b (-1) hnc (by omega) (by omega) hm2 hBw HRr.out HRs.out HX.out).mono ?_
    rintro e w1 ⟨rfl, hb1⟩
    have hrr := HRr.out.below (hb1.mono hBw)
    have hrs := HRs.out.below (hb1.mono hBw)
    have HA := Lib.hid hrr
    have HS2 := Lib.hid hrs
    clear hrr hrs
    go_wp2_with fail
    refine (hp_b false hm2c HS2.out HA.out HP.out).mono ?_
    rintro e w2 ⟨rfl, rfl⟩
    have hcy2 := (hb1.cell (p := ⟨sb, so, none⟩) (by show sb < w.heap.size; omega)).trans hcy
    go_wp2_with fail
    refine (la_b (-1) (by omega) HA.out HLk.out).mono ?_
    rintro e w2 ⟨rfl, rfl⟩
    go_wp2
    go_ret2
    exact ⟨ret_ie HR.out rfl, hb1⟩

end Go.Proofs.YtfbjfcnkmhnimaaDoor
