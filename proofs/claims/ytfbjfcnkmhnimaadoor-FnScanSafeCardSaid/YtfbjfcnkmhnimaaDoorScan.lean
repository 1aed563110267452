/- The walk of scanUntilBoundary and of what calls it. -/
import Derived.Test.YtfbjfcnkmhnimaaDoorSearch
import Derived.Test.YtfbjfcnkmhnimaaDoorLaid
namespace Go.Proofs.YtfbjfcnkmhnimaaDoor
open Go.RowKit
set_option linter.unusedVariables false
set_option linter.unusedSimpArgs false

theorem hp_b {A1 A2 : Option Addr} {n c m d B : Nat} {l1 l2 : List UInt8} {w : World} (b : Bool) (hn : n ≤ c) (h1 : RdB w B A1 n l1) (h2 : RdB w B A2 m l2) (h : Lib.hasPrefix l1 l2 = b) :
    Calls Tryd.prog 15 #[.slice A1 n c, .slice A2 m d] w fun e w' => e = .returned (.bool b) ∧ w = w' :=
  (hasPrefix_any A1 A2 n c m d B l1 l2 w hn h1 h2).mono fun _ _ ⟨he, hw⟩ => ⟨by rw [he, h], hw⟩
theorem ma_b {A A2 : Option Addr} {n c m d B : Nat} {l : List UInt8} {e : Bool} {v : Value} {w : World} (k : Int) (hm : m ≤ n) (hn : n ≤ 9223372036854775806) (hr : RdB w B A n l) (he : IsErr e v) (h : mAfter (l.drop m) e = k) :
    Calls Tryd.prog 18 #[.slice A n c, .slice A2 m d, v] w fun e' w' => e' = .returned (.int .i64 k) ∧ w = w' :=
  (mafter_any A A2 n c m d B l e v w hm hn hr he).mono fun _ _ ⟨he, hw⟩ => ⟨by rw [he, h], hw⟩
theorem ix_b {A A2 : Option Addr} {n c m d B : Nat} {l p : List UInt8} {w : World} (k : Int) (hnc : n ≤ c) (hn : n ≤ 2305843009213693952) (hm : m ≤ 2305843009213693952) (h0 : 0 < m) (hB : B ≤ w.heap.size) (hr : RdB w B A n l) (hr2 : RdB w B A2 m p) (h : Lib.index l p = k) :
    Calls Tryd.prog 21 #[.slice A n c, .slice A2 m d] w fun e w' => e = .returned (.int .i64 k) ∧ Below w.heap.size w w' :=
  (index_any A A2 n c m d B l p w hnc hn hm h0 hB hr hr2).mono fun _ _ ⟨he, hw⟩ => ⟨by rw [he, h], hw⟩
theorem la_b {A : Option Addr} {n c B : Nat} {l : List UInt8} {x : UInt8} {w : World} (k : Int) (hn : n ≤ 2305843009213693952) (hr : RdB w B A n l) (h : lastI l x = k) :
    Calls Tryd.prog 22 #[.slice A n c, .int .u8 (x.toNat : Int)] w fun e w' => e = .returned (.int .i64 k) ∧ w = w' :=
  (last_any A n c B l x w hn hr).mono fun _ _ ⟨he, hw⟩ => ⟨by rw [he, h], hw⟩

/-- The error of a result by its sign. -/
def errR (aE : Addr) (v : Value) : Nat → Value
  | 0 => .nilIface
  | 1 => .iface 45 (.pointer (some aE))
  | _ => v
theorem ret_ie {p : Int × Nat} {a : Int} {k : Nat} {aE : Addr} {v x : Value} (h : p = (a, k)) (hx : x = errR aE v k) : Ending.returned (.tuple #[.int .i64 a, x]) = Ending.returned (.tuple #[.int .i64 p.1, errR aE v p.2]) := by rw [h, hx]

set_option maxHeartbeats 2000000 in
theorem scan_head (A0 A1 A2 : Option Addr) (n c m1 c1 m2 c2 B : Nat) (l d nl : List UInt8) (e : Bool) (v : Value) (aE : Addr) (w : World) (hnc : n ≤ c) (hn : n ≤ 2305843009213693952) (hm1 : m1 ≤ 1000)
    (hr : RdB w B A0 n l) (hd : RdB w B A1 m1 d) (he : IsErr e v) (hE : ErrIs w 1 aE) (hp : Lib.hasPrefix l d = true) :
    Calls Tryd.prog 20 #[.slice A0 n c, .slice A1 m1 c1, .slice A2 m2 c2, .int .i64 0, v] w fun e' w' => e' = .returned (.tuple #[.int .i64 (scanP l d nl true e).1, errR aE v (scanP l d nl true e).2]) ∧ Below w.heap.size w w' := by
  have hl := hr.len
  have hld := hd.len
  have hmn : m1 ≤ n := by
    have := Lib.hasPrefix_of_take l d
    rw [hp] at this
    simp at this
    omega
  have HS : Hid (scanP l d nl true e = pick 0 m1 (mAfter (l.drop m1) e)) := by
    show _ = _
    unfold scanP
    rw [if_pos ⟨rfl, hp⟩, hld]
  have H1 := Lib.hid (fun w' (h1 : RdB w' B A0 n l) (h2 : RdB w' B A1 m1 d) => hp_b (c := c) (d := c1) true hnc h1 h2 hp)
  have HRr := Lib.hid hr
  have HRd := Lib.hid hd
  have HE := Lib.hid hE.1
  have HIe := Lib.hid he
  clear hr hd hE he hp hl hld
  rcases mAfter_cases (l.drop m1) e with hm | hm | hm
  · have HM := Lib.hid hm
    have HR : Hid (scanP l d nl true e = ((m1 : Int), 0)) := by show _ = _; rw [HS.out, hm]; simp [pick]
    clear hm
    go_enter Tryd.func20, Tryd.ntmps20
    go_wp2_with fail
    refine (H1.out _ HRr.out HRd.out).mono ?_
    rintro e w1 ⟨rfl, rfl⟩
    go_wp2_with fail
    refine (ma_b (-1) hmn (by omega) HRr.out HIe.out HM.out).mono ?_
    rintro e w1 ⟨rfl, rfl⟩
    go_wp2
    go_ret2
    exact ⟨ret_ie HR.out rfl, Below.refl _ _⟩
  · have HM := Lib.hid hm
    have HR : Hid (scanP l d nl true e = (0, 0)) := by show _ = _; rw [HS.out, hm]; simp [pick]
    clear hm
    go_enter Tryd.func20, Tryd.ntmps20
    go_wp2_with fail
    refine (H1.out _ HRr.out HRd.out).mono ?_
    rintro e w1 ⟨rfl, rfl⟩
    go_wp2_with fail
    refine (ma_b 0 hmn (by omega) HRr.out HIe.out HM.out).mono ?_
    rintro e w1 ⟨rfl, rfl⟩
    go_wp2
    go_ret2
    exact ⟨ret_ie HR.out rfl, Below.refl _ _⟩
  · have HM := Lib.hid hm
    have HR : Hid (scanP l d nl true e = (0, 1)) := by show _ = _; rw [HS.out, hm]; simp [pick]
    clear hm
    have hcell := HE.out
    go_enter Tryd.func20, Tryd.ntmps20
    go_wp2_with fail
    refine (H1.out _ HRr.out HRd.out).mono ?_
    rintro e w1 ⟨rfl, rfl⟩
    go_wp2_with fail
    refine (ma_b 1 hmn (by omega) HRr.out HIe.out HM.out).mono ?_
    rintro e w1 ⟨rfl, rfl⟩
    go_wp2
    go_quiet (fail)
    go_wp2
    go_ret2
    exact ⟨ret_ie HR.out rfl, below_drewN (Below.refl _ _) _⟩

end Go.Proofs.YtfbjfcnkmhnimaaDoor
