/- The walks of the searches: bytesIndex, find, LastIndexByte. -/
import Derived.Test.YtfbjfcnkmhnimaaDoorWalks
import Derived.Lib.IndexLaws
namespace Go.Proofs.YtfbjfcnkmhnimaaDoor
open Go.RowKit

theorem noocc_next {l p : List UInt8} {k : Nat} (h : Lib.NoOcc l p k) (h2 : Lib.hasPrefix (l.drop k) p = false) : Lib.NoOcc l p (k + 1) := h.succ h2

theorem below_drewN {B : Nat} {a w : World} (h : Below B a w) (n : Nat) : Below B a (w.drewN n) := ⟨h.os, h.tape, h.output, h.size, h.block⟩

set_option maxHeartbeats 1000000 in
theorem find_any (A A2 : Option Addr) (n c m d B : Nat) (l p : List UInt8) (w : World) (hnc : n ≤ c) (hn : n ≤ 2305843009213693952) (hm : m ≤ 2305843009213693952) (h0 : 0 < m) (hr : RdB w B A n l) (hr2 : RdB w B A2 m p) :
    Calls Tryd.prog 16 #[.slice A n c, .slice A2 m d] w fun e w' => e = .returned (.int .i64 (Lib.index l p)) ∧ w = w' := by
  have hl := hr.len
  have hl2 := hr2.len
  have hpn : p ≠ [] := by rintro rfl; simp at hl2; omega
  have HL : Hid (l.length = n ∧ p.length = m ∧ p ≠ []) := ⟨hl, hl2, hpn⟩
  clear hl hl2 hpn
  go_enter Tryd.func16, Tryd.ntmps16
  go_wp2
  go_loop [5] (fun i => ∃ k : Nat, i = .int .i64 k ∧ Hid (Lib.NoOcc l p k) ∧ k ≤ n + 1) (fun i => n + 1 - (intOf i).toNat)
  case atStart => exact ⟨0, rfl, Lib.NoOcc.zero _ _, by omega⟩
  case round =>
    obtain ⟨k, rfl, HN, hk⟩ := hrel
    by_cases hlt : k + m ≤ n
    · have hb : (k : Int) + (m : Int) ≤ (n : Int) := by omega
      have hkc : (k : Int) ≤ (c : Int) := by omega
      have hkn : (k : Int) ≤ (n : Int) := by omega
      have hck : ¬ c = k := by omega
      obtain ⟨b, o, rfl, hbB, _⟩ := hr.2 (by omega)
      have HC := Lib.hid (show RdB w B (some ⟨b, o + k, none⟩) (n - k) (l.drop k) from by have := hr.cut (k := k) (cap := c) (by omega) hnc; rw [if_neg hck] at this; simpa [Addr.add_lit] using this)
      have HH := Lib.hid (fun w' => hasPrefix_any (some ⟨b, o + k, none⟩) A2 (n - k) (c - k) m d B (l.drop k) p w' (by omega))
      have HR2 := Lib.hid hr2
      have hr' := Lib.hid hr
      clear hr hr2
      by_cases hp : Lib.hasPrefix (l.drop k) p = true
      · have HP := Lib.hid hp
        have HX : Hid (Lib.index l p = k) := Lib.index_hit HN.out (by have := HL.out; omega) hp
        clear hp
        go_wp2_with fail
        refine (HH.out _ HC.out HR2.out).mono ?_
        rintro e w1 ⟨rfl, rfl⟩
        rw [HP.out]
        go_wp2
        go_ret
        exact ⟨ret_int HX.out.symm, rfl⟩
      · have HP := Lib.hid (show Lib.hasPrefix (l.drop k) p = false by simpa using hp)
        have HX : Hid (Lib.NoOcc l p (k + 1)) := noocc_next HN.out HP.out
        clear hp
        go_wp2_with fail
        refine (HH.out _ HC.out HR2.out).mono ?_
        rintro e w1 ⟨rfl, rfl⟩
        rw [HP.out]
        go_wp2
        go_round
        case rel => exact ⟨k + 1, by go_num, HX, by omega⟩
        case measure => simp [intOf]; omega
    · have HX : Hid (Lib.index l p = -1) := Lib.index_past HL.out.2.2 HN.out (by have := HL.out; omega)
      go_wp2
      go_ret
      exact ⟨ret_int HX.out.symm, rfl⟩

set_option maxHeartbeats 1000000 in
theorem index_any (A A2 : Option Addr) (n c m d B : Nat) (l p : List UInt8) (w : World) (hnc : n ≤ c) (hn : n ≤ 2305843009213693952) (hm : m ≤ 2305843009213693952) (h0 : 0 < m) (hB : B ≤ w.heap.size) (hr : RdB w B A n l) (hr2 : RdB w B A2 m p) :
    Calls Tryd.prog 21 #[.slice A n c, .slice A2 m d] w fun e w' => e = .returned (.int .i64 (Lib.index l p)) ∧ Below w.heap.size w w' := by
  have hl := hr.len
  have hl2 := hr2.len
  have hpn : p ≠ [] := by rintro rfl; simp at hl2; omega
  have HL : Hid (l.length = n ∧ p.length = m ∧ p ≠ []) := ⟨hl, hl2, hpn⟩
  clear hl hl2 hpn
  go_enter Tryd.func21, Tryd.ntmps21
  go_wp2
  go_loopw [5] (fun i wr => ∃ k : Nat, i = .int .i64 k ∧ Hid (Lib.NoOcc l p k) ∧ k ≤ n + 1 ∧ Below w.heap.size w wr) (fun i _ => n + 1 - (intOf i).toNat)
  case atStart => exact ⟨0, rfl, Lib.NoOcc.zero _ _, by omega, Below.refl _ _⟩
  case round =>
    obtain ⟨k, rfl, HN, hk, hbel⟩ := hrel
    have hra := hr.below (hbel.mono hB)
    have hrb := hr2.below (hbel.mono hB)
    have HB := Lib.hid hbel
    clear hr hr2 hbel hB
    by_cases hlt : k + m ≤ n
    · have hb : (k : Int) + (m : Int) ≤ (n : Int) := by omega
      have hkc : (k : Int) ≤ (c : Int) := by omega
      have hkc2 : (k : Int) + (m : Int) ≤ (c : Int) := by omega
      have hk0 : (0 : Int) ≤ (k : Int) + (m : Int) := by omega
      have hkm : (k : Int) ≤ (k : Int) + (m : Int) := by omega
      have hwr : IntKind.i64.wrap ((k : Int) + (m : Int)) = (k : Int) + (m : Int) := IntWalk.i64_in _ (by omega)
      have htn : ((k : Int) + (m : Int)).toNat = k + m := by omega
      have hsub : k + m - k = m := by omega
      have hck : ¬ c = k := by omega
      obtain ⟨b, o, rfl, hbB, _⟩ := hra.2 (by omega)
      have HC : RdB wr B (some ⟨b, o + k, none⟩) m ((l.drop k).take m) := by
        have := RdB.cut hra (k := k) (cap := c) (by omega) hnc
        rw [if_neg hck] at this
        have := RdB.take this (k := m) (by omega)
        simpa [Addr.add_lit] using this
      have c1 := fun q cc => (RdB.conv (P := Tryd.prog) (src := 22) (dst := 9) (Rd.drewN HC q) Tryd.underlying22 Tryd.underlying5 Tryd.underlying9 cc)
      have c2 := fun q => (RdB.conv (P := Tryd.prog) (src := 22) (dst := 9) (Rd.drewN hrb q) Tryd.underlying22 Tryd.underlying5 Tryd.underlying9 d)
      have HP : Hid (((l.drop k).take m == p) = Lib.hasPrefix (l.drop k) p) := by
        show _ = _
        rw [← Lib.hasPrefix_of_take, HL.out.2.1, List.length_drop, HL.out.1]
        simp
        intro _
        omega
      clear HC hra hrb
      by_cases hp : Lib.hasPrefix (l.drop k) p = true
      · have HX : Hid (Lib.index l p = k) := Lib.index_hit HN.out (by have := HL.out; omega) hp
        have hq : ((l.drop k).take m == p) = true := by rw [HP.out, hp]
        clear hp HP
        go_wp2_with fail
        go_quiet (fail)
        go_wp2
        go_ret
        exact ⟨ret_int HX.out.symm, HB.out.trans (below_drewN (Below.refl _ _) _)⟩
      · have HX : Hid (Lib.NoOcc l p (k + 1)) := noocc_next HN.out (by simpa using hp)
        have hq : ((l.drop k).take m == p) = false := by rw [HP.out]; simpa using hp
        clear hp HP
        go_wp2_with fail
        go_quiet (fail)
        go_wp2
        go_roundw
        case rel => exact ⟨k + 1, by go_num, HX, by omega, HB.out.trans (below_drewN (Below.refl _ _) _)⟩
        case measure => simp [intOf]; omega
    · have HX : Hid (Lib.index l p = -1) := Lib.index_past HL.out.2.2 HN.out (by have := HL.out; omega)
      go_wp2
      go_ret
      exact ⟨ret_int HX.out.symm, HB.out⟩

set_option maxHeartbeats 1000000 in
theorem lastBase_any (A : Option Addr) (n c B : Nat) (l : List UInt8) (x : UInt8) (w : World) (hn : n ≤ 2305843009213693952) (hr : RdB w B A n l) :
    Calls Tryd.prog 23 #[.slice A n c, .int .u8 (x.toNat : Int)] w fun e w' => e = .returned (.int .i64 (lastI l x)) ∧ w = w' := by
  have HL := Lib.hid hr.len
  go_enter Tryd.func23, Tryd.ntmps23
  go_wp2
  go_loop [5] (fun i => ∃ k : Nat, i = .int .i64 ((k : Int) - 1) ∧ k ≤ n ∧ Hid (∀ j : Nat, k ≤ j → l[j]? ≠ some x)) (fun i => (intOf i + 1).toNat)
  case atStart => exact ⟨n, rfl, Nat.le_refl _, fun j hj => by have := HL.out; simp [show l.length ≤ j by omega]⟩
  case round =>
    obtain ⟨k, rfl, hk, HN⟩ := hrel
    rcases k with _ | k
    · have HX : Hid (lastI l x = -1) := lastI_none (fun k => HN.out k (Nat.zero_le _))
      clear hr
      go_wp2
      go_ret
      exact ⟨ret_int HX.out.symm, rfl⟩
    · obtain ⟨b, o, y, rfl, _, hy, hc⟩ := hr.at_ (k := k) (by omega)
      have hkn : (k : Int) < (n : Int) := by omega
      have hkz : (0 : Int) ≤ (k : Int) := by omega
      have hk1 : ((k + 1 : Nat) : Int) - 1 = (k : Int) := by omega
      rw [hk1]
      clear hk1 hr
      by_cases h1 : y = x
      · have HX : Hid (lastI l x = k) := lastI_at (by rw [hy, h1]) (fun j hj => HN.out j (by omega))
        have hq : ((y.toNat : Int) == (x.toNat : Int)) = true := beq_of (by rw [h1])
        clear h1 hy
        go_wp2
        go_ret
        exact ⟨ret_int HX.out.symm, rfl⟩
      · have hq : ((y.toNat : Int) == (x.toNat : Int)) = false := beq_not (fun h => h1 (UInt8.toNat_inj.1 (by omega)))
        have HX : Hid (∀ j : Nat, k ≤ j → l[j]? ≠ some x) := by
          intro j hj e
          rcases Nat.eq_or_lt_of_le hj with rfl | hj
          · rw [hy] at e; exact h1 (by simpa using e)
          · exact HN.out j (by omega) e
        clear h1 hy
        go_wp2
        go_round
        case rel => exact ⟨k, rfl, by omega, HX⟩
        case measure => simp [intOf]

theorem last_any (A : Option Addr) (n c B : Nat) (l : List UInt8) (x : UInt8) (w : World) (hn : n ≤ 2305843009213693952) (hr : RdB w B A n l) :
    Calls Tryd.prog 22 #[.slice A n c, .int .u8 (x.toNat : Int)] w fun e w' => e = .returned (.int .i64 (lastI l x)) ∧ w = w' := by
  have HB := Lib.hid (fun w' (h : RdB w' B A n l) => lastBase_any A n c B l x w' hn h)
  have HR := Lib.hid hr
  clear hr
  go_enter Tryd.func22, Tryd.ntmps22
  go_wp2_with fail
  refine (HB.out _ HR.out).mono ?_
  rintro e w1 ⟨rfl, rfl⟩
  go_wp2
  go_ret
  exact ⟨rfl, rfl⟩

end Go.Proofs.YtfbjfcnkmhnimaaDoor
