/- The walks of the small functions: within, letter, Equal, HasPrefix, what may stand behind a delimiter. -/
import Derived.Test.YtfbjfcnkmhnimaaDoorRows
import Derived.Test.YtfbjfcnkmhnimaaDoorPlain
import Derived.Test.YtfbjfcnkmhnimaaDoorKit
namespace Go.Proofs.YtfbjfcnkmhnimaaDoor
open Go.RowKit

theorem info5 : (Tryd.prog.info? 5).map (fun i => (i.zero, i.size, i.bytes)) = some (some (.int .u8 0), 1, 1) := by kernel_rfl

set_option maxHeartbeats 400000 in
theorem within_any (s : ByteArray) (c : UInt8) (w : World) (hs : s.size ≤ 9223372036854775806) :
    Calls Tryd.prog 12 #[.string s, .int .u8 (c.toNat : Int)] w fun e w' => e = .returned (.bool (inB s.data.toList c)) ∧ w = w' := by
  go_enter Tryd.func12, Tryd.ntmps12
  go_wp2
  go_loop [5] (fun i => ∃ k : Nat, k ≤ s.size ∧ i = .int .i64 k ∧ Hid (inB (s.data.toList.take k) c = false)) (fun i => s.size - (intOf i).toNat)
  case atStart => exact ⟨0, Nat.zero_le _, rfl, rfl⟩
  case round =>
    obtain ⟨k, hk, rfl, HP⟩ := hrel
    by_cases hlt : k < s.size
    · have HS : Hid (inB (s.data.toList.take (k + 1)) c = (s[k] == c)) := by
        show _ = _
        rw [take_snoc s k hlt, inB_snoc _ _ _ HP.out]
      by_cases h1 : s[k] = c
      · have h2 : ((s[k].toNat : Int) == (c.toNat : Int)) = true := by rw [h1]; simp
        have HT : Hid (inB s.data.toList c = true) := by
          show _ = _
          rw [← h1]
          unfold inB
          rw [List.contains_iff_mem, Array.mem_toList_iff]
          exact Array.getElem_mem _
        clear h1
        go_wp2
        go_ret
        exact ⟨ret_bool HT.out.symm, rfl⟩
      · have h2 : ((s[k].toNat : Int) == (c.toNat : Int)) = false := by
          rw [beq_eq_false_iff_ne]; intro h; exact h1 (UInt8.toNat_inj.1 (by omega))
        have HN : Hid (inB (s.data.toList.take (k + 1)) c = false) := by
          show _ = _
          rw [HS.out]; simpa using h1
        clear h1
        go_wp2
        go_round
        case rel => exact ⟨k + 1, by omega, by go_num, HN⟩
        case measure => simp [intOf]; omega
    · have HT : Hid (inB s.data.toList c = false) := by
        have := HP.out
        rw [List.take_of_length_le (by simp; omega)] at this
        exact this
      go_wp2
      go_ret
      exact ⟨ret_bool HT.out.symm, rfl⟩

set_option maxHeartbeats 400000 in
theorem letter_any (c : UInt8) (w : World) :
    Calls Tryd.prog 14 #[.int .u8 (c.toNat : Int)] w fun e w' => e = .returned (.bool (letterB c)) ∧ w = w' := by
  have hc := u8_lt c
  have h : (c.toNat : Int) < 48 ∨ (48 ≤ (c.toNat : Int) ∧ (c.toNat : Int) ≤ 57) ∨ (57 < (c.toNat : Int) ∧ (c.toNat : Int) < 65) ∨ (65 ≤ (c.toNat : Int) ∧ (c.toNat : Int) ≤ 90) ∨ (90 < (c.toNat : Int) ∧ (c.toNat : Int) < 97) ∨ (97 ≤ (c.toNat : Int) ∧ (c.toNat : Int) ≤ 122) ∨ 122 < (c.toNat : Int) := by omega
  obtain ⟨n, hn⟩ : ∃ n : Int, n = (c.toNat : Int) := ⟨_, rfl⟩
  rw [← hn] at h hc ⊢
  have HN := Lib.hid hn
  clear hn
  rcases h with h | ⟨h, h'⟩ | ⟨h, h'⟩ | ⟨h, h'⟩ | ⟨h, h'⟩ | ⟨h, h'⟩ | h
  all_goals
    go_enter Tryd.func14, Tryd.ntmps14
    go_wp2
    go_ret
    refine ⟨ret_bool (letterB_of ?_), rfl⟩
    have hn := HN.out
    simp
    omega

theorem equal_any (A1 A2 : Option Addr) (n c m d B : Nat) (l1 l2 : List UInt8) (w : World) (h1 : RdB w B A1 n l1) (h2 : RdB w B A2 m l2) :
    Calls Tryd.prog 19 #[.slice A1 n c, .slice A2 m d] w fun e w' => e = .returned (.bool (l1 == l2)) ∧ w = w' := by
  have c1 := h1.conv (P := Tryd.prog) (src := 22) (dst := 9) Tryd.underlying22 Tryd.underlying5 Tryd.underlying9 c
  have c2 := h2.conv (P := Tryd.prog) (src := 22) (dst := 9) Tryd.underlying22 Tryd.underlying5 Tryd.underlying9 d
  clear h1 h2
  go_enter Tryd.func19, Tryd.ntmps19
  go_wp2
  go_ret
  exact ⟨by simp, rfl⟩

theorem hasPrefix_any (A1 A2 : Option Addr) (n c m d B : Nat) (l1 l2 : List UInt8) (w : World) (hn : n ≤ c) (h1 : RdB w B A1 n l1) (h2 : RdB w B A2 m l2) :
    Calls Tryd.prog 15 #[.slice A1 n c, .slice A2 m d] w fun e w' => e = .returned (.bool (Lib.hasPrefix l1 l2)) ∧ w = w' := by
  have hl1 := h1.len
  have hl2 := h2.len
  by_cases hm : m ≤ n
  · have HE := Lib.hid (equal_any A1 A2 m c m d B (l1.take m) l2 w (h1.take hm) h2)
    have HR : Hid (Lib.hasPrefix l1 l2 = (l1.take m == l2)) := by
      show _ = _
      rw [← Lib.hasPrefix_of_take, hl2, hl1]
      simp [hm]
    have hz := map_add_zero' A1
    clear h1 h2 hl1 hl2
    go_enter Tryd.func15, Tryd.ntmps15
    go_wp2_with fail
    refine HE.out.mono ?_
    rintro e w1 ⟨rfl, rfl⟩
    go_wp2
    go_ret
    exact ⟨ret_bool HR.out.symm, rfl⟩
  · have HR : Hid (Lib.hasPrefix l1 l2 = false) := by
      show _ = _
      rw [← Lib.hasPrefix_of_take, hl2, hl1]
      simp [hm]
    clear h1 h2 hl1 hl2
    go_enter Tryd.func15, Tryd.ntmps15
    go_wp2
    go_ret
    exact ⟨ret_bool HR.out.symm, rfl⟩

theorem drop_at {l : List UInt8} {k : Nat} {c : UInt8} (h : l[k]? = some c) : l.drop k = c :: l.drop (k + 1) := by
  obtain ⟨hk, rfl⟩ := List.getElem?_eq_some_iff.1 h
  exact List.drop_eq_getElem_cons hk
theorem beq_of {a b : Int} (h : a = b) : (a == b) = true := by simpa using h
theorem beq_not {a b : Int} (h : ¬ a = b) : (a == b) = false := by simpa using h

/-- An error as the program hands it on: nil, or a value. -/
def IsErr (e : Bool) (v : Value) : Prop := (e = false ∧ v = .nilIface) ∨ (e = true ∧ ∃ t p, v = .iface t (.pointer p))

set_option maxHeartbeats 1000000 in
theorem mafter_any (A A2 : Option Addr) (n c m d B : Nat) (l : List UInt8) (e : Bool) (v : Value) (w : World) (hm : m ≤ n) (hn : n ≤ 9223372036854775806) (hr : RdB w B A n l) (he : IsErr e v) :
    Calls Tryd.prog 18 #[.slice A n c, .slice A2 m d, v] w fun e' w' => e' = .returned (.int .i64 (mAfter (l.drop m) e)) ∧ w = w' := by
  have hl := hr.len
  by_cases h0 : n = m
  · subst h0
    have hd : l.drop n = [] := List.drop_eq_nil_of_le (by omega)
    rw [hd]
    clear hd hl hr
    rcases he with ⟨rfl, rfl⟩ | ⟨rfl, t, p, rfl⟩
    all_goals
      go_enter Tryd.func18, Tryd.ntmps18
      go_wp2
      go_ret
      exact ⟨rfl, rfl⟩
  · obtain ⟨ab, ao, x, rfl, _, hx, hc⟩ := hr.at_ (k := m) (by omega)
    have hmn : (m : Int) < (n : Int) := by omega
    have hne : ((n : Int) == (m : Int)) = false := beq_not (by omega)
    have HD := Lib.hid (drop_at hx)
    have hxb := u8_lt x
    by_cases h1 : (x.toNat : Int) = 32 ∨ (x.toNat : Int) = 9 ∨ (x.toNat : Int) = 13 ∨ (x.toNat : Int) = 10
    · have HR : Hid (mAfter (l.drop m) e = 1) := by
        show _ = _
        rw [HD.out]
        have : x = 32 ∨ x = 9 ∨ x = 13 ∨ x = 10 := by
          rcases h1 with h | h | h | h
          · exact .inl (u8_eq (n := 32) (by decide) h)
          · exact .inr (.inl (u8_eq (n := 9) (by decide) h))
          · exact .inr (.inr (.inl (u8_eq (n := 13) (by decide) h)))
          · exact .inr (.inr (.inr (u8_eq (n := 10) (by decide) h)))
        simp [mAfter, this]
      clear hx hl hr h0
      obtain ⟨N, hN⟩ : ∃ N : Int, N = (x.toNat : Int) := ⟨_, rfl⟩
      rw [← hN] at h1 hc hxb
      clear hN HD
      rcases h1 with rfl | rfl | rfl | rfl
      all_goals
        go_enter Tryd.func18, Tryd.ntmps18
        go_wp2
        go_ret
        exact ⟨ret_int HR.out.symm, rfl⟩
    · have n1 : ((x.toNat : Int) == 32) = false := beq_not (fun h => h1 (.inl h))
      have n2 : ((x.toNat : Int) == 9) = false := beq_not (fun h => h1 (.inr (.inl h)))
      have n3 : ((x.toNat : Int) == 13) = false := beq_not (fun h => h1 (.inr (.inr (.inl h))))
      have n4 : ((x.toNat : Int) == 10) = false := beq_not (fun h => h1 (.inr (.inr (.inr h))))
      have hno : ¬ (x = 32 ∨ x = 9 ∨ x = 13 ∨ x = 10) := by
        rintro (rfl | rfl | rfl | rfl)
        · simp at n1
        · simp at n2
        · simp at n3
        · simp at n4
      have HNo := Lib.hid hno
      clear hno h1
      by_cases h2 : (x.toNat : Int) = 45
      · have e45 : x = 45 := u8_eq (n := 45) (by decide) h2
        have hq : ((x.toNat : Int) == 45) = true := beq_of h2
        clear h2
        by_cases h3 : n = m + 1
        · have HR : Hid (mAfter (l.drop m) e = if e then -1 else 0) := by
            show _ = _
            rw [HD.out, List.drop_eq_nil_of_le (by omega)]
            simp [mAfter, e45]
          have h3' : ((n : Int) == (m : Int) + 1) = true := beq_of (by omega)
          have HE := Lib.hid e45
          clear hx hl hr h0 h3 e45
          rcases he with ⟨rfl, rfl⟩ | ⟨rfl, t, p, rfl⟩
          all_goals
            go_enter Tryd.func18, Tryd.ntmps18
            go_wp2
            go_ret
            exact ⟨ret_int HR.out.symm, rfl⟩
        · obtain ⟨ab', ao', y, had, _, hy, hcy⟩ := hr.at_ (k := m + 1) (by omega)
          obtain ⟨rfl, rfl⟩ : ab = ab' ∧ ao = ao' := by simpa using had
          have hyb := u8_lt y
          have HR : Hid (mAfter (l.drop m) e = if y = 45 then 1 else -1) := by
            show _ = _
            rw [HD.out, drop_at hy]
            simp [mAfter, e45]
          have h3' : ((n : Int) == (m : Int) + 1) = false := beq_not (by omega)
          have hmn1 : (m : Int) + 1 < (n : Int) := by omega
          have HE := Lib.hid e45
          clear hx hl hr h0 h3 e45 hy had
          by_cases h4 : (y.toNat : Int) = 45
          · have e1 : y = 45 := u8_eq (n := 45) (by decide) h4
            have HR2 : Hid (mAfter (l.drop m) e = 1) := by show _ = _; rw [HR.out, e1]; rfl
            have hq2 : ((y.toNat : Int) == 45) = true := beq_of h4
            clear e1 h4
            go_enter Tryd.func18, Tryd.ntmps18
            go_wp2
            go_ret
            exact ⟨ret_int HR2.out.symm, rfl⟩
          · have e1 : y ≠ 45 := u8_ne (n := 45) (by decide) h4
            have HR2 : Hid (mAfter (l.drop m) e = -1) := by show _ = _; rw [HR.out, if_neg e1]
            have hq2 : ((y.toNat : Int) == 45) = false := beq_not h4
            clear e1 h4
            go_enter Tryd.func18, Tryd.ntmps18
            go_wp2
            go_ret
            exact ⟨ret_int HR2.out.symm, rfl⟩
      · have e1 : x ≠ 45 := u8_ne (n := 45) (by decide) h2
        have hq : ((x.toNat : Int) == 45) = false := beq_not h2
        have HR : Hid (mAfter (l.drop m) e = -1) := by
          show _ = _
          rw [HD.out]
          simp [mAfter, e1, HNo.out]
        clear hx hl hr h0 e1 h2
        go_enter Tryd.func18, Tryd.ntmps18
        go_wp2
        go_ret
        exact ⟨ret_int HR.out.symm, rfl⟩

end Go.Proofs.YtfbjfcnkmhnimaaDoor
