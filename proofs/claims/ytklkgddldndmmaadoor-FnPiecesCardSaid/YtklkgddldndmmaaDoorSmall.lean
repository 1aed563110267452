/- The walks of the small functions of a boundary: within, letter, Boundary. -/
import Derived.Test.YtklkgddldndmmaaDoorRows
import Derived.Test.YtklkgddldndmmaaDoorPlain
import Derived.Test.YtklkgddldndmmaaDoorKit
namespace Go.Proofs.YtklkgddldndmmaaDoor
open Go.RowKit
set_option linter.unusedVariables false
set_option linter.unusedSimpArgs false

theorem info5 : (Tryd.prog.info? 5).map (fun i => (i.zero, i.size, i.bytes)) = some (some (.int .u8 0), 1, 1) := by kernel_rfl

set_option maxHeartbeats 400000 in
theorem within_any (s : ByteArray) (c : UInt8) (w : World) (hs : s.size ≤ 9223372036854775806) :
    Calls Tryd.prog 33 #[.string s, .int .u8 (c.toNat : Int)] w fun e w' => e = .returned (.bool (inB s.data.toList c)) ∧ w = w' := by
  go_enter Tryd.func33, Tryd.ntmps33
  go_wp2
  go_loop [5] (fun i => ∃ k : Nat, k ≤ s.size ∧ i = .int .i64 k ∧ Hid (inB (s.data.toList.take k) c = false)) (fun i => s.size - (intOf i).toNat)
  case atStart => exact ⟨0, Nat.zero_le _, rfl, rfl⟩
  case round =>
    obtain ⟨k, hk, rfl, HP⟩ := hrel
    by_cases hlt : k < s.size
    · have HS : Hid (inB (s.data.toList.take (k + 1)) c = (s[k] == c)) := by
        show _ = _
        rw [take_snoc s k hlt, inB_snoc _ _ _ HP.out]
      by_cases h1 : s[k] = c
      · have h2 : ((s[k].toNat : Int) == (c.toNat : Int)) = true := by rw [h1]; simp
        have HT : Hid (inB s.data.toList c = true) := by
          show _ = _
          rw [← h1]
          unfold inB
          rw [List.contains_iff_mem, Array.mem_toList_iff]
          exact Array.getElem_mem _
        clear h1
        go_wp2
        go_ret
        exact ⟨ret_bool HT.out.symm, rfl⟩
      · have h2 : ((s[k].toNat : Int) == (c.toNat : Int)) = false := by
          rw [beq_eq_false_iff_ne]; intro h; exact h1 (UInt8.toNat_inj.1 (by omega))
        have HN : Hid (inB (s.data.toList.take (k + 1)) c = false) := by
          show _ = _
          rw [HS.out]; simpa using h1
        clear h1
        go_wp2
        go_round
        case rel => exact ⟨k + 1, by omega, by go_num, HN⟩
        case measure => simp [intOf]; omega
    · have HT : Hid (inB s.data.toList c = false) := by
        have := HP.out
        rw [List.take_of_length_le (by simp; omega)] at this
        exact this
      go_wp2
      go_ret
      exact ⟨ret_bool HT.out.symm, rfl⟩

set_option maxHeartbeats 400000 in
theorem letter_any (c : UInt8) (w : World) :
    Calls Tryd.prog 32 #[.int .u8 (c.toNat : Int)] w fun e w' => e = .returned (.bool (letterB c)) ∧ w = w' := by
  have hc := u8_lt c
  have h : (c.toNat : Int) < 48 ∨ (48 ≤ (c.toNat : Int) ∧ (c.toNat : Int) ≤ 57) ∨ (57 < (c.toNat : Int) ∧ (c.toNat : Int) < 65) ∨ (65 ≤ (c.toNat : Int) ∧ (c.toNat : Int) ≤ 90) ∨ (90 < (c.toNat : Int) ∧ (c.toNat : Int) < 97) ∨ (97 ≤ (c.toNat : Int) ∧ (c.toNat : Int) ≤ 122) ∨ 122 < (c.toNat : Int) := by omega
  obtain ⟨n, hn⟩ : ∃ n : Int, n = (c.toNat : Int) := ⟨_, rfl⟩
  rw [← hn] at h hc ⊢
  have HN := Lib.hid hn
  clear hn
  rcases h with h | ⟨h, h'⟩ | ⟨h, h'⟩ | ⟨h, h'⟩ | ⟨h, h'⟩ | ⟨h, h'⟩ | h
  all_goals
    go_enter Tryd.func32, Tryd.ntmps32
    go_wp2
    go_ret
    refine ⟨ret_bool (letterB_of ?_), rfl⟩
    have hn := HN.out
    simp
    omega

theorem letter_b {c : UInt8} {w : World} (b : Bool) (h : letterB c = b) :
    Calls Tryd.prog 32 #[.int .u8 (c.toNat : Int)] w fun e w' => e = .returned (.bool b) ∧ w = w' :=
  (letter_any c w).mono fun _ _ ⟨he, hw⟩ => ⟨by rw [he, h], hw⟩
theorem within_b' {s : ByteArray} {c : UInt8} {w : World} (b : Bool) (hs : s.size ≤ 9223372036854775806) (h : inB s.data.toList c = b) :
    Calls Tryd.prog 33 #[.string s, .int .u8 (c.toNat : Int)] w fun e w' => e = .returned (.bool b) ∧ w = w' :=
  (within_any s c w hs).mono fun _ _ ⟨he, hw⟩ => ⟨by rw [he, h], hw⟩

/-- Each byte may stand in a boundary. -/
def allOk (l : List UInt8) : Bool := l.all okB
theorem allOk_snoc (l : List UInt8) (c : UInt8) : allOk (l ++ [c]) = (allOk l && okB c) := by simp [allOk]
theorem allOk_head (l : List UInt8) (k : Nat) (h : allOk (l.take k) = false) : allOk l = false := by
  rw [← List.take_append_drop k l]
  unfold allOk at h ⊢
  rw [List.all_append, h, Bool.false_and]
theorem signs_data : (⟨#[39, 40, 41, 43, 95, 44, 45, 46, 47, 58, 61, 63, 32]⟩ : ByteArray).data.toList = signs := rfl

set_option maxHeartbeats 2000000 in
theorem bound_any (s : ByteArray) (w : World) (hs : s.size ≤ 2147483647) :
    Calls Tryd.prog 11 #[.string s] w fun e w' => e = .returned (.bool (boundB s.data.toList)) ∧ w = w' := by
  have HB : Hid (boundB s.data.toList = (allOk s.data.toList && decide (0 < s.size) && decide (s.size ≤ 70) && decide (s.data.toList[s.size - 1]? ≠ some 32))) := by
    show _ = _
    unfold boundB allOk
    rw [Lib.size_eq]
  go_enter Tryd.func11, Tryd.ntmps11
  go_wp2
  go_loop [3] (fun i => ∃ k : Nat, k ≤ s.size ∧ i = .int .i64 k ∧ Hid (allOk (s.data.toList.take k) = true)) (fun i => s.size - (intOf i).toNat)
  case atStart => exact ⟨0, Nat.zero_le _, rfl, rfl⟩
  case round =>
    obtain ⟨k, hk, rfl, HP⟩ := hrel
    by_cases hlt : k < s.size
    · have HS : Hid (allOk (s.data.toList.take (k + 1)) = okB s[k]) := by
        show _ = _
        rw [take_snoc s k hlt, allOk_snoc, HP.out, Bool.true_and]
      by_cases h1 : letterB s[k] = true
      · have H1 := Lib.hid (fun w : World => letter_b (w := w) true h1)
        have HN : Hid (allOk (s.data.toList.take (k + 1)) = true) := by show _ = _; rw [HS.out]; simp [okB, h1]
        clear h1
        go_wp2_with fail
        refine (H1.out _).mono ?_
        rintro e w1 ⟨rfl, rfl⟩
        go_wp2
        go_round
        case rel => exact ⟨k + 1, by omega, by go_num, HN⟩
        case measure => simp [intOf]; omega
      · have H1 := Lib.hid (fun w : World => letter_b (w := w) false (by simpa using h1))
        by_cases h2 : inB signs s[k] = true
        · have H2 := Lib.hid (fun w : World => within_b' (s := ⟨#[39, 40, 41, 43, 95, 44, 45, 46, 47, 58, 61, 63, 32]⟩) (w := w) true (by decide) h2)
          have HN : Hid (allOk (s.data.toList.take (k + 1)) = true) := by show _ = _; rw [HS.out]; simp [okB, h2]
          clear h1 h2
          go_wp2_with fail
          refine (H1.out _).mono ?_
          rintro e w1 ⟨rfl, rfl⟩
          go_wp2_with fail
          refine (H2.out _).mono ?_
          rintro e w1 ⟨rfl, rfl⟩
          go_wp2
          go_round
          case rel => exact ⟨k + 1, by omega, by go_num, HN⟩
          case measure => simp [intOf]; omega
        · have H2 := Lib.hid (fun w : World => within_b' (s := ⟨#[39, 40, 41, 43, 95, 44, 45, 46, 47, 58, 61, 63, 32]⟩) (w := w) false (by decide) (by rw [signs_data]; simpa using h2))
          have HN : Hid (boundB s.data.toList = false) := by
            show _ = _
            rw [HB.out, allOk_head _ (k + 1) (by rw [HS.out]; simp only [Bool.not_eq_true] at h1 h2; simp [okB, h1, h2])]
            rfl
          clear h1 h2
          go_wp2_with fail
          refine (H1.out _).mono ?_
          rintro e w1 ⟨rfl, rfl⟩
          go_wp2_with fail
          refine (H2.out _).mono ?_
          rintro e w1 ⟨rfl, rfl⟩
          go_wp2
          go_ret
          exact ⟨ret_bool HN.out.symm, rfl⟩
    · have HA : Hid (allOk s.data.toList = true) := by
        have := HP.out
        rw [List.take_of_length_le (by simp; omega)] at this
        exact this
      by_cases h0 : s.size = 0
      · have HN : Hid (boundB s.data.toList = false) := by show _ = _; rw [HB.out, h0]; simp
        have hz : (s.size : Int) ≤ 0 := by omega
        go_wp2
        go_ret
        exact ⟨ret_bool HN.out.symm, rfl⟩
      · have hp : (0 : Int) < (s.size : Int) := by omega
        by_cases h70 : s.size ≤ 70
        · have h70' : (s.size : Int) ≤ 70 := by omega
          have hix : (s.size : Int) - 1 < (s.size : Int) := by omega
          have hgt : s.data.toList[s.size - 1]? = some s[s.size - 1] := by
            rw [Array.getElem?_toList]
            exact Array.getElem?_eq_getElem _
          by_cases h32 : (s[s.size - 1].toNat : Int) = 32
          · have HN : Hid (boundB s.data.toList = false) := by
              show _ = _
              rw [HB.out, hgt, u8_eq (n := 32) (by decide) h32]
              simp
            have hq : ((s[s.size - 1].toNat : Int) != 32) = false := by simp [h32]
            clear h32 hgt
            go_wp2
            go_ret
            exact ⟨ret_bool HN.out.symm, rfl⟩
          · have hne := u8_ne (n := 32) (by decide) h32
            have HN : Hid (boundB s.data.toList = true) := by
              show _ = _
              rw [HB.out, hgt, HA.out]
              simp
              exact ⟨⟨by omega, h70⟩, hne⟩
            have hq : ((s[s.size - 1].toNat : Int) != 32) = true := by simp [h32]
            clear h32 hgt hne
            go_wp2
            go_ret
            exact ⟨ret_bool HN.out.symm, rfl⟩
        · have HN : Hid (boundB s.data.toList = false) := by show _ = _; rw [HB.out]; simp [h70]
          have h70' : ¬ (s.size : Int) ≤ 70 := by omega
          go_wp2
          go_ret
          exact ⟨ret_bool HN.out.symm, rfl⟩


end Go.Proofs.YtklkgddldndmmaaDoor
