/- The walks of Printable, Plain and Key. -/
import Derived.Test.YtklkgddldndmmaaDoorPort
namespace Go.Proofs.YtklkgddldndmmaaDoor
open Go.RowKit
set_option linter.unusedVariables false
set_option linter.unusedSimpArgs false

def printB (l : List UInt8) : Bool := l.all fun c => decide (32 ≤ c.toNat) && decide (c.toNat ≤ 126)
def plainB (l : List UInt8) : Bool := printB l && (l.isEmpty || (decide (l[0]? ≠ some 32) && decide (l[l.length - 1]? ≠ some 32)))
def ksigns : List UInt8 := [33, 35, 36, 37, 38, 39, 42, 43, 45, 46, 94, 95, 96, 124, 126]
def tokB (c : UInt8) : Bool := letterB c || inB ksigns c
def keyB (l : List UInt8) : Bool := l.all tokB && decide (0 < l.length)

theorem all_snoc {p : UInt8 → Bool} (l : List UInt8) (c : UInt8) : (l ++ [c]).all p = (l.all p && p c) := by simp
theorem all_head {p : UInt8 → Bool} (l : List UInt8) (k : Nat) (h : (l.take k).all p = false) : l.all p = false := by
  rw [← List.take_append_drop k l, List.all_append, h]
  rfl
theorem ksigns_data : (⟨#[33, 35, 36, 37, 38, 39, 42, 43, 45, 46, 94, 95, 96, 124, 126]⟩ : ByteArray).data.toList = ksigns := rfl

set_option maxHeartbeats 1000000 in
theorem printable_any (s : ByteArray) (w : World) (hs : s.size ≤ 2147483647) :
    Calls Tryd.prog 46 #[.string s] w fun e w' => e = .returned (.bool (printB s.data.toList)) ∧ w = w' := by
  go_enter Tryd.func46, Tryd.ntmps46
  go_wp2
  go_loop [3] (fun i => ∃ k : Nat, k ≤ s.size ∧ i = .int .i64 k ∧ Hid (printB (s.data.toList.take k) = true)) (fun i => s.size - (intOf i).toNat)
  case atStart => exact ⟨0, Nat.zero_le _, rfl, by show _ = _; rfl⟩
  case round =>
    obtain ⟨k, hk, rfl, HP⟩ := hrel
    by_cases hlt : k < s.size
    · have hts := take_snoc s k hlt
      by_cases hc : 32 ≤ s[k].toNat ∧ s[k].toNat ≤ 126
      · have HN : Hid (printB (s.data.toList.take (k + 1)) = true) := by
          have h := HP.out
          show _ = _
          unfold printB at h ⊢
          rw [hts, all_snoc, h]
          simpa using hc
        have h1 : ¬ (s[k].toNat : Int) < 32 := by omega
        have h2 : ¬ (126 : Int) < (s[k].toNat : Int) := by omega
        clear hts hc
        go_wp2
        go_round
        case rel => exact ⟨k + 1, by omega, by go_num, HN⟩
        case measure => simp [intOf]; omega
      · have HN : Hid (printB s.data.toList = false) := by
          show _ = _
          refine all_head _ (k + 1) ?_
          rw [hts, all_snoc]
          have : (decide (32 ≤ s[k].toNat) && decide (s[k].toNat ≤ 126)) = false := by
            rw [Bool.eq_false_iff]; simpa using hc
          rw [this, Bool.and_false]
        have hc' : (s[k].toNat : Int) < 32 ∨ (¬ (s[k].toNat : Int) < 32 ∧ (126 : Int) < (s[k].toNat : Int)) := by omega
        clear hts hc
        rcases hc' with h1 | ⟨h1, h2⟩
        all_goals
          go_wp2
          go_ret
          exact ⟨ret_bool HN.out.symm, rfl⟩
    · have HN : Hid (printB s.data.toList = true) := by
        have h := HP.out
        rw [List.take_of_length_le (by simp; omega)] at h
        exact h
      go_wp2
      go_ret
      exact ⟨ret_bool HN.out.symm, rfl⟩

theorem print_b {s : ByteArray} {w : World} (b : Bool) (hs : s.size ≤ 2147483647) (h : printB s.data.toList = b) :
    Calls Tryd.prog 46 #[.string s] w fun e w' => e = .returned (.bool b) ∧ w = w' :=
  (printable_any s w hs).mono fun _ _ ⟨he, hw⟩ => ⟨by rw [he, h], hw⟩

set_option maxHeartbeats 1000000 in
theorem plain_any (s : ByteArray) (w : World) (hs : s.size ≤ 2147483647) :
    Calls Tryd.prog 61 #[.string s] w fun e w' => e = .returned (.bool (plainB s.data.toList)) ∧ w = w' := by
  have hz : s.data.toList.length = s.size := by simp
  by_cases hp : printB s.data.toList = true
  · have HP := Lib.hid (fun w : World => print_b (w := w) true hs hp)
    by_cases h0 : s.size = 0
    · have HN : Hid (plainB s.data.toList = true) := by
        have : s.data.toList = [] := List.eq_nil_of_length_eq_zero (by omega)
        show _ = _
        rw [this]
        rfl
      have he' : s.toList = [] := by rw [ByteArray.toList_eq]; exact List.eq_nil_of_length_eq_zero (by omega)
      have he : s.toList.isEmpty = true := by rw [he']; rfl
      clear hp hz h0
      go_enter Tryd.func61, Tryd.ntmps61
      go_wp2_with fail
      refine (HP.out _).mono ?_
      rintro e w1 ⟨rfl, rfl⟩
      go_wp2
      go_ret
      exact ⟨ret_bool HN.out.symm, rfl⟩
    · have h1 : 0 < s.size := by omega
      have he : s.data.toList.isEmpty = false := by
        rw [Bool.eq_false_iff, Ne, List.isEmpty_iff]
        intro h
        rw [h] at hz
        simp at hz
        omega
      have he' : ¬ s.toList = [] := by
        rw [ByteArray.toList_eq]
        intro h
        rw [h] at hz
        simp at hz
        omega
      have he2 : s.toList.isEmpty = false := by rw [ByteArray.toList_eq]; exact he
      have hB : plainB s.data.toList = (decide (s.data.toList[0]? ≠ some 32) && decide (s.data.toList[s.size - 1]? ≠ some 32)) := by
        unfold plainB
        rw [hp, he]
        simp only [len_data]
        rfl
      clear hz he
      have g0 : s.data.toList[0]? = some s[0] := by
        rw [Array.getElem?_toList]
        exact Array.getElem?_eq_getElem _
      have g1 : s.data.toList[s.size - 1]? = some s[s.size - 1] := by
        rw [Array.getElem?_toList]
        exact Array.getElem?_eq_getElem _
      rw [g0, g1] at hB
      have hp0 : (0 : Int) < (s.size : Int) := by omega
      have hix : (s.size : Int) - 1 < (s.size : Int) := by omega
      have hix0 : (0 : Int) ≤ (s.size : Int) - 1 := by omega
      clear hp h0 g0 g1
      by_cases c0 : (s[0].toNat : Int) = 32
      · have HN : Hid (plainB s.data.toList = false) := by
          show _ = _
          rw [hB, u8_eq (n := 32) (by decide) c0]
          rfl
        have q0 : ((s[0].toNat : Int) != 32) = false := by simp [c0]
        clear c0 hB
        go_enter Tryd.func61, Tryd.ntmps61
        go_wp2_with fail
        refine (HP.out _).mono ?_
        rintro e w1 ⟨rfl, rfl⟩
        go_wp2
        go_ret
        exact ⟨ret_bool HN.out.symm, rfl⟩
      · have n0 := u8_ne (n := 32) (by decide) c0
        have q0 : ((s[0].toNat : Int) != 32) = true := by simp [c0]
        by_cases c1 : (s[s.size - 1].toNat : Int) = 32
        · have HN : Hid (plainB s.data.toList = false) := by
            show _ = _
            rw [hB, u8_eq (n := 32) (by decide) c1]
            simp
          have q1 : ((s[s.size - 1].toNat : Int) != 32) = false := by simp [c1]
          clear c0 c1 hB n0
          go_enter Tryd.func61, Tryd.ntmps61
          go_wp2_with fail
          refine (HP.out _).mono ?_
          rintro e w1 ⟨rfl, rfl⟩
          go_wp2
          go_ret
          exact ⟨ret_bool HN.out.symm, rfl⟩
        · have n1 := u8_ne (n := 32) (by decide) c1
          have HN : Hid (plainB s.data.toList = true) := by
            show _ = _
            rw [hB]
            simp
            exact ⟨n0, n1⟩
          have q1 : ((s[s.size - 1].toNat : Int) != 32) = true := by simp [c1]
          clear c0 c1 hB n0 n1
          go_enter Tryd.func61, Tryd.ntmps61
          go_wp2_with fail
          refine (HP.out _).mono ?_
          rintro e w1 ⟨rfl, rfl⟩
          go_wp2
          go_ret
          exact ⟨ret_bool HN.out.symm, rfl⟩
  · have hp' : printB s.data.toList = false := by simpa using hp
    have HP := Lib.hid (fun w : World => print_b (w := w) false hs hp')
    have HN : Hid (plainB s.data.toList = false) := by
      show _ = _
      unfold plainB
      rw [hp']
      rfl
    clear hp hz hp'
    go_enter Tryd.func61, Tryd.ntmps61
    go_wp2_with fail
    refine (HP.out _).mono ?_
    rintro e w1 ⟨rfl, rfl⟩
    go_wp2
    go_ret
    exact ⟨ret_bool HN.out.symm, rfl⟩

set_option maxHeartbeats 2000000 in
theorem key_any (s : ByteArray) (w : World) (hs : s.size ≤ 2147483647) :
    Calls Tryd.prog 59 #[.string s] w fun e w' => e = .returned (.bool (keyB s.data.toList)) ∧ w = w' := by
  go_enter Tryd.func59, Tryd.ntmps59
  go_wp2
  go_loop [3] (fun i => ∃ k : Nat, k ≤ s.size ∧ i = .int .i64 k ∧ Hid ((s.data.toList.take k).all tokB = true)) (fun i => s.size - (intOf i).toNat)
  case atStart => exact ⟨0, Nat.zero_le _, rfl, by show _ = _; rfl⟩
  case round =>
    obtain ⟨k, hk, rfl, HP⟩ := hrel
    by_cases hlt : k < s.size
    · have hts := take_snoc s k hlt
      cases hL : letterB s[k] with
      | true =>
        have HN : Hid ((s.data.toList.take (k + 1)).all tokB = true) := by
          have h := HP.out
          show _ = _
          rw [hts, all_snoc, h]
          simp [tokB, hL]
        have H1 := Lib.hid (fun w : World => letter_b (w := w) true hL)
        clear hts hL
        go_wp2_with fail
        refine (H1.out _).mono ?_
        rintro e w1 ⟨rfl, rfl⟩
        go_wp2
        go_round
        case rel => exact ⟨k + 1, by omega, by go_num, HN⟩
        case measure => simp [intOf]; omega
      | false =>
        cases hI : inB ksigns s[k] with
        | true =>
          have HN : Hid ((s.data.toList.take (k + 1)).all tokB = true) := by
            have h := HP.out
            show _ = _
            rw [hts, all_snoc, h]
            simp [tokB, hL, hI]
          have H1 := Lib.hid (fun w : World => letter_b (w := w) false hL)
          have H2 := Lib.hid (fun w : World => within_b' (s := ⟨#[33, 35, 36, 37, 38, 39, 42, 43, 45, 46, 94, 95, 96, 124, 126]⟩) (c := s[k]) (w := w) true (by decide) (by rw [ksigns_data]; exact hI))
          clear hts hL hI
          go_wp2_with fail
          refine (H1.out _).mono ?_
          rintro e w1 ⟨rfl, rfl⟩
          go_wp2_with fail
          refine (H2.out _).mono ?_
          rintro e w1 ⟨rfl, rfl⟩
          go_wp2
          go_round
          case rel => exact ⟨k + 1, by omega, by go_num, HN⟩
          case measure => simp [intOf]; omega
        | false =>
          have HN : Hid (keyB s.data.toList = false) := by
            show _ = _
            unfold keyB
            rw [all_head _ (k + 1) (by rw [hts, all_snoc]; simp [tokB, hL, hI])]
            rfl
          have H1 := Lib.hid (fun w : World => letter_b (w := w) false hL)
          have H2 := Lib.hid (fun w : World => within_b' (s := ⟨#[33, 35, 36, 37, 38, 39, 42, 43, 45, 46, 94, 95, 96, 124, 126]⟩) (c := s[k]) (w := w) false (by decide) (by rw [ksigns_data]; exact hI))
          clear hts hL hI
          go_wp2_with fail
          refine (H1.out _).mono ?_
          rintro e w1 ⟨rfl, rfl⟩
          go_wp2_with fail
          refine (H2.out _).mono ?_
          rintro e w1 ⟨rfl, rfl⟩
          go_wp2
          go_ret
          exact ⟨ret_bool HN.out.symm, rfl⟩
    · have HN : Hid (keyB s.data.toList = decide (0 < s.size)) := by
        have h := HP.out
        rw [List.take_of_length_le (by simp; omega)] at h
        show _ = _
        unfold keyB
        rw [h, len_data]
        rfl
      go_wp2
      go_ret
      exact ⟨ret_bool HN.out.symm, rfl⟩

end Go.Proofs.YtklkgddldndmmaaDoor
