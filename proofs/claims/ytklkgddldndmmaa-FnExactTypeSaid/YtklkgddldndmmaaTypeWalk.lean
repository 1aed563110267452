/- The walks of impl.Type, spec.Type and the law FnExactType. -/
import Derived.Test.YtklkgddldndmmaaSetB
import Derived.Test.YtklkgddldndmmaaAny
namespace Go.Proofs.Ytklkgddldndmmaa
open Go.RowKit
set_option linter.unusedVariables false
set_option linter.unusedSimpArgs false

theorem writer_any (v : Value) (w : World) :
    Calls Try.prog 9 #[.iface 28 v] w fun e w' => ∃ b, e = .returned (.pointer (some ⟨b, 0, none⟩)) ∧ b = w.heap.size ∧ Wr w' b (.iface 28 v) ByteArray.empty none ∧ Below w.heap.size w w' := by
  go_enter Try.func9, Try.ntmps9
  go_wp2
  go_ret
  refine ⟨_, rfl, rfl, ?_, (Below.refl _ _).alloc (Nat.le_refl _) _⟩
  exact heap_alloc_new w _

/-- The characters that a token may not have. -/
def specials : List UInt8 := [40, 41, 60, 62, 64, 44, 59, 58, 92, 34, 47, 91, 93, 63, 61, 32]
def specialsA : ByteArray := ⟨#[40, 41, 60, 62, 64, 44, 59, 58, 92, 34, 47, 91, 93, 63, 61, 32]⟩
def form : ByteArray := ⟨#[109, 117, 108, 116, 105, 112, 97, 114, 116, 47, 102, 111, 114, 109, 45, 100, 97, 116, 97, 59, 32, 98, 111, 117, 110, 100, 97, 114, 121, 61]⟩
def quote : ByteArray := ⟨#[34]⟩
theorem formq_lit : (⟨#[109, 117, 108, 116, 105, 112, 97, 114, 116, 47, 102, 111, 114, 109, 45, 100, 97, 116, 97, 59, 32, 98, 111, 117, 110, 100, 97, 114, 121, 61, 34]⟩ : ByteArray) = form ++ quote := by decide
theorem formq_eq (s : ByteArray) : (⟨#[109, 117, 108, 116, 105, 112, 97, 114, 116, 47, 102, 111, 114, 109, 45, 100, 97, 116, 97, 59, 32, 98, 111, 117, 110, 100, 97, 114, 121, 61, 34]⟩ : ByteArray) ++ s ++ quote = form ++ (quote ++ s ++ quote) := by
  rw [formq_lit]
  simp only [ByteArray.append_assoc]
/-- The media type. -/
def typeS (s : ByteArray) : ByteArray := if anyB s.data.toList specials = true then form ++ (quote ++ s ++ quote) else form ++ s
theorem specials_ascii : ∀ p (h : p < specialsA.size), specialsA[p].toNat < 128 := by decide

theorem form_any (b : Nat) (v0 : Value) (s : ByteArray) (lp : Option Addr) (w : World) (hs : s.size ≤ 2147483647) (ha : ∀ p (h : p < s.size), s[p].toNat < 128) (hw : Wr w b v0 s lp) :
    Calls Try.prog 11 #[.pointer (some ⟨b, 0, none⟩)] w fun e w' => e = .returned (.string (typeS s)) ∧ Below w.heap.size w w' := by
  have c1 := hw.c1
  by_cases h : anyB s.data.toList specials = true
  · have HT : Hid (typeS s = form ++ (quote ++ s ++ quote)) := by show _ = _; unfold typeS; rw [if_pos h]
    have HC : Hid (∀ w : World, Calls Try.prog 13 #[.string s, .string specialsA] w fun e w' => e = .returned (.bool true) ∧ Below w.heap.size w w') := fun w => (contains_any s specialsA w hs ha specials_ascii).mono fun _ _ ⟨he, hb⟩ => ⟨by rw [he]; exact ret_bool h, hb⟩
    go_enter Try.func11, Try.ntmps11
    go_wp2_with fail
    refine (HC.out _).mono ?_
    rintro e w1 ⟨rfl, hb⟩
    go_wp2
    go_ret
    exact ⟨by rw [HT.out]; rfl, hb⟩
  · have HT : Hid (typeS s = form ++ s) := by show _ = _; unfold typeS; rw [if_neg h]
    have HC : Hid (∀ w : World, Calls Try.prog 13 #[.string s, .string specialsA] w fun e w' => e = .returned (.bool false) ∧ Below w.heap.size w w') := fun w => (contains_any s specialsA w hs ha specials_ascii).mono fun _ _ ⟨he, hb⟩ => ⟨by rw [he]; exact ret_bool (by rw [show specialsA.data.toList = specials from rfl]; simpa using h), hb⟩
    go_enter Try.func11, Try.ntmps11
    go_wp2_with fail
    refine (HC.out _).mono ?_
    rintro e w1 ⟨rfl, hb⟩
    go_wp2
    go_ret
    exact ⟨by rw [HT.out]; rfl, hb⟩

theorem spec_type (s : ByteArray) (w : World) (hs : s.size ≤ 2147483647) :
    Calls Try.prog 6 #[.string s] w fun e w' => e = .returned (.string (typeS s)) ∧ w = w' := by
  go_enter Try.func6, Try.ntmps6
  go_wp2
  go_loop [3] (fun i => ∃ k : Nat, k ≤ s.size ∧ i = .int .i64 k ∧ Hid (anyB (s.data.toList.take k) specials = false)) (fun i => s.size - (intOf i).toNat)
  case atStart => exact ⟨0, Nat.zero_le _, rfl, rfl⟩
  case round =>
    obtain ⟨k, hk, rfl, HP⟩ := hrel
    by_cases hlt : k < s.size
    · have HS : Hid (anyB (s.data.toList.take (k + 1)) specials = inB specials s[k]) := by
        show _ = _
        rw [take_snoc s k hlt, anyB_snoc, HP.out, Bool.false_or]
      by_cases h1 : inB specials s[k] = true
      · have HT : Hid (typeS s = form ++ (quote ++ s ++ quote)) := by
          show _ = _
          unfold typeS
          rw [if_pos (anyB_head _ _ (k + 1) (by rw [HS.out]; exact h1))]
        have H1 := Lib.hid (fun w : World => within_b' (s := specialsA) (w := w) true (by decide) h1)
        clear h1
        go_wp2_with fail
        refine (H1.out _).mono ?_
        rintro e w1 ⟨rfl, rfl⟩
        go_wp2
        go_ret
        exact ⟨by rw [HT.out]; exact congrArg (fun x => Ending.returned (.string x)) (formq_eq s), rfl⟩
      · have HN : Hid (anyB (s.data.toList.take (k + 1)) specials = false) := by
          show _ = _
          rw [HS.out]; simpa using h1
        have H1 := Lib.hid (fun w : World => within_b' (s := specialsA) (w := w) false (by decide) (by rw [show specialsA.data.toList = specials from rfl]; simpa using h1))
        clear h1
        go_wp2_with fail
        refine (H1.out _).mono ?_
        rintro e w1 ⟨rfl, rfl⟩
        go_wp2
        go_round
        case rel => exact ⟨k + 1, by omega, by go_num, HN⟩
        case measure => simp [intOf]; omega
    · have HT : Hid (typeS s = form ++ s) := by
        have := HP.out
        rw [List.take_of_length_le (by simp; omega)] at this
        show _ = _
        unfold typeS
        rw [this]
        rfl
      go_wp2
      go_ret
      exact ⟨by rw [HT.out]; rfl, rfl⟩

theorem ascii_of {s : ByteArray} (h : boundB s.data.toList = true) : ∀ p (hp : p < s.size), s[p].toNat < 128 := by
  intro p hp
  unfold boundB at h
  simp only [Bool.and_eq_true, List.all_eq_true] at h
  have h1 := h.1.1.1 s[p] (by rw [Array.mem_toList_iff]; exact Array.getElem_mem _)
  have hok : letterB s[p] = true ∨ inB signs s[p] = true := by unfold okB at h1; simpa using h1
  rw [letterB_iff] at hok
  unfold inB signs at hok
  simp [← UInt8.toNat_inj] at hok
  omega

set_option maxHeartbeats 2000000 in
theorem impl_yes (s : ByteArray) (w : World) (hs : s.size ≤ 2147483647) (h : boundB s.data.toList = true) :
    Calls Try.prog 5 #[.string s] w fun e w' => e = .returned (.string (typeS s)) ∧ Below w.heap.size w w' := by
  go_enter Try.func5, Try.ntmps5
  go_wp2_with fail
  refine (writer_any _ _).mono ?_
  rintro e w1 ⟨b, rfl, hb, hw, hbel⟩
  have hbb : Below w.heap.size w w1 := ((Below.refl w.heap.size w).alloc (Nat.le_refl _) _).trans (hbel.mono (by simp))
  have hlt : w.heap.size ≤ b := by rw [hb]; simp
  clear hb hbel
  go_wp2_with fail
  refine (set_yes b _ _ s w1 hw h).mono ?_
  rintro e w2 ⟨rfl, hw2, hb2⟩
  go_wp2_with fail
  refine (form_any b _ s none w2 hs (ascii_of h) hw2).mono ?_
  rintro e w3 ⟨rfl, hb3⟩
  go_wp2
  go_ret
  exact ⟨rfl, (hbb.trans (hb2.mono hlt)).trans (hb3.mono (by have := hw2.lt; omega))⟩

set_option maxHeartbeats 2000000 in
theorem impl_no (s : ByteArray) (w : World) (h : boundB s.data.toList = false) :
    Calls Try.prog 5 #[.string s] w fun e w' => e = .returned (.string ⟨#[]⟩) ∧ Below w.heap.size w w' := by
  go_enter Try.func5, Try.ntmps5
  go_wp2_with fail
  refine (writer_any _ _).mono ?_
  rintro e w1 ⟨b, rfl, hb, hw, hbel⟩
  have hbb : Below w.heap.size w w1 := ((Below.refl w.heap.size w).alloc (Nat.le_refl _) _).trans (hbel.mono (by simp))
  clear hb hbel
  go_wp2_with fail
  refine (set_no b _ _ s w1 hw h).mono ?_
  rintro e w2 ⟨⟨p, rfl⟩, hb2⟩
  go_wp2
  go_ret
  exact ⟨rfl, hbb.trans (hb2.mono hbb.size)⟩

theorem walk (s : ByteArray) (w0 : s.size ≤ maxLen) (w : World) :
    Calls Try.prog 3 #[.string s] w fun e w' => e = .returned (.bool true) ∧ Below w.heap.size w w' := by
  unfold maxLen at w0
  by_cases h1 : s.size ≤ 16777216
  · by_cases hp : boundB s.data.toList = true
    · have H1 := Lib.hid (fun w : World => bound_any s w (by omega))
      rw [hp] at H1
      have H2 := Lib.hid (fun w : World => impl_yes s w (by omega) hp)
      clear hp
      go_enter Try.func3, Try.ntmps3
      go_wp2_with fail
      refine (H1.out _).mono ?_
      rintro e w1 ⟨rfl, rfl⟩
      go_wp2_with fail
      refine (H2.out _).mono ?_
      rintro e w1 ⟨rfl, hb1⟩
      go_wp2_with fail
      refine (spec_type s _ (by omega)).mono ?_
      rintro e w2 ⟨rfl, rfl⟩
      go_wp2
      go_ret
      exact ⟨by simp, hb1⟩
    · have hp' : boundB s.data.toList = false := by simpa using hp
      have H1 := Lib.hid (fun w : World => bound_any s w (by omega))
      rw [hp'] at H1
      have H2 := Lib.hid (fun w : World => impl_no s w hp')
      clear hp hp'
      go_enter Try.func3, Try.ntmps3
      go_wp2_with fail
      refine (H1.out _).mono ?_
      rintro e w1 ⟨rfl, rfl⟩
      go_wp2_with fail
      refine (H2.out _).mono ?_
      rintro e w1 ⟨rfl, hb1⟩
      go_wp2
      go_ret
      exact ⟨by simp, hb1⟩
  · by_cases h2 : 2147483647 < s.size
    all_goals
      go_enter Try.func3, Try.ntmps3
      go_wp2
      go_ret
      exact ⟨rfl, Below.refl _ _⟩

end Go.Proofs.Ytklkgddldndmmaa
