/- The walks of spec.Printable, spec.Quote and escapeQuotes: for every string of a length that fits. -/
import Derived.Test.YtfbjfcnkmhnimaaRows
import Derived.Test.YtfbjfcnkmhnimaaPlain
import Derived.Test.YtfbjfcnkmhnimaaKit
import Derived.WalkLawsBesides
import Derived.Lib.Hide
namespace Go.Proofs.Ytfbjfcnkmhnimaa
open Go.RowKit

theorem info5 : (Try.prog.info? 5).map (fun i => (i.zero, i.size, i.bytes)) = some (some (.int .u8 0), 1, 1) := by kernel_rfl
theorem ret_bool {a b : Bool} (h : a = b) : Ending.returned (.bool a) = Ending.returned (.bool b) := by rw [h]

set_option maxHeartbeats 400000 in
theorem printable_any (s : ByteArray) (w : World) (hs : s.size ≤ 16777216) :
    Calls Try.prog 5 #[.string s] w fun e w' => e = .returned (.bool (printB s.data.toList)) ∧ w = w' := by
  go_enter Try.func5, Try.ntmps5
  go_wp2
  go_loop [3] (fun i => ∃ k : Nat, k ≤ s.size ∧ i = .int .i64 k ∧ Hid (printB (s.data.toList.take k) = true)) (fun i => s.size - (intOf i).toNat)
  case atStart => exact ⟨0, Nat.zero_le _, rfl, rfl⟩
  case round =>
    obtain ⟨k, hk, rfl, HP⟩ := hrel
    by_cases hlt : k < s.size
    · have HS : Hid (printB (s.data.toList.take (k + 1)) = okB s[k]) := by
        show _ = _
        rw [take_snoc s k hlt, printB_snoc, HP.out, Bool.true_and]
      by_cases h1 : 32 ≤ (s[k].toNat : Int) ∧ (s[k].toNat : Int) ≤ 126
      · obtain ⟨ha, hb⟩ := h1
        go_wp2
        go_round
        case rel => exact ⟨k + 1, by omega, by go_num, by show _ = _; rw [HS.out]; simp [okB]; omega⟩
        case measure => simp [intOf]; omega
      · have HF : Hid (printB s.data.toList = false) := printB_prefix _ (k + 1) (by rw [HS.out]; simp [okB]; omega)
        have h1' : (s[k].toNat : Int) < 32 ∨ 126 < (s[k].toNat : Int) := by omega
        clear h1
        rcases h1' with h1 | h1
        · go_wp2
          go_ret
          exact ⟨ret_bool HF.out.symm, rfl⟩
        · have h2 : ¬ (s[k].toNat : Int) < 32 := by omega
          go_wp2
          go_ret
          exact ⟨ret_bool HF.out.symm, rfl⟩
    · have HT : Hid (printB s.data.toList = true) := by
        have := HP.out
        rw [List.take_of_length_le (by simp; omega)] at this
        exact this
      go_wp2
      go_ret
      exact ⟨ret_bool HT.out.symm, rfl⟩

theorem ret_str {a b : List UInt8} (h : a = b) : Ending.returned (.string ⟨a.toArray⟩) = Ending.returned (.string ⟨b.toArray⟩) := by rw [h]

theorem is92 {c : UInt8} (h : ((c.toNat : Int) == 92) = true) : c = 92 := by
  have e : (92 : UInt8).toNat = 92 := rfl
  apply UInt8.toNat_inj.1
  rw [e]
  simp at h
  omega
theorem is34 {c : UInt8} (h : ((c.toNat : Int) == 34) = true) : c = 34 := by
  have e : (34 : UInt8).toNat = 34 := rfl
  apply UInt8.toNat_inj.1
  rw [e]
  simp at h
  omega

/-- What an append to the text does to the loop's relation. -/
theorem rel_more {w wr w1 : World} {o : Obj} {v : Value} {q : List UInt8} (hbel : Below w.heap.size w wr) (hown : wr.ownsRow w.heap.size 5 1 v q.length (Lib.byteCells q))
    (hgrow : (wr.alloc o).grownBy w1 v.ownBlock) : Below w.heap.size w w1 :=
  (hbel.alloc hbel.size o).grown hgrow (by have := hbel.size; simp; omega) (fun j hj => (hown.lt j hj).1)

set_option maxHeartbeats 1000000 in
theorem quote_any (s : ByteArray) (w : World) (hs : s.size ≤ 16777216) :
    Calls Try.prog 7 #[.string s] w fun e w' => e = .returned (.string ⟨(quo s.data.toList).toArray⟩) ∧ Below w.heap.size w w' := by
  obtain ⟨i0, hi, hz0, hz1, hz2⟩ := info_parts info5
  go_enter Try.func7, Try.ntmps7
  go_wp2
  go_loopw [3, 4] (fun v i wr => ∃ k : Nat, k ≤ s.size ∧ i = .int .i64 k ∧ wr.ownsRow w.heap.size 5 1 v (quo (s.data.toList.take k)).length (Lib.byteCells (quo (s.data.toList.take k))) ∧ Below w.heap.size w wr) (fun _ i _ => s.size - (intOf i).toNat)
  case atStart => exact ⟨0, Nat.zero_le _, rfl, World.ownsRow_nil _ _ _ _, Below.refl _ _⟩
  case round =>
    obtain ⟨k, hk, rfl, hown, hbel⟩ := hrel
    have hle := quo_le (s.data.toList.take k)
    have hl : (s.data.toList.take k).length ≤ k := List.length_take_le _ _
    have hsz := hbel.size
    obtain ⟨q, hq⟩ : ∃ q, q = quo (s.data.toList.take k) := ⟨_, rfl⟩
    rw [← hq] at hown hle
    by_cases hlt : k < s.size
    · have HS : Hid (quo (s.data.toList.take (k + 1)) = q ++ quoC s[k]) := by
        show _ = _
        rw [take_snoc s k hlt, quo_snoc, hq]
      clear hq
      by_cases h1 : ((s[k].toNat : Int) == 92) = true ∨ ((s[k].toNat : Int) == 34) = true
      · have HC : Hid (Lib.byteCells (q ++ quoC s[k]) = Lib.byteCells q ++ [.int .u8 92] ++ [.int .u8 (s[k].toNat : Int)] ∧ (q ++ quoC s[k]).length = q.length + 1 + 1) := by
          have : s[k] = 92 ∨ s[k] = 34 := by
            rcases h1 with h | h
            · exact .inl (is92 h)
            · exact .inr (is34 h)
          show _ ∧ _
          simp [quoC, this, Lib.byteCells]
        have hb : (((s[k].toNat : Int) == 92) = true) ∨ (((s[k].toNat : Int) == 92) = false ∧ ((s[k].toNat : Int) == 34) = true) := by
          rcases h1 with h | h
          · exact .inl h
          · by_cases h' : ((s[k].toNat : Int) == 92) = true
            · exact .inl h'
            · exact .inr ⟨by simpa using h', h⟩
        clear h1
        rcases hb with h1 | ⟨h1, h2⟩
        all_goals
          go_wp2_with (first
            | (at_builtin; refine wpList_append_own _ rfl (.tmp 21) (.tmp 22) 26 rfl w.heap.size 5 i0 (.int .u8 0) 1 1 Try.underlying26 hi hz0 hz1 hz2 rfl (by decide) _ _ _ rfl (hown.alloc _) ⟨wr.heap.size, 0, none⟩ 1 1 [.int .u8 92] rfl rfl (cell_one_new _ _ _) (by simp; rfl) (by unfold maxLen; omega) (by omega) (by simp; omega) ?_; intro v1 w1 hown1 hgrow1 _hn1; have hsz1 := hgrow1.size; simp at hsz1)
            | (at_builtin; refine wpList_append_own _ rfl (.tmp 24) (.tmp 28) 26 rfl w.heap.size 5 i0 (.int .u8 0) 1 1 Try.underlying26 hi hz0 hz1 hz2 rfl (by decide) _ _ _ rfl (hown1.alloc _) ⟨w1.heap.size, 0, none⟩ 1 1 [.int .u8 (s[k].toNat : Int)] rfl rfl (cell_one_new _ _ _) (by simp; rfl) (by unfold maxLen; omega) (by omega) (by simp; omega) ?_; intro v2 w2 hown2 hgrow2 _hn2))
          go_roundw
          case rel =>
            have hb1 := rel_more hbel hown hgrow1
            exact ⟨k + 1, by omega, by go_num, by rw [HS.out, HC.out.1, HC.out.2]; exact hown2, (hb1.alloc hb1.size _).grown hgrow2 (by have := hb1.size; simp; omega) (fun j hj => (hown1.lt j hj).1)⟩
          case measure => simp [intOf]; omega
      · have h2 : ((s[k].toNat : Int) == 92) = false := by simpa using fun h => h1 (.inl h)
        have h3 : ((s[k].toNat : Int) == 34) = false := by simpa using fun h => h1 (.inr h)
        have HC : Hid (Lib.byteCells (q ++ quoC s[k]) = Lib.byteCells q ++ [.int .u8 (s[k].toNat : Int)] ∧ (q ++ quoC s[k]).length = q.length + 1) := by
          have a1 : s[k] ≠ 92 := by intro h; rw [h] at h2; simp at h2
          have a2 : s[k] ≠ 34 := by intro h; rw [h] at h3; simp at h3
          show _ ∧ _
          simp [quoC, a1, a2, Lib.byteCells]
        clear h1
        go_wp2_with (at_builtin; refine wpList_append_own _ rfl (.tmp 24) (.tmp 28) 26 rfl w.heap.size 5 i0 (.int .u8 0) 1 1 Try.underlying26 hi hz0 hz1 hz2 rfl (by decide) _ _ _ rfl (hown.alloc _) ⟨wr.heap.size, 0, none⟩ 1 1 [.int .u8 (s[k].toNat : Int)] rfl rfl (cell_one_new _ _ _) (by simp; rfl) (by unfold maxLen; omega) (by omega) (by simp; omega) ?_; intro v' w1 hown1 hgrow1 _hn1)
        go_roundw
        case rel => exact ⟨k + 1, by omega, by go_num, by rw [HS.out, HC.out.1, HC.out.2]; exact hown1, rel_more hbel hown hgrow1⟩
        case measure => simp [intOf]; omega
    · have HT : Hid (quo s.data.toList = q) := by
        show _ = _
        rw [hq, List.take_of_length_le (by simp; omega)]
      have hconv := conv_own (P := Try.prog) (src := 26) (dst := 9) Try.underlying26 Try.underlying5 Try.underlying9 hown
      clear hq
      go_wp2
      go_ret
      exact ⟨ret_str HT.out.symm, hbel⟩
set_option maxHeartbeats 1000000 in
theorem escape_any (s : ByteArray) (w : World) (hs : s.size ≤ 16777216) (hp : printB s.data.toList = true) :
    Calls Try.prog 11 #[.string s] w fun e w' => e = .returned (.string ⟨(quo s.data.toList).toArray⟩) ∧ Below w.heap.size w w' := by
  obtain ⟨i0, hi, hz0, hz1, hz2⟩ := info_parts info5
  have HPr : Hid (printB s.data.toList = true) := hp
  clear hp
  go_enter Try.func11, Try.ntmps11
  go_wp2
  go_loopw [3, 4] (fun v i wr => ∃ k : Nat, k ≤ s.size ∧ i = .int .i64 k ∧ wr.ownsRow w.heap.size 5 1 v (quo (s.data.toList.take k)).length (Lib.byteCells (quo (s.data.toList.take k))) ∧ Below w.heap.size w wr) (fun _ i _ => s.size - (intOf i).toNat)
  case atStart => exact ⟨0, Nat.zero_le _, rfl, World.ownsRow_nil _ _ _ _, Below.refl _ _⟩
  case round =>
    obtain ⟨k, hk, rfl, hown, hbel⟩ := hrel
    have hle := quo_le (s.data.toList.take k)
    have hl : (s.data.toList.take k).length ≤ k := List.length_take_le _ _
    have hsz := hbel.size
    obtain ⟨q, hq⟩ : ∃ q, q = quo (s.data.toList.take k) := ⟨_, rfl⟩
    rw [← hq] at hown hle
    by_cases hlt : k < s.size
    · have HS : Hid (quo (s.data.toList.take (k + 1)) = q ++ quoC s[k]) := by
        show _ = _
        rw [take_snoc s k hlt, quo_snoc, hq]
      clear hq
      by_cases h1 : ((s[k].toNat : Int) == 92) = true ∨ ((s[k].toNat : Int) == 34) = true
      · have HC : Hid (Lib.byteCells (q ++ quoC s[k]) = Lib.byteCells q ++ [.int .u8 92] ++ [.int .u8 (s[k].toNat : Int)] ∧ (q ++ quoC s[k]).length = q.length + 1 + 1) := by
          have : s[k] = 92 ∨ s[k] = 34 := by
            rcases h1 with h | h
            · exact .inl (is92 h)
            · exact .inr (is34 h)
          show _ ∧ _
          simp [quoC, this, Lib.byteCells]
        have hb : (((s[k].toNat : Int) == 92) = true) ∨ (((s[k].toNat : Int) == 92) = false ∧ ((s[k].toNat : Int) == 34) = true) := by
          rcases h1 with h | h
          · exact .inl h
          · by_cases h' : ((s[k].toNat : Int) == 92) = true
            · exact .inl h'
            · exact .inr ⟨by simpa using h', h⟩
        clear h1
        rcases hb with h1 | ⟨h1, h2⟩
        all_goals
          go_wp2_with (at_builtin; refine wpList_append_own _ rfl (.tmp 23) (.tmp 27) 26 rfl w.heap.size 5 i0 (.int .u8 0) 1 1 Try.underlying26 hi hz0 hz1 hz2 rfl (by decide) _ _ _ rfl (hown.alloc _) ⟨wr.heap.size, 0, none⟩ 2 2 [.int .u8 92, .int .u8 (s[k].toNat : Int)] rfl rfl (cell_two_new _ _ _ _) (by simp; exact ⟨rfl, rfl⟩) (by unfold maxLen; omega) (by omega) (by simp; omega) ?_; intro v1 w1 hown1 hgrow1 _hn1)
          go_roundw
          case rel => exact ⟨k + 1, by omega, by go_num, by rw [HS.out, HC.out.1, HC.out.2, List.append_assoc]; exact hown1, rel_more hbel hown hgrow1⟩
          case measure => simp [intOf]; omega
      · have h2 : ((s[k].toNat : Int) == 92) = false := by simpa using fun h => h1 (.inl h)
        have h3 : ((s[k].toNat : Int) == 34) = false := by simpa using fun h => h1 (.inr h)
        have hok : okB s[k] = true := by
          have := HPr.out
          unfold printB at this
          exact List.all_eq_true.1 this _ (by rw [Array.mem_toList_iff]; exact Array.getElem_mem (by simpa using hlt))
        simp only [okB, Bool.and_eq_true, decide_eq_true_eq] at hok
        have h4 : ((s[k].toNat : Int) == 13) = false := by rw [beq_eq_false_iff_ne]; omega
        have h5 : ((s[k].toNat : Int) == 10) = false := by rw [beq_eq_false_iff_ne]; omega
        clear hok
        have HC : Hid (Lib.byteCells (q ++ quoC s[k]) = Lib.byteCells q ++ [.int .u8 (s[k].toNat : Int)] ∧ (q ++ quoC s[k]).length = q.length + 1) := by
          have a1 : s[k] ≠ 92 := by intro h; rw [h] at h2; simp at h2
          have a2 : s[k] ≠ 34 := by intro h; rw [h] at h3; simp at h3
          show _ ∧ _
          simp [quoC, a1, a2, Lib.byteCells]
        clear h1
        go_wp2_with (at_builtin; refine wpList_append_own _ rfl (.tmp 14) (.tmp 18) 26 rfl w.heap.size 5 i0 (.int .u8 0) 1 1 Try.underlying26 hi hz0 hz1 hz2 rfl (by decide) _ _ _ rfl (hown.alloc _) ⟨wr.heap.size, 0, none⟩ 1 1 [.int .u8 (s[k].toNat : Int)] rfl rfl (cell_one_new _ _ _) (by simp; rfl) (by unfold maxLen; omega) (by omega) (by simp; omega) ?_; intro v' w1 hown1 hgrow1 _hn1)
        go_roundw
        case rel => exact ⟨k + 1, by omega, by go_num, by rw [HS.out, HC.out.1, HC.out.2]; exact hown1, rel_more hbel hown hgrow1⟩
        case measure => simp [intOf]; omega
    · have HT : Hid (quo s.data.toList = q) := by
        show _ = _
        rw [hq, List.take_of_length_le (by simp; omega)]
      have hconv := conv_own (P := Try.prog) (src := 26) (dst := 9) Try.underlying26 Try.underlying5 Try.underlying9 hown
      clear hq
      go_wp2
      go_ret
      exact ⟨ret_str HT.out.symm, hbel⟩
theorem printable_yes (s : ByteArray) (w : World) (hs : s.size ≤ 16777216) (h : printB s.data.toList = true) :
    Calls Try.prog 5 #[.string s] w fun e w' => e = .returned (.bool true) ∧ w = w' :=
  (printable_any s w hs).mono fun _ _ ⟨he, hw⟩ => ⟨by rw [he, h], hw⟩
theorem printable_no (s : ByteArray) (w : World) (hs : s.size ≤ 16777216) (h : printB s.data.toList = false) :
    Calls Try.prog 5 #[.string s] w fun e w' => e = .returned (.bool false) ∧ w = w' :=
  (printable_any s w hs).mono fun _ _ ⟨he, hw⟩ => ⟨by rw [he, h], hw⟩

theorem mp_quote (s : ByteArray) (w : World) (hs : s.size ≤ 16777216) (hp : printB s.data.toList = true) :
    Calls Try.prog 9 #[.string s] w fun e w' => e = .returned (.string ⟨(quo s.data.toList).toArray⟩) ∧ Below w.heap.size w w' := by
  have HP := Lib.hid hp
  clear hp
  go_enter Try.func9, Try.ntmps9
  go_wp2_with fail
  refine (escape_any _ _ hs HP.out).mono ?_
  rintro e w1 ⟨rfl, hb1⟩
  go_wp2
  go_ret
  exact ⟨rfl, hb1⟩
theorem impl_quote (s : ByteArray) (w : World) (hs : s.size ≤ 16777216) (hp : printB s.data.toList = true) :
    Calls Try.prog 6 #[.string s] w fun e w' => e = .returned (.string ⟨(quo s.data.toList).toArray⟩) ∧ Below w.heap.size w w' := by
  have HP := Lib.hid hp
  clear hp
  go_enter Try.func6, Try.ntmps6
  go_wp2_with fail
  refine (mp_quote _ _ hs HP.out).mono ?_
  rintro e w1 ⟨rfl, hb1⟩
  go_wp2
  go_ret
  exact ⟨rfl, hb1⟩
end Go.Proofs.Ytfbjfcnkmhnimaa
