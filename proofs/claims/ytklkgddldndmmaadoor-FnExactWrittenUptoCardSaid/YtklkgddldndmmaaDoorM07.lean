/- Texts of the proof, joined: KeyT, Canon, Fits. -/
import Derived.Test.YtklkgddldndmmaaDoorM06
/- The walks of Printable, Plain and Key. -/
namespace Go.Proofs.YtklkgddldndmmaaDoor
open Go.RowKit
set_option linter.unusedVariables false
set_option linter.unusedSimpArgs false

def printB (l : List UInt8) : Bool := l.all fun c => decide (32 ≤ c.toNat) && decide (c.toNat ≤ 126)
def plainB (l : List UInt8) : Bool := printB l && (l.isEmpty || (decide (l[0]? ≠ some 32) && decide (l[l.length - 1]? ≠ some 32)))
def ksigns : List UInt8 := [33, 35, 36, 37, 38, 39, 42, 43, 45, 46, 94, 95, 96, 124, 126]
def tokB (c : UInt8) : Bool := letterB c || inB ksigns c
def keyB (l : List UInt8) : Bool := l.all tokB && decide (0 < l.length)

theorem all_snoc {p : UInt8 → Bool} (l : List UInt8) (c : UInt8) : (l ++ [c]).all p = (l.all p && p c) := by simp
theorem all_head {p : UInt8 → Bool} (l : List UInt8) (k : Nat) (h : (l.take k).all p = false) : l.all p = false := by
  rw [← List.take_append_drop k l, List.all_append, h]
  rfl
theorem ksigns_data : (⟨#[33, 35, 36, 37, 38, 39, 42, 43, 45, 46, 94, 95, 96, 124, 126]⟩ : ByteArray).data.toList = ksigns := rfl

set_option maxHeartbeats 1000000 in
theorem printable_any (s : ByteArray) (w : World) (hs : s.size ≤ 2147483647) :
    Calls Tryd.prog 46 #[.string s] w fun e w' => e = .returned (.bool (printB s.data.toList)) ∧ w = w' := by
  go_enter Tryd.func46, Tryd.ntmps46
  go_wp2
  go_loop [3] (fun i => ∃ k : Nat, k ≤ s.size ∧ i = .int .i64 k ∧ Hid (printB (s.data.toList.take k) = true)) (fun i => s.size - (intOf i).toNat)
  case atStart => exact ⟨0, Nat.zero_le _, rfl, by show _ = _; rfl⟩
  case round =>
    obtain ⟨k, hk, rfl, HP⟩ := hrel
    by_cases hlt : k < s.size
    · have hts := take_snoc s k hlt
      by_cases hc : 32 ≤ s[k].toNat ∧ s[k].toNat ≤ 126
      · have HN : Hid (printB (s.data.toList.take (k + 1)) = true) := by
          have h := HP.out
          show _ = _
          unfold printB at h ⊢
          rw [hts, all_snoc, h]
          simpa using hc
        have h1 : ¬ (s[k].toNat : Int) < 32 := by omega
        have h2 : ¬ (126 : Int) < (s[k].toNat : Int) := by omega
        clear hts hc
        go_wp2
        go_round
        case rel => exact ⟨k + 1, by omega, by go_num, HN⟩
        case measure => simp [intOf]; omega
      · have HN : Hid (printB s.data.toList = false) := by
          show _ = _
          refine all_head _ (k + 1) ?_
          rw [hts, all_snoc]
          have : (decide (32 ≤ s[k].toNat) && decide (s[k].toNat ≤ 126)) = false := by
            rw [Bool.eq_false_iff]; simpa using hc
          rw [this, Bool.and_false]
        have hc' : (s[k].toNat : Int) < 32 ∨ (¬ (s[k].toNat : Int) < 32 ∧ (126 : Int) < (s[k].toNat : Int)) := by omega
        clear hts hc
        rcases hc' with h1 | ⟨h1, h2⟩
        all_goals
          go_wp2
          go_ret
          exact ⟨ret_bool HN.out.symm, rfl⟩
    · have HN : Hid (printB s.data.toList = true) := by
        have h := HP.out
        rw [List.take_of_length_le (by simp; omega)] at h
        exact h
      go_wp2
      go_ret
      exact ⟨ret_bool HN.out.symm, rfl⟩

theorem print_b {s : ByteArray} {w : World} (b : Bool) (hs : s.size ≤ 2147483647) (h : printB s.data.toList = b) :
    Calls Tryd.prog 46 #[.string s] w fun e w' => e = .returned (.bool b) ∧ w = w' :=
  (printable_any s w hs).mono fun _ _ ⟨he, hw⟩ => ⟨by rw [he, h], hw⟩

set_option maxHeartbeats 1000000 in
theorem plain_any (s : ByteArray) (w : World) (hs : s.size ≤ 2147483647) :
    Calls Tryd.prog 61 #[.string s] w fun e w' => e = .returned (.bool (plainB s.data.toList)) ∧ w = w' := by
  have hz : s.data.toList.length = s.size := by simp
  by_cases hp : printB s.data.toList = true
  · have HP := Lib.hid (fun w : World => print_b (w := w) true hs hp)
    by_cases h0 : s.size = 0
    · have HN : Hid (plainB s.data.toList = true) := by
        have : s.data.toList = [] := List.eq_nil_of_length_eq_zero (by omega)
        show _ = _
        rw [this]
        rfl
      have he' : s.toList = [] := by rw [ByteArray.toList_eq]; exact List.eq_nil_of_length_eq_zero (by omega)
      have he : s.toList.isEmpty = true := by rw [he']; rfl
      clear hp hz h0
      go_enter Tryd.func61, Tryd.ntmps61
      go_wp2_with fail
      refine (HP.out _).mono ?_
      rintro e w1 ⟨rfl, rfl⟩
      go_wp2
      go_ret
      exact ⟨ret_bool HN.out.symm, rfl⟩
    · have h1 : 0 < s.size := by omega
      have he : s.data.toList.isEmpty = false := by
        rw [Bool.eq_false_iff, Ne, List.isEmpty_iff]
        intro h
        rw [h] at hz
        simp at hz
        omega
      have he' : ¬ s.toList = [] := by
        rw [ByteArray.toList_eq]
        intro h
        rw [h] at hz
        simp at hz
        omega
      have he2 : s.toList.isEmpty = false := by rw [ByteArray.toList_eq]; exact he
      have hB : plainB s.data.toList = (decide (s.data.toList[0]? ≠ some 32) && decide (s.data.toList[s.size - 1]? ≠ some 32)) := by
        unfold plainB
        rw [hp, he]
        simp only [len_data]
        rfl
      clear hz he
      have g0 : s.data.toList[0]? = some s[0] := by
        rw [Array.getElem?_toList]
        exact Array.getElem?_eq_getElem _
      have g1 : s.data.toList[s.size - 1]? = some s[s.size - 1] := by
        rw [Array.getElem?_toList]
        exact Array.getElem?_eq_getElem _
      rw [g0, g1] at hB
      have hp0 : (0 : Int) < (s.size : Int) := by omega
      have hix : (s.size : Int) - 1 < (s.size : Int) := by omega
      have hix0 : (0 : Int) ≤ (s.size : Int) - 1 := by omega
      clear hp h0 g0 g1
      by_cases c0 : (s[0].toNat : Int) = 32
      · have HN : Hid (plainB s.data.toList = false) := by
          show _ = _
          rw [hB, u8_eq (n := 32) (by decide) c0]
          rfl
        have q0 : ((s[0].toNat : Int) != 32) = false := by simp [c0]
        clear c0 hB
        go_enter Tryd.func61, Tryd.ntmps61
        go_wp2_with fail
        refine (HP.out _).mono ?_
        rintro e w1 ⟨rfl, rfl⟩
        go_wp2
        go_ret
        exact ⟨ret_bool HN.out.symm, rfl⟩
      · have n0 := u8_ne (n := 32) (by decide) c0
        have q0 : ((s[0].toNat : Int) != 32) = true := by simp [c0]
        by_cases c1 : (s[s.size - 1].toNat : Int) = 32
        · have HN : Hid (plainB s.data.toList = false) := by
            show _ = _
            rw [hB, u8_eq (n := 32) (by decide) c1]
            simp
          have q1 : ((s[s.size - 1].toNat : Int) != 32) = false := by simp [c1]
          clear c0 c1 hB n0
          go_enter Tryd.func61, Tryd.ntmps61
          go_wp2_with fail
          refine (HP.out _).mono ?_
          rintro e w1 ⟨rfl, rfl⟩
          go_wp2
          go_ret
          exact ⟨ret_bool HN.out.symm, rfl⟩
        · have n1 := u8_ne (n := 32) (by decide) c1
          have HN : Hid (plainB s.data.toList = true) := by
            show _ = _
            rw [hB]
            simp
            exact ⟨n0, n1⟩
          have q1 : ((s[s.size - 1].toNat : Int) != 32) = true := by simp [c1]
          clear c0 c1 hB n0 n1
          go_enter Tryd.func61, Tryd.ntmps61
          go_wp2_with fail
          refine (HP.out _).mono ?_
          rintro e w1 ⟨rfl, rfl⟩
          go_wp2
          go_ret
          exact ⟨ret_bool HN.out.symm, rfl⟩
  · have hp' : printB s.data.toList = false := by simpa using hp
    have HP := Lib.hid (fun w : World => print_b (w := w) false hs hp')
    have HN : Hid (plainB s.data.toList = false) := by
      show _ = _
      unfold plainB
      rw [hp']
      rfl
    clear hp hz hp'
    go_enter Tryd.func61, Tryd.ntmps61
    go_wp2_with fail
    refine (HP.out _).mono ?_
    rintro e w1 ⟨rfl, rfl⟩
    go_wp2
    go_ret
    exact ⟨ret_bool HN.out.symm, rfl⟩

set_option maxHeartbeats 2000000 in
theorem key_any (s : ByteArray) (w : World) (hs : s.size ≤ 2147483647) :
    Calls Tryd.prog 59 #[.string s] w fun e w' => e = .returned (.bool (keyB s.data.toList)) ∧ w = w' := by
  go_enter Tryd.func59, Tryd.ntmps59
  go_wp2
  go_loop [3] (fun i => ∃ k : Nat, k ≤ s.size ∧ i = .int .i64 k ∧ Hid ((s.data.toList.take k).all tokB = true)) (fun i => s.size - (intOf i).toNat)
  case atStart => exact ⟨0, Nat.zero_le _, rfl, by show _ = _; rfl⟩
  case round =>
    obtain ⟨k, hk, rfl, HP⟩ := hrel
    by_cases hlt : k < s.size
    · have hts := take_snoc s k hlt
      cases hL : letterB s[k] with
      | true =>
        have HN : Hid ((s.data.toList.take (k + 1)).all tokB = true) := by
          have h := HP.out
          show _ = _
          rw [hts, all_snoc, h]
          simp [tokB, hL]
        have H1 := Lib.hid (fun w : World => letter_b (w := w) true hL)
        clear hts hL
        go_wp2_with fail
        refine (H1.out _).mono ?_
        rintro e w1 ⟨rfl, rfl⟩
        go_wp2
        go_round
        case rel => exact ⟨k + 1, by omega, by go_num, HN⟩
        case measure => simp [intOf]; omega
      | false =>
        cases hI : inB ksigns s[k] with
        | true =>
          have HN : Hid ((s.data.toList.take (k + 1)).all tokB = true) := by
            have h := HP.out
            show _ = _
            rw [hts, all_snoc, h]
            simp [tokB, hL, hI]
          have H1 := Lib.hid (fun w : World => letter_b (w := w) false hL)
          have H2 := Lib.hid (fun w : World => within_b' (s := ⟨#[33, 35, 36, 37, 38, 39, 42, 43, 45, 46, 94, 95, 96, 124, 126]⟩) (c := s[k]) (w := w) true (by decide) (by rw [ksigns_data]; exact hI))
          clear hts hL hI
          go_wp2_with fail
          refine (H1.out _).mono ?_
          rintro e w1 ⟨rfl, rfl⟩
          go_wp2_with fail
          refine (H2.out _).mono ?_
          rintro e w1 ⟨rfl, rfl⟩
          go_wp2
          go_round
          case rel => exact ⟨k + 1, by omega, by go_num, HN⟩
          case measure => simp [intOf]; omega
        | false =>
          have HN : Hid (keyB s.data.toList = false) := by
            show _ = _
            unfold keyB
            rw [all_head _ (k + 1) (by rw [hts, all_snoc]; simp [tokB, hL, hI])]
            rfl
          have H1 := Lib.hid (fun w : World => letter_b (w := w) false hL)
          have H2 := Lib.hid (fun w : World => within_b' (s := ⟨#[33, 35, 36, 37, 38, 39, 42, 43, 45, 46, 94, 95, 96, 124, 126]⟩) (c := s[k]) (w := w) false (by decide) (by rw [ksigns_data]; exact hI))
          clear hts hL hI
          go_wp2_with fail
          refine (H1.out _).mono ?_
          rintro e w1 ⟨rfl, rfl⟩
          go_wp2_with fail
          refine (H2.out _).mono ?_
          rintro e w1 ⟨rfl, rfl⟩
          go_wp2
          go_ret
          exact ⟨ret_bool HN.out.symm, rfl⟩
    · have HN : Hid (keyB s.data.toList = decide (0 < s.size)) := by
        have h := HP.out
        rw [List.take_of_length_le (by simp; omega)] at h
        show _ = _
        unfold keyB
        rw [h, len_data]
        rfl
      go_wp2
      go_ret
      exact ⟨ret_bool HN.out.symm, rfl⟩

end Go.Proofs.YtklkgddldndmmaaDoor

/- The walk of Canon. -/
namespace Go.Proofs.YtklkgddldndmmaaDoor
open Go.RowKit
set_option linter.unusedVariables false
set_option linter.unusedSimpArgs false

def canonC (up : Bool) (c : UInt8) : UInt8 :=
  if up = true ∧ 97 ≤ c.toNat ∧ c.toNat ≤ 122 then c - 32 else if up = false ∧ 65 ≤ c.toNat ∧ c.toNat ≤ 90 then c + 32 else c
def canonGo : Bool → List UInt8 → List UInt8
  | _, [] => []
  | up, c :: r => canonC up c :: canonGo (c == 45) r
def canonL (l : List UInt8) : List UInt8 := canonGo true l
theorem canonGo_len : ∀ (up : Bool) (l : List UInt8), (canonGo up l).length = l.length
  | _, [] => rfl
  | up, c :: r => by simp [canonGo, canonGo_len]
/-- Is the byte at a place the first of a word? -/
def upAt : Bool → List UInt8 → Nat → Bool
  | up, _, 0 => up
  | up, [], _ + 1 => up
  | _, c :: r, k + 1 => upAt (c == 45) r k
theorem upAt_zero (up : Bool) (l : List UInt8) : upAt up l 0 = up := by cases l <;> rfl
theorem upAt_succ : ∀ (up : Bool) (l : List UInt8) (k : Nat) (c : UInt8), l[k]? = some c → upAt up l (k + 1) = (c == 45)
  | _, [], _, _, h => by simp at h
  | up, x :: r, 0, c, h => by simp at h; subst h; exact upAt_zero _ _
  | up, x :: r, k + 1, c, h => by
    have := upAt_succ (x == 45) r k c (by simpa using h)
    exact this
theorem canonGo_at : ∀ (up : Bool) (l : List UInt8) (k : Nat) (c : UInt8), l[k]? = some c → (canonGo up l)[k]? = some (canonC (upAt up l k) c)
  | _, [], _, _, h => by simp at h
  | up, x :: r, 0, c, h => by simp at h; subst h; rfl
  | up, x :: r, k + 1, c, h => by
    have := canonGo_at (x == 45) r k c (by simpa using h)
    simpa [canonGo, upAt] using this
/-- Half way: the first k bytes are turned. -/
def half (l : List UInt8) (k : Nat) : List UInt8 := (canonL l).take k ++ l.drop k
theorem canonL_len (l : List UInt8) : (canonL l).length = l.length := canonGo_len _ _
theorem half_len (l : List UInt8) (k : Nat) : (half l k).length = l.length := by simp [half, canonL_len]; omega
theorem half_zero (l : List UInt8) : half l 0 = l := by simp [half]
theorem half_end (l : List UInt8) (k : Nat) (h : l.length ≤ k) : half l k = canonL l := by
  unfold half
  rw [List.drop_eq_nil_of_le h, List.take_of_length_le (by rw [canonL_len]; exact h), List.append_nil]
theorem half_at (l : List UInt8) (k : Nat) (c : UInt8) (h : l[k]? = some c) : (half l k)[k]? = some c := by
  have hk := (List.getElem?_eq_some_iff.1 h).1
  unfold half
  rw [List.getElem?_append_right (by simp [canonL_len]; omega)]
  simp [canonL_len]
  rw [show k + (k - min k l.length) = k by omega]
  exact h
theorem half_succ (l : List UInt8) (k : Nat) (c : UInt8) (h : l[k]? = some c) : half l (k + 1) = (half l k).set k (canonC (upAt true l k) c) := by
  have hk := (List.getElem?_eq_some_iff.1 h).1
  have hc := canonGo_at true l k c h
  unfold half
  have hl : ((canonL l).take k).length = k := by simp [canonL_len]; omega
  rw [List.set_append_right _ _ (by omega), hl, Nat.sub_self, List.drop_eq_getElem_cons hk, List.set_cons_zero]
  have hk2 : k < (canonL l).length := by rw [canonL_len]; exact hk
  rw [List.take_succ_eq_append_getElem hk2]
  have : (canonL l)[k] = canonC (upAt true l k) c := by
    have h1 : (canonL l)[k]? = some (canonL l)[k] := List.getElem?_eq_getElem hk2
    unfold canonL at hc h1 ⊢
    rw [hc] at h1
    exact (Option.some.inj h1).symm
  rw [this]
  simp
theorem half_same (l : List UInt8) (k : Nat) (c : UInt8) (h : l[k]? = some c) (hc : canonC (upAt true l k) c = c) : half l (k + 1) = half l k := by
  rw [half_succ l k c h, hc]
  have hk : k < (half l k).length := by rw [half_len]; exact (List.getElem?_eq_some_iff.1 h).1
  have := half_at l k c h
  rw [List.getElem?_eq_getElem hk] at this
  have e := Option.some.inj this
  rw [← e]
  exact List.set_getElem_self hk

/-- A row of bytes of the call's own that may be written. -/
def BRow (w : World) (g : Nat) (l : List UInt8) : Prop := ∃ (cur : Array Value) (fz : Nat × Nat), w.heap[g]? = some (.cells cur 5 fz) ∧ l.length ≤ fz.1 ∧ ∀ (j : Nat) (u : Value), (Lib.byteCells l)[j]? = some u → cur[j]? = some u
section
variable {w w' : World} {g : Nat} {l : List UInt8}
theorem BRow.lt (h : BRow w g l) : g < w.heap.size := by
  obtain ⟨cur, fz, hg, _⟩ := h
  exact (Array.getElem?_eq_some_iff.1 hg).1
theorem BRow.cell (h : BRow w g l) {k : Nat} {c : UInt8} (hk : l[k]? = some c) : w.cell? ⟨g, k, none⟩ = some (.int .u8 (c.toNat : Int)) := by
  obtain ⟨cur, fz, hg, _, hc⟩ := h
  rw [Lib.cell_of_heap hg]
  exact hc k _ (bc_get hk)
theorem BRow.free (h : BRow w g l) {k : Nat} (hk : k < l.length) : w.frozen? ⟨g, k, none⟩ = false := by
  obtain ⟨cur, ⟨lo, hi⟩, hg, hf, _⟩ := h
  have hf' : l.length ≤ lo := hf
  simp [World.frozen?, hg]
  omega
theorem BRow.set (h : BRow w g l) {k : Nat} (hk : k < l.length) (c : UInt8) {v : Value} (hv : v = .int .u8 (c.toNat : Int)) : BRow (w.setCell ⟨g, k, none⟩ v) g (l.set k c) := by
  obtain ⟨cur, fz, hg, hf, hc⟩ := h
  refine ⟨cur.setIfInBounds k v, fz, ?_, by rw [List.length_set]; exact hf, fun j u hu => ?_⟩
  · simp [World.setCell, Array.getElem?_modify, hg]
  · have hkc : k < cur.size := by
      have := hc k _ (bc_get (List.getElem?_eq_getElem hk))
      exact (Array.getElem?_eq_some_iff.1 this).1
    rw [Array.getElem?_setIfInBounds]
    split
    · rename_i e
      subst e
      simp only [Lib.byteCells, List.getElem?_map, List.getElem?_set, hk] at hu
      simp [hk] at hu
      rw [← hu, hv]
    · rename_i e
      refine hc j u ?_
      rw [← hu]
      simp only [Lib.byteCells, List.getElem?_map, List.getElem?_set]
      rw [if_neg e]
theorem BRow.rd (h : BRow w g l) : RdB w w.heap.size (some ⟨g, 0, none⟩) l.length l := by
  refine ⟨by rw [bc_len]; simp, fun hn => ⟨g, 0, rfl, h.lt, fun j u hu => ?_⟩⟩
  obtain ⟨cur, fz, hg, _, hc⟩ := h
  rw [Nat.zero_add, Lib.cell_of_heap hg]
  exact hc j u hu
theorem BRow.new (w : World) (s : ByteArray) (cap : Nat) : BRow (w.drew.alloc (.cells (bytesRow s cap) 5 ((bytesRow s cap).size, (bytesRow s cap).size + 1))) w.heap.size s.data.toList := by
  refine ⟨_, _, heap_alloc_new w.drew _, ?_, fun j u hu => ?_⟩
  · simp [bytesRow]
  · have hj : j < s.data.toList.length := by
      have := (List.getElem?_eq_some_iff.1 hu).1
      rwa [bc_len] at this
    simp only [Lib.byteCells, List.getElem?_map] at hu
    simp only [bytesRow]
    have hj' : j < s.data.size := by simpa using hj
    rw [Array.getElem?_append_left (by simpa using hj')]
    rw [← hu]
    simp
end
theorem sub32 {c : UInt8} (h : 97 ≤ c.toNat) : (((c - 32 : UInt8).toNat : Nat) : Int) = (c.toNat : Int) - 32 := by
  have h1 := c.toNat_lt
  rw [UInt8.toNat_sub]
  simp
  omega
theorem add32 {c : UInt8} (h : c.toNat ≤ 90) : (((c + 32 : UInt8).toNat : Nat) : Int) = (c.toNat : Int) + 32 := by
  rw [UInt8.toNat_add]
  simp
  omega

set_option maxHeartbeats 4000000 in
theorem canon_any (s : ByteArray) (w : World) (hs : s.size ≤ 2147483647) :
    Calls Tryd.prog 60 #[.string s] w fun e w' => e = .returned (.string ⟨(canonL s.data.toList).toArray⟩) ∧ Below w.heap.size w w' := by
  have hcv : (convert 9 31 (.string s)).run Tryd.prog w = _ := run_bytes_of_string w 9 31 5 s Tryd.underlying9 Tryd.underlying31 Tryd.underlying5
  obtain ⟨cap, hcap⟩ : ∃ x, grownCap w s.size 0 5 = x := ⟨_, rfl⟩
  have HC : Hid (s.size ≤ cap) := by show _ ≤ _; rw [← hcap]; exact grownCap_ge _ _ _ _
  rw [hcap] at hcv
  have HR := Lib.hid (BRow.new w s cap)
  have HB := Lib.hid (show Below w.heap.size w (w.drew.alloc (.cells (bytesRow s cap) 5 ((bytesRow s cap).size, (bytesRow s cap).size + 1))) from ((Below.refl _ w).drew).alloc (Nat.le_refl _) _)
  obtain ⟨w1, hw1⟩ : ∃ x, w.drew.alloc (.cells (bytesRow s cap) 5 ((bytesRow s cap).size, (bytesRow s cap).size + 1)) = x := ⟨_, rfl⟩
  rw [hw1] at hcv HR HB
  have HL : Hid (s.data.toList.length = s.size) := by show _ = _; simp
  clear hcap hw1
  go_enter Tryd.func60, Tryd.ntmps60
  go_wp2
  go_loopw [4, 11] (fun u i wr => ∃ k : Nat, k ≤ s.size ∧ i = .int .i64 k ∧ u = .bool (upAt true s.data.toList k) ∧ Hid (BRow wr w.heap.size (half s.data.toList k)) ∧ Hid (Below w.heap.size w wr)) (fun _ i _ => s.size - (intOf i).toNat)
  case atStart => exact ⟨0, Nat.zero_le _, rfl, by rw [upAt_zero], Lib.hid (by rw [half_zero]; exact HR.out), HB⟩
  case round =>
    obtain ⟨k, hk, rfl, rfl, HR2, HB2⟩ := hrel
    by_cases hlt : k < s.size
    · obtain ⟨x, hx⟩ : ∃ x, s.data.toList[k]? = some x := ⟨_, List.getElem?_eq_getElem (by rw [HL.out]; exact hlt)⟩
      have c1 := HR2.out.cell (half_at _ _ _ hx)
      have f1 := HR2.out.free (k := k) (by rw [half_len, HL.out]; exact hlt)
      have hxb := u8_lt x
      have HU : Hid (upAt true s.data.toList (k + 1) = decide ((x.toNat : Int) = 45)) := by
        show _ = _
        rw [upAt_succ true _ k x hx]
        by_cases e : x = 45
        · subst e; rfl
        · have e' : ¬ (x.toNat : Int) = 45 := fun h => e (u8_eq (n := 45) (by decide) h)
          rw [beq_eq_false_iff_ne.2 e, decide_eq_false e']
      have HU2 : Hid (upAt true s.data.toList (k + 1) = ((x.toNat : Int) == 45)) := by
        show _ = _
        rw [HU.out]
        by_cases e : (x.toNat : Int) = 45 <;> simp [e]
      obtain ⟨u, hu⟩ : ∃ u, upAt true s.data.toList k = u := ⟨_, rfl⟩
      have HN : Hid (half s.data.toList (k + 1) = (half s.data.toList k).set k (canonC u x)) := by
        show _ = _
        rw [half_succ _ _ _ hx, hu]
      have HNS : Hid (canonC u x = x → half s.data.toList (k + 1) = half s.data.toList k) := fun h => half_same _ _ _ hx (by rw [hu]; exact h)
      rw [hu]
      clear hu hx
      have hkl : k < (half s.data.toList k).length := by rw [half_len, HL.out]; exact hlt
      cases u with
      | true =>
        by_cases hc : 97 ≤ x.toNat ∧ x.toNat ≤ 122
        · have HX := Lib.hid (HR2.out.set hkl (x - 32) (v := .int .u8 ((x.toNat : Int) - 32)) (by rw [sub32 hc.1]))
          have HE : Hid (canonC true x = x - 32) := by show _ = _; simp [canonC, hc.1, hc.2]
          rw [← HE.out, ← HN.out] at HX
          have HY := Lib.hid (HB2.out.setCell (p := ⟨w.heap.size, k, none⟩) (Nat.le_refl _) (.int .u8 ((x.toNat : Int) - 32)))
          have h1 : (97 : Int) ≤ (x.toNat : Int) := by omega
          have h2 : (x.toNat : Int) ≤ 122 := by omega
          clear hc hkl HE HNS HN
          go_wp2
          go_roundw
          case rel => exact ⟨k + 1, by omega, by go_num, by rw [HU2.out], HX, HY⟩
          case measure => simp [intOf]; omega
        · have HE : Hid (half s.data.toList (k + 1) = half s.data.toList k) := HNS.out (by simp [canonC, hc])
          have HX : Hid (BRow wr w.heap.size (half s.data.toList (k + 1))) := by show BRow _ _ _; rw [HE.out]; exact HR2.out
          have h1 : ¬ (97 : Int) ≤ (x.toNat : Int) ∨ ((97 : Int) ≤ (x.toNat : Int) ∧ ¬ (x.toNat : Int) ≤ 122) := by omega
          clear hc hkl HE HNS HN
          rcases h1 with h1 | ⟨h1, h2⟩
          all_goals
            go_wp2
            go_roundw
            case rel => exact ⟨k + 1, by omega, by go_num, by rw [HU2.out], HX, HB2⟩
            case measure => simp [intOf]; omega
      | false =>
        by_cases hc : 65 ≤ x.toNat ∧ x.toNat ≤ 90
        · have HX := Lib.hid (HR2.out.set hkl (x + 32) (v := .int .u8 ((x.toNat : Int) + 32)) (by rw [add32 hc.2]))
          have HE : Hid (canonC false x = x + 32) := by show _ = _; simp [canonC, hc.1, hc.2]
          rw [← HE.out, ← HN.out] at HX
          have HY := Lib.hid (HB2.out.setCell (p := ⟨w.heap.size, k, none⟩) (Nat.le_refl _) (.int .u8 ((x.toNat : Int) + 32)))
          have h1 : (65 : Int) ≤ (x.toNat : Int) := by omega
          have h2 : (x.toNat : Int) ≤ 90 := by omega
          clear hc hkl HE HNS HN
          go_wp2
          go_roundw
          case rel => exact ⟨k + 1, by omega, by go_num, by rw [HU2.out], HX, HY⟩
          case measure => simp [intOf]; omega
        · have HE : Hid (half s.data.toList (k + 1) = half s.data.toList k) := HNS.out (by simp [canonC, hc])
          have HX : Hid (BRow wr w.heap.size (half s.data.toList (k + 1))) := by show BRow _ _ _; rw [HE.out]; exact HR2.out
          have h1 : ¬ (65 : Int) ≤ (x.toNat : Int) ∨ ((65 : Int) ≤ (x.toNat : Int) ∧ ¬ (x.toNat : Int) ≤ 90) := by omega
          clear hc hkl HE HNS HN
          rcases h1 with h1 | ⟨h1, h2⟩
          all_goals
            go_wp2
            go_roundw
            case rel => exact ⟨k + 1, by omega, by go_num, by rw [HU2.out], HX, HB2⟩
            case measure => simp [intOf]; omega
    · have hr := HR2.out
      rw [half_end _ k (by rw [HL.out]; omega)] at hr
      have hc2 := RdB.conv hr.rd (src := 31) (dst := 9) (e := 5) Tryd.underlying31 Tryd.underlying5 Tryd.underlying9 cap
      rw [canonL_len, HL.out] at hc2
      clear hr
      go_wp2
      go_ret
      exact ⟨rfl, HB2.out⟩

end Go.Proofs.YtklkgddldndmmaaDoor

/- The walks of the functions that bound lengths. -/
namespace Go.Proofs.YtklkgddldndmmaaDoor
open Go.RowKit
set_option linter.unusedVariables false
set_option linter.unusedSimpArgs false

/-- The call gives a bool; if it is true, P holds. -/
def SayB (P : Prop) (e : Ending) : Prop := ∃ x, e = .returned (.bool x) ∧ (x = true → P)
theorem SayB.no {P : Prop} : SayB P (.returned (.bool false)) := ⟨false, rfl, fun h => by cases h⟩
theorem SayB.yes {P : Prop} (h : P) : SayB P (.returned (.bool true)) := ⟨true, rfl, fun _ => h⟩
theorem SayB.mono {P Q : Prop} {e : Ending} (h : SayB P e) (hq : P → Q) : SayB Q e := by
  obtain ⟨x, he, hx⟩ := h
  exact ⟨x, he, fun e => hq (hx e)⟩

def Few {α : Type} (l : List α) : Prop := l.length ≤ 2147483647
def FitV (vs : List ByteArray) : Prop := Few vs ∧ ∀ v ∈ vs, v.size ≤ 2147483647
def FitH (h : ByteArray × List ByteArray) : Prop := h.1.size ≤ 2147483647 ∧ FitV h.2
def FitHs (hs : HdrL) : Prop := Few hs ∧ ∀ h ∈ hs, FitH h

/-- What holds of all that were seen holds of each. -/
theorem all_of_idx {α : Type} {l : List α} {P : α → Prop} {n : Nat} (hn : l.length ≤ n) (h : ∀ (i : Nat) x, i < n → l[i]? = some x → P x) : ∀ x ∈ l, P x := fun x hx => by
  obtain ⟨i, hi⟩ := List.getElem?_of_mem hx
  exact h i x (by have := (List.getElem?_eq_some_iff.1 hi).1; omega) hi
theorem idx_succ {α : Type} {l : List α} {P : α → Prop} {k : Nat} {x : α} (h : ∀ (i : Nat) y, i < k → l[i]? = some y → P y) (hx : l[k]? = some x) (hp : P x) : ∀ (i : Nat) y, i < k + 1 → l[i]? = some y → P y := fun i y hi hy => by
  by_cases hk : i < k
  · exact h i y hk hy
  · obtain rfl : i = k := by omega
    rw [hx] at hy
    obtain rfl := Option.some.inj hy
    exact hp

set_option maxHeartbeats 1000000 in
theorem fits2_any (A : Option Addr) (n c B : Nat) (ss : List ByteArray) (w : World) (hn : n ≤ 9223372036854775807) (hr : Rd w B 1 A n (ss.map Value.string)) :
    Calls Tryd.prog 12 #[.slice A n c] w fun e w' => SayB (FitV ss) e ∧ w = w' := by
  have hl : ss.length = n := by have := hr.1; simpa using this
  by_cases h1 : n ≤ 2147483647
  · have HR := Lib.hid hr
    have HL := Lib.hid hl
    clear hr hl
    go_enter Tryd.func12, Tryd.ntmps12
    go_wp2
    go_loop [10] (fun i => ∃ k : Nat, k ≤ n ∧ i = .int .i64 k ∧ Hid (∀ (i : Nat) s, i < k → ss[i]? = some s → s.size ≤ 2147483647)) (fun i => n - (intOf i).toNat)
    case atStart => exact ⟨0, Nat.zero_le _, rfl, Lib.hid fun i s h => absurd h (by omega)⟩
    case round =>
      obtain ⟨k, hk, rfl, HP⟩ := hrel
      by_cases hlt : k < n
      · obtain ⟨b, o, rfl, hb, hc⟩ := HR.out.2 (by omega)
        obtain ⟨s, hs⟩ : ∃ s, ss[k]? = some s := ⟨_, List.getElem?_eq_getElem (by rw [HL.out]; exact hlt)⟩
        have ck : w.cell? ⟨b, o + k, none⟩ = some (.string s) := hc k _ (by rw [List.getElem?_map, hs]; rfl)
        clear hc
        by_cases h2 : s.size ≤ 2147483647
        · have HN := Lib.hid (idx_succ HP.out hs h2)
          clear hs
          go_wp2
          go_round
          case rel => exact ⟨k + 1, by omega, by go_num, HN⟩
          case measure => simp [intOf]; omega
        · clear hs
          go_wp2
          go_ret
          exact ⟨SayB.no, rfl⟩
      · have HN := Lib.hid (show FitV ss from ⟨by show _ ≤ _; rw [HL.out]; exact h1, all_of_idx (n := k) (by rw [HL.out]; omega) HP.out⟩)
        go_wp2
        go_ret
        exact ⟨SayB.yes HN.out, rfl⟩
  · clear hr hl
    go_enter Tryd.func12, Tryd.ntmps12
    go_wp2
    go_ret
    exact ⟨SayB.no, rfl⟩

set_option maxHeartbeats 1000000 in
theorem fits6_any (h : ByteArray × List ByteArray) (Av : Option Addr) (nv cv B : Nat) (w : World) (hn : nv ≤ 9223372036854775807) (hB : B ≤ w.heap.size) (hr : Rd w B 1 Av nv (h.2.map Value.string)) :
    Calls Tryd.prog 42 #[.agg #[.string h.1, .slice Av nv cv]] w fun e w' => SayB (FitH h) e ∧ Below w.heap.size w w' := by
  have hal := (Below.refl w.heap.size w).alloc (Nat.le_refl _) (.cells #[.string h.1, .slice Av nv cv] 81)
  have HC := Lib.hid (fits2_any Av nv cv B h.2 _ hn (hr.below (hal.mono hB)))
  have HB := Lib.hid hal
  clear hr hal
  by_cases h1 : h.1.size ≤ 2147483647
  · go_enter Tryd.func42, Tryd.ntmps42
    go_wp2_with fail
    refine HC.out.mono ?_
    rintro e w1 ⟨⟨x, rfl, hx⟩, rfl⟩
    have HX := Lib.hid hx
    clear hx
    cases x
    · go_wp2
      go_ret
      exact ⟨SayB.no, HB.out⟩
    · have HY := Lib.hid (HX.out rfl)
      clear HX
      go_wp2
      go_ret
      exact ⟨SayB.yes ⟨h1, HY.out⟩, HB.out⟩
  · go_enter Tryd.func42, Tryd.ntmps42
    go_wp2
    go_ret
    exact ⟨SayB.no, HB.out⟩

set_option maxHeartbeats 2000000 in
theorem fits5_any (A : Option Addr) (n c : Nat) (hs : HdrL) (w : World) (hn : n ≤ 9223372036854775807) (hbig : ∀ h ∈ hs, h.2.length ≤ 9223372036854775807) (hr : RdH w w.heap.size A n hs) :
    Calls Tryd.prog 20 #[.slice A n c] w fun e w' => SayB (FitHs hs) e ∧ Below w.heap.size w w' := by
  by_cases h1 : n ≤ 2147483647
  · have HR := Lib.hid hr
    have HG := Lib.hid hbig
    clear hr hbig
    go_enter Tryd.func20, Tryd.ntmps20
    go_wp2_with fail
    go_loopw [10] (fun i wr => ∃ k : Nat, k ≤ n ∧ i = .int .i64 k ∧ Hid (∀ (i : Nat) h, i < k → hs[i]? = some h → FitH h) ∧ Hid (Below w.heap.size w wr)) (fun i _ => n - (intOf i).toNat)
    case atStart => exact ⟨0, Nat.zero_le _, rfl, Lib.hid fun i s h => absurd h (by omega), Lib.hid (Below.refl _ _)⟩
    case round =>
      obtain ⟨k, hk, rfl, HP, HB⟩ := hrel
      by_cases hlt : k < n
      · obtain ⟨b, o, rfl, hb, hc⟩ := HR.out.2 (by omega)
        obtain ⟨x, hx⟩ : ∃ x, hs[k]? = some x := ⟨_, List.getElem?_eq_getElem (by rw [HR.out.1]; exact hlt)⟩
        obtain ⟨c1, Av, nv, cv, c2, hv⟩ := hc k x hx
        have d1 := (HB.out.cell (p := ⟨b, o + k * 2, none⟩) hb).trans c1
        have d2 := (HB.out.cell (p := ⟨b, o + k * 2 + 1, none⟩) hb).trans c2
        have hnv : nv ≤ 9223372036854775807 := by have h1 := hv.1; have h2 := HG.out x (List.mem_of_getElem? hx); simp at h1; omega
        have hal := (Below.refl wr.heap.size wr).alloc (Nat.le_refl _) (.cells #[.string x.1, .slice Av nv cv] 81)
        have HBa := Lib.hid (HB.out.trans (hal.mono HB.out.size))
        have HC := Lib.hid (fits6_any x Av nv cv w.heap.size _ hnv HBa.out.size (hv.below HBa.out))
        clear hc c1 c2 hal hv
        go_wp2_with fail
        refine (HC.out).mono ?_
        rintro e w1 ⟨⟨y, rfl, hy⟩, hb1⟩
        have HB1 := Lib.hid (HBa.out.trans (hb1.mono HBa.out.size))
        have HY := Lib.hid hy
        clear hy hb1
        cases y
        · go_wp2
          go_ret
          exact ⟨SayB.no, HB1.out⟩
        · have HN := Lib.hid (idx_succ HP.out hx (HY.out rfl))
          clear hx
          go_wp2_with fail
          go_roundw
          case rel => exact ⟨k + 1, by omega, by go_num, HN, HB1⟩
          case measure => simp [intOf]; omega
      · have HN := Lib.hid (show FitHs hs from ⟨by show _ ≤ _; rw [HR.out.1]; exact h1, all_of_idx (n := k) (by rw [HR.out.1]; omega) HP.out⟩)
        go_wp2
        go_ret
        exact ⟨SayB.yes HN.out, HB.out⟩
  · clear hr hbig
    go_enter Tryd.func20, Tryd.ntmps20
    go_wp2
    go_ret
    exact ⟨SayB.no, Below.refl _ _⟩

end Go.Proofs.YtklkgddldndmmaaDoor
