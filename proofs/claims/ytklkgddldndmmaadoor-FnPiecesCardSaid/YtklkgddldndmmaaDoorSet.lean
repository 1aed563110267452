/- The walks of errors.New and of SetBoundary. -/
import Derived.Test.YtklkgddldndmmaaDoorSmall
import Derived.LoopTactic
import Derived.Laws.RangeAny
import Derived.Lib.OthersKept
namespace Go.Proofs.YtklkgddldndmmaaDoor
open Go.RowKit
set_option linter.unusedVariables false
set_option linter.unusedSimpArgs false

theorem new_any (s : ByteArray) (w : World) :
    Calls Tryd.prog 53 #[.string s] w fun e w' => (∃ p, e = .returned (.iface 116 (.pointer (some p)))) ∧ Below w.heap.size w w' := by
  go_enter Tryd.func53, Tryd.ntmps53
  go_wp2
  go_ret
  exact ⟨⟨_, rfl⟩, (Below.refl _ _).alloc (Nat.le_refl _) _⟩

/-- The struct of a Writer. -/
def Wr (w : World) (b : Nat) (v0 : Value) (old : ByteArray) (lp : Option Addr) : Prop := w.heap[b]? = some (.cells #[v0, .string old, .pointer lp] 95 (0, 0))

section
variable {w : World} {b : Nat} {v0 : Value} {old : ByteArray} {lp : Option Addr} (h : Wr w b v0 old lp)
include h
theorem Wr.c0 : w.cell? ⟨b, 0, none⟩ = some v0 := by unfold Wr at h; simp [World.cell?, h]
theorem Wr.c1 : w.cell? ⟨b, 1, none⟩ = some (.string old) := by unfold Wr at h; simp [World.cell?, h]
theorem Wr.c2 : w.cell? ⟨b, 2, none⟩ = some (.pointer lp) := by unfold Wr at h; simp [World.cell?, h]
theorem Wr.f1 : w.frozen? ⟨b, 1, none⟩ = false := by unfold Wr at h; simp [World.frozen?, h]
theorem Wr.f2 : w.frozen? ⟨b, 2, none⟩ = false := by unfold Wr at h; simp [World.frozen?, h]
theorem Wr.lt : b < w.heap.size := (Array.getElem?_eq_some_iff.1 h).1
theorem Wr.below {w' : World} {B : Nat} (hb : Below B w w') (hB : b < B) : Wr w' b v0 old lp := (hb.block b hB).trans h
theorem Wr.iter (s : ByteArray) (pos : Nat) : Wr (w.iter s pos) b v0 old lp := h.below ((Below.refl w.heap.size w).alloc (Nat.le_refl _) _) h.lt
end

theorem set_late (b : Nat) (v0 : Value) (old s : ByteArray) (q : Addr) (w : World) (hw : Wr w b v0 old (some q)) :
    Calls Tryd.prog 29 #[.pointer (some ⟨b, 0, none⟩), .string s] w fun e w' => (∃ p, e = .returned (.iface 116 (.pointer (some p)))) ∧ Below w.heap.size w w' := by
  have c2 := hw.c2
  go_enter Tryd.func29, Tryd.ntmps29
  go_wp2_with fail
  refine (new_any _ _).mono ?_
  rintro e w1 ⟨⟨p, rfl⟩, hb⟩
  go_wp2
  go_ret
  exact ⟨⟨_, rfl⟩, hb⟩

theorem set_length (b : Nat) (v0 : Value) (old s : ByteArray) (w : World) (hw : Wr w b v0 old none) (hs : s.size < 1 ∨ 70 < s.size) :
    Calls Tryd.prog 29 #[.pointer (some ⟨b, 0, none⟩), .string s] w fun e w' => (∃ p, e = .returned (.iface 116 (.pointer (some p)))) ∧ Below w.heap.size w w' := by
  have c2 := hw.c2
  rcases hs with hs | hs
  · have h0 : s.size = 0 := by omega
    go_enter Tryd.func29, Tryd.ntmps29
    go_wp2_with fail
    refine (new_any _ _).mono ?_
    rintro e w1 ⟨⟨p, rfl⟩, hb⟩
    go_wp2
    go_ret
    exact ⟨⟨_, rfl⟩, hb⟩
  · have h1 : (70 : Int) < (s.size : Int) := by omega
    have h2 : ¬ (s.size : Int) < 1 := by omega
    go_enter Tryd.func29, Tryd.ntmps29
    go_wp2_with fail
    refine (new_any _ _).mono ?_
    rintro e w1 ⟨⟨p, rfl⟩, hb⟩
    go_wp2
    go_ret
    exact ⟨⟨_, rfl⟩, hb⟩

/-- The first bytes are fine, and the last is no space if they are all. -/
def Fine (s : ByteArray) (pos : Nat) : Prop := allOk (s.data.toList.take pos) = true ∧ (pos = s.size → s.data.toList[s.size - 1]? ≠ some 32)
theorem fine_all {s : ByteArray} {pos : Nat} (h0 : 0 < s.size) (h70 : s.size ≤ 70) (h : Fine s pos) (hp : ¬ pos < s.size) (hle : pos ≤ s.size) : boundB s.data.toList = true := by
  obtain ⟨h1, h2⟩ := h
  have hz : s.data.toList.length = s.size := by simp
  have : pos = s.size := by omega
  subst this
  rw [List.take_of_length_le (by omega)] at h1
  unfold boundB
  unfold allOk at h1
  rw [h1, hz]
  simp
  exact ⟨⟨h0, h70⟩, by rw [← Array.getElem?_toList]; exact h2 rfl⟩
theorem fine_next {s : ByteArray} {pos : Nat} (h : Fine s pos) (hp : pos < s.size) (ho : okB s[pos] = true) (hl : s[pos] = 32 → pos ≠ s.size - 1) : Fine s (pos + 1) := by
  refine ⟨by rw [take_snoc s pos hp, allOk_snoc, h.1, ho]; rfl, fun e => ?_⟩
  have hq : s.size - 1 = pos := by omega
  rw [hq, Array.getElem?_toList]
  intro e2
  have : s[pos] = 32 := by
    have h3 : s.data[pos]? = some s[pos] := Array.getElem?_eq_getElem _
    rw [h3] at e2
    exact Option.some.inj e2
  exact hl this hq.symm
theorem bad_next {s : ByteArray} {pos : Nat} (hp : pos < s.size) (ho : okB s[pos] = false) : boundB s.data.toList = false := by
  have h1 : allOk s.data.toList = false := allOk_head _ (pos + 1) (by rw [take_snoc s pos hp, allOk_snoc, ho, Bool.and_false])
  unfold boundB
  unfold allOk at h1
  rw [h1]
  rfl
theorem bad_last {s : ByteArray} {pos : Nat} (hp : pos < s.size) (ho : s[pos] = 32) (hl : pos = s.size - 1) : boundB s.data.toList = false := by
  have hz : s.data.toList.length = s.size := by simp
  have h1 : s.data.toList[s.size - 1]? = some 32 := by
    rw [← hl, Array.getElem?_toList]
    have h3 : s.data[pos]? = some s[pos] := Array.getElem?_eq_getElem _
    rw [h3, ho]
  unfold boundB
  rw [hz, h1]
  simp

/-- What the loop asks of the rune at a place. -/
theorem rune_cases (s : ByteArray) (pos : Nat) (hp : pos < s.size) :
    ∃ x : Int, ((Utf8.decode s pos).1 : Int) = x ∧
      ((okB s[pos] = true ∧ (s[pos] = 32 → pos ≠ s.size - 1) ∧ (Utf8.decode s pos).2 = 1 ∧
        ((65 ≤ x ∧ x ≤ 90) ∨ (90 < x ∧ 97 ≤ x ∧ x ≤ 122) ∨ (48 ≤ x ∧ x ≤ 57) ∨ x = 39 ∨ x = 40 ∨ x = 41 ∨ x = 43 ∨ x = 95 ∨ x = 44 ∨ x = 45 ∨ x = 46 ∨ x = 47 ∨ x = 58 ∨ x = 61 ∨ x = 63 ∨ (x = 32 ∧ (pos : Int) ≠ (s.size : Int) - 1))) ∨
      (boundB s.data.toList = false ∧ ((x = 32 ∧ (pos : Int) = (s.size : Int) - 1) ∨
        ((x < 48 ∨ (57 < x ∧ x < 65) ∨ (90 < x ∧ x < 97) ∨ 122 < x) ∧ x ≠ 39 ∧ x ≠ 40 ∧ x ≠ 41 ∧ x ≠ 43 ∧ x ≠ 95 ∧ x ≠ 44 ∧ x ≠ 45 ∧ x ≠ 46 ∧ x ≠ 47 ∧ x ≠ 58 ∧ x ≠ 61 ∧ x ≠ 63 ∧ x ≠ 32)))) := by
  refine ⟨_, rfl, ?_⟩
  have hin : inB signs s[pos] = true ↔ s[pos].toNat = 39 ∨ s[pos].toNat = 40 ∨ s[pos].toNat = 41 ∨ s[pos].toNat = 43 ∨ s[pos].toNat = 95 ∨ s[pos].toNat = 44 ∨ s[pos].toNat = 45 ∨ s[pos].toNat = 46 ∨ s[pos].toNat = 47 ∨ s[pos].toNat = 58 ∨ s[pos].toNat = 61 ∨ s[pos].toNat = 63 ∨ s[pos].toNat = 32 := by
    unfold inB signs
    simp [← UInt8.toNat_inj]
  have hok : okB s[pos] = true ↔ letterB s[pos] = true ∨ inB signs s[pos] = true := by unfold okB; simp
  have h32 : s[pos] = 32 ↔ s[pos].toNat = 32 := by rw [← UInt8.toNat_inj]; rfl
  rw [letterB_iff, hin] at hok
  by_cases ha : s[pos].toNat < 128
  · rw [decode_ascii s pos hp ha]
    simp only
    by_cases ho : okB s[pos] = true
    · by_cases hl : s[pos] = 32 ∧ pos = s.size - 1
      · right
        refine ⟨bad_last hp hl.1 hl.2, .inl ⟨?_, ?_⟩⟩
        · have := h32.1 hl.1; omega
        · omega
      · left
        refine ⟨ho, fun h e => hl ⟨h, e⟩, trivial, ?_⟩
        rw [h32] at hl
        rw [hok] at ho
        omega
    · right
      refine ⟨bad_next hp (by simpa using ho), .inr ?_⟩
      rw [hok] at ho
      omega
  · have hd := (decode_high s pos hp (by omega)).1
    right
    have ho : ¬ okB s[pos] = true := by rw [hok]; omega
    refine ⟨bad_next hp (by simpa using ho), .inr ?_⟩
    omega


set_option maxRecDepth 100000 in
set_option maxHeartbeats 8000000 in
theorem set_loop (b : Nat) (v0 : Value) (old s : ByteArray) (w : World) (hw : Wr w b v0 old none) (h0 : 0 < s.size) (h70 : s.size ≤ 70) :
    Calls Tryd.prog 29 #[.pointer (some ⟨b, 0, none⟩), .string s] w fun e w' =>
      (boundB s.data.toList = true ∧ e = .returned .nilIface ∧ ∃ w1, Below w.heap.size w w1 ∧ w' = w1.setCell ⟨b, 1, none⟩ (.string s)) ∨
      (boundB s.data.toList = false ∧ (∃ p, e = .returned (.iface 116 (.pointer (some p)))) ∧ Below w.heap.size w w') := by
  have c2 := hw.c2
  have h2 : ¬ (s.size : Int) < 1 := by omega
  have h3 : ¬ (70 : Int) < (s.size : Int) := by omega
  go_enter Tryd.func29, Tryd.ntmps29
  go_wp2
  go_loopw [4] (fun e w' => e = .nilIface ∧ ∃ pos : Nat, pos ≤ s.size ∧ w' = w.iter s pos ∧ Hid (Fine s pos)) (fun _ w' => s.size - w'.iterPos w.heap.size)
  case atStart => exact ⟨rfl, 0, Nat.zero_le _, rfl, ⟨rfl, fun e => by omega⟩⟩
  case round =>
    obtain ⟨rfl, pos, hle, rfl, HF⟩ := hrel
    by_cases hp : pos < s.size
    · obtain ⟨x, hx, hc⟩ := rune_cases s pos hp
      have hnx := fun ty => run_next_any (P := Tryd.prog) w s pos ty hp
      rw [hx] at hnx
      rcases hc with ⟨ho, hl, hd, hc⟩ | ⟨hB, hc⟩
      · rw [hd] at hnx
        have HN : Hid (Fine s (pos + 1)) := fine_next HF.out hp ho hl
        clear HF ho hl hd hx c2
        rcases hc with ⟨ha, hb⟩ | ⟨ha, hb, hc⟩ | ⟨ha, hb⟩ | rfl | rfl | rfl | rfl | rfl | rfl | rfl | rfl | rfl | rfl | rfl | rfl | ⟨rfl, ha⟩
        all_goals
          go_wp2
          go_roundw
          case rel => exact ⟨rfl, pos + 1, by omega, rfl, HN⟩
          case measure =>
            rw [World.iterPos_iter, World.iterPos_iter]
            omega
      · have HB := Lib.hid hB
        have HB2 : Below w.heap.size w (w.iter s (pos + (Utf8.decode s pos).2)) := (Below.refl w.heap.size w).alloc (Nat.le_refl _) _
        have hsz := HB2.size
        clear HF hx c2 hB
        rcases hc with ⟨rfl, ha⟩ | ⟨ha | ⟨ha, hb⟩ | ⟨ha, hb⟩ | ha, n1, n2, n3, n4, n5, n6, n7, n8, n9, n10, n11, n12, n13⟩
        · go_wp2_with fail
          refine (new_any _ _).mono ?_
          rintro e w1 ⟨⟨p, rfl⟩, hb⟩
          go_wp2
          go_ret
          exact .inr ⟨HB.out, ⟨_, rfl⟩, HB2.trans (hb.mono hsz)⟩
        all_goals
          have m1 : ((x == 39) : Bool) = false := by simpa using n1
          have m2 : ((x == 40) : Bool) = false := by simpa using n2
          have m3 : ((x == 41) : Bool) = false := by simpa using n3
          have m4 : ((x == 43) : Bool) = false := by simpa using n4
          have m5 : ((x == 95) : Bool) = false := by simpa using n5
          have m6 : ((x == 44) : Bool) = false := by simpa using n6
          have m7 : ((x == 45) : Bool) = false := by simpa using n7
          have m8 : ((x == 46) : Bool) = false := by simpa using n8
          have m9 : ((x == 47) : Bool) = false := by simpa using n9
          have m10 : ((x == 58) : Bool) = false := by simpa using n10
          have m11 : ((x == 61) : Bool) = false := by simpa using n11
          have m12 : ((x == 63) : Bool) = false := by simpa using n12
          have m13 : ((x == 32) : Bool) = false := by simpa using n13
          clear n1 n2 n3 n4 n5 n6 n7 n8 n9 n10 n11 n12 n13
          go_wp2_with fail
          refine (new_any _ _).mono ?_
          rintro e w1 ⟨⟨p, rfl⟩, hb⟩
          go_wp2
          go_ret
          exact .inr ⟨HB.out, ⟨_, rfl⟩, HB2.trans (hb.mono hsz)⟩
    · have hB := fine_all h0 h70 HF.out hp hle
      have HB := Lib.hid hB
      have hnx := fun ty => run_next_end (P := Tryd.prog) w s pos ty hp
      have hb := hw.iter s pos
      have c1 := hb.c1
      have f1 := hb.f1
      clear HF c2 hB hb
      go_wp2
      go_ret
      exact .inl ⟨HB.out, rfl, _, (Below.refl w.heap.size w).alloc (Nat.le_refl _) _, rfl⟩

end Go.Proofs.YtklkgddldndmmaaDoor
