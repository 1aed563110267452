/- The walks of zzIndexAny and zzContainsAny, over texts of ASCII. -/
import Derived.Test.YtklkgddldndmmaaSmall
import Derived.LoopTactic
import Derived.Laws.RangeAny
import Derived.Lib.OthersKept
namespace Go.Proofs.Ytklkgddldndmmaa
open Go.RowKit
set_option linter.unusedVariables false
set_option linter.unusedSimpArgs false

/-- Does a byte of the text stand in the list? -/
def anyB (l cs : List UInt8) : Bool := l.any (inB cs)
theorem anyB_snoc (l cs : List UInt8) (c : UInt8) : anyB (l ++ [c]) cs = (anyB l cs || inB cs c) := by simp [anyB]
theorem anyB_head (l cs : List UInt8) (k : Nat) (h : anyB (l.take k) cs = true) : anyB l cs = true := by
  rw [← List.take_append_drop k l]
  unfold anyB at h ⊢
  rw [List.any_append, h, Bool.true_or]

theorem iter_at {w : World} {s : ByteArray} {p B : Nat} {t : ByteArray} {q : Nat} (h : w.heap[B]? = some (.stringIter t q)) : (w.iter s p).heap[B]? = some (.stringIter t q) := by
  have hlt : B < w.heap.size := (Array.getElem?_eq_some_iff.1 h).1
  show (w.heap.push _)[B]? = _
  rw [Array.getElem?_push_lt hlt, ← h, Array.getElem?_eq_getElem hlt]
theorem iterPos_of {w : World} {B : Nat} {s : ByteArray} {p : Nat} (h : w.heap[B]? = some (.stringIter s p)) : w.iterPos B = p := by simp [World.iterPos, h]

set_option maxHeartbeats 4000000 in
theorem index_any_s (s cs : ByteArray) (w : World) (hs : s.size ≤ 2147483647) (ha : ∀ p (h : p < s.size), s[p].toNat < 128) (hc : ∀ p (h : p < cs.size), cs[p].toNat < 128) :
    Calls Try.prog 14 #[.string s, .string cs] w fun e w' => (∃ k : Int, e = .returned (.int .i64 k) ∧ (decide (0 ≤ k) = anyB s.data.toList cs.data.toList)) ∧ Below w.heap.size w w' := by
  go_enter Try.func14, Try.ntmps14
  go_wp2
  go_loopw [4] (fun e w' => e = .int .i64 0 ∧ ∃ pos : Nat, pos ≤ s.size ∧ w'.heap[w.heap.size]? = some (.stringIter s pos) ∧ Below w.heap.size w w' ∧ Hid (anyB (s.data.toList.take pos) cs.data.toList = false)) (fun _ w' => s.size - w'.iterPos w.heap.size)
  case atStart => exact ⟨rfl, 0, Nat.zero_le _, World.iter_heap _ _ _, (Below.refl w.heap.size w).alloc (Nat.le_refl _) _, rfl⟩
  case round =>
    obtain ⟨rfl, pos, hle, hit, hbel, HF⟩ := hrel
    by_cases hp : pos < s.size
    · have hnx := fun ty => Lib.run_next_ascii_at (P := Try.prog) wr w.heap.size s pos ty hit hp (ha pos hp)
      have hit2 := Lib.iterAt_heap wr w.heap.size s pos (pos + 1) hit
      have hbel2 : Below w.heap.size w (wr.iterAt w.heap.size s (pos + 1)) := Lib.below_iterAt hbel (Nat.le_refl _) _ _
      obtain ⟨w2, hw2⟩ : ∃ w2, w2 = wr.iterAt w.heap.size s (pos + 1) := ⟨_, rfl⟩
      rw [← hw2] at hnx hit2 hbel2
      obtain ⟨x, hx⟩ : ∃ x : UInt8, s[pos] = x := ⟨_, rfl⟩
      rw [hx] at hnx
      have HS : Hid (anyB (s.data.toList.take (pos + 1)) cs.data.toList = inB cs.data.toList x) := by
        show _ = _
        rw [take_snoc s pos hp, anyB_snoc, HF.out, Bool.false_or, hx]
      have HW := Lib.hid hw2
      have HI := Lib.hid hit
      clear hw2 hx hit hbel HF
      go_wp2
      go_loopw [4] (fun e w' => e = .int .i64 0 ∧ ∃ q : Nat, q ≤ cs.size ∧ w' = w2.iter cs q ∧ Hid (inB (cs.data.toList.take q) x = false)) (fun _ w' => cs.size - w'.iterPos w2.heap.size)
      case atStart => exact ⟨rfl, 0, Nat.zero_le _, rfl, rfl⟩
      case round =>
        obtain ⟨rfl, q, hq, rfl, HQ⟩ := hrel
        by_cases hq2 : q < cs.size
        · have hnx2 := fun ty => run_next_ascii (P := Try.prog) w2 cs q ty hq2 (hc q hq2)
          have hbel3 : Below w.heap.size w (w2.iter cs (q + 1)) := hbel2.alloc hbel2.size _
          by_cases he : x = cs[q]
          · have he2 : ((x.toNat : Int) == (cs[q].toNat : Int)) = true := by rw [he]; simp
            have HT : Hid (anyB s.data.toList cs.data.toList = true) := by
              show _ = _
              refine anyB_head _ _ (pos + 1) ?_
              rw [HS.out]
              unfold inB
              rw [he, List.contains_iff_mem, Array.mem_toList_iff]
              exact Array.getElem_mem _
            clear he
            go_wp2
            go_ret
            exact ⟨⟨_, rfl, by rw [HT.out]; simp⟩, hbel3⟩
          · have he2 : ((x.toNat : Int) == (cs[q].toNat : Int)) = false := by
              rw [beq_eq_false_iff_ne]; intro h; exact he (UInt8.toNat_inj.1 (by omega))
            have HN : Hid (inB (cs.data.toList.take (q + 1)) x = false) := by
              show _ = _
              rw [take_snoc cs q hq2, inB_snoc _ _ _ HQ.out]
              simp
              exact fun h => he h.symm
            clear he
            go_wp2
            go_roundw
            case rel => exact ⟨rfl, q + 1, by omega, rfl, HN⟩
            case measure =>
              rw [World.iterPos_iter, World.iterPos_iter]
              omega
        · have hnx2 := fun ty => run_next_end (P := Try.prog) w2 cs q ty hq2
          have HN : Hid (anyB (s.data.toList.take (pos + 1)) cs.data.toList = false) := by
            show _ = _
            rw [HS.out]
            have := HQ.out
            rwa [List.take_of_length_le (by simp; omega)] at this
          have hbel3 : Below w.heap.size w (w2.iter cs q) := hbel2.alloc hbel2.size _
          have hit3 : (w2.iter cs q).heap[w.heap.size]? = some (.stringIter s (pos + 1)) := iter_at hit2
          go_wp2
          go_roundw
          case rel => exact ⟨rfl, pos + 1, by omega, hit3, hbel3, HN⟩
          case measure =>
            rw [iterPos_of hit3, iterPos_of HI.out]
            omega
    · have hnx := fun ty => Lib.run_next_end_at (P := Try.prog) wr w.heap.size s pos ty hit hp
      have HT : Hid (anyB s.data.toList cs.data.toList = false) := by
        have := HF.out
        rw [List.take_of_length_le (by simp; omega)] at this
        exact this
      go_wp2
      go_ret
      exact ⟨⟨_, rfl, by rw [HT.out]; simp⟩, hbel⟩

theorem contains_any (s cs : ByteArray) (w : World) (hs : s.size ≤ 2147483647) (ha : ∀ p (h : p < s.size), s[p].toNat < 128) (hc : ∀ p (h : p < cs.size), cs[p].toNat < 128) :
    Calls Try.prog 13 #[.string s, .string cs] w fun e w' => e = .returned (.bool (anyB s.data.toList cs.data.toList)) ∧ Below w.heap.size w w' := by
  go_enter Try.func13, Try.ntmps13
  go_wp2_with fail
  refine (index_any_s s cs w hs ha hc).mono ?_
  rintro e w1 ⟨⟨k, rfl, hk⟩, hb⟩
  go_wp2
  go_ret
  exact ⟨rfl, hb⟩

end Go.Proofs.Ytklkgddldndmmaa
