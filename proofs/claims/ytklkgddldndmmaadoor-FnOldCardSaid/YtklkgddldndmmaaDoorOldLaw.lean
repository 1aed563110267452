/- The walk of the law FnOld. -/
import Derived.Test.YtklkgddldndmmaaDoorWrite
import Derived.Test.YtklkgddldndmmaaDoorOld
import Derived.Test.YtklkgddldndmmaaDoorBoundary
namespace Go.Proofs.YtklkgddldndmmaaDoor
open Go.RowKit
set_option linter.unusedVariables false
set_option linter.unusedSimpArgs false

theorem oldT_eq (b l1 l3 : List UInt8) : oldT b l1 l3 = writeT b [([], l1), ([], l3)] := by
  simp [oldT, writeT, bodyT, bodyFrom, sepT, delimT, partT, headT, closeT, List.append_assoc]
theorem fit_nil (l : List UInt8) : Fit ([], l) := ⟨⟨fun i j x y _ hx => by simp at hx, fun h hh => by cases hh⟩, by simp, by simp [headT]⟩
theorem rdh_nil (w : World) (B c : Nat) (A : Option Addr) : RdH w B A 0 [] := ⟨rfl, fun h => absurd h (by omega)⟩
theorem rdp_two {w : World} {A1 A3 : Option Addr} {n1 c1 n3 c3 : Nat} {l1 l3 : List UInt8} (r1 : RdB w w.heap.size A1 n1 l1) (r3 : RdB w w.heap.size A3 n3 l3) :
    RdP (w.alloc (.cells #[.slice none 0 0, .slice A1 n1 c1, .slice none 0 0, .slice A3 n3 c3] 41)) (w.alloc (.cells #[.slice none 0 0, .slice A1 n1 c1, .slice none 0 0, .slice A3 n3 c3] 41)).heap.size (some ⟨w.heap.size, 0, none⟩) 2 [([], l1), ([], l3)] := by
  have hal := (Below.refl w.heap.size w).alloc (Nat.le_refl _) (.cells #[.slice none 0 0, .slice A1 n1 c1, .slice none 0 0, .slice A3 n3 c3] 41)
  have hb := heap_alloc_new w (.cells #[.slice none 0 0, .slice A1 n1 c1, .slice none 0 0, .slice A3 n3 c3] 41)
  refine ⟨rfl, fun _ => ⟨w.heap.size, 0, rfl, by simp, fun i p hp => ?_⟩⟩
  match i, hp with
  | 0, hp =>
    obtain rfl := Option.some.inj hp
    exact ⟨_, _, _, _, _, _, by rw [Lib.cell_of_heap hb]; rfl, by rw [Lib.cell_of_heap hb]; rfl, rdh_nil _ _ 0 _, (r1.below hal).more hal.size⟩
  | 1, hp =>
    obtain rfl := Option.some.inj hp
    exact ⟨_, _, _, _, _, _, by rw [Lib.cell_of_heap hb]; rfl, by rw [Lib.cell_of_heap hb]; rfl, rdh_nil _ _ 0 _, (r3.below hal).more hal.size⟩
  | i + 2, hp => simp at hp

set_option maxRecDepth 100000 in
set_option maxHeartbeats 4000000 in
theorem xold (bd : ByteArray) (A1 A2 A3 : Option Addr) (n1 c1 n2 c2 n3 c3 : Nat) (l1 l2 l3 : List UInt8) (w : World) (w0 : bd.size ≤ maxLen)
    (r1 : RdB w w.heap.size A1 n1 l1) (r2 : RdB w w.heap.size A2 n2 l2) (r3 : RdB w w.heap.size A3 n3 l3) :
    Calls Tryd.prog 7 #[.string bd, .slice A1 n1 c1, .slice A2 n2 c2, .slice A3 n3 c3] w fun e w' => e = .returned (.bool true) ∧ Below w.heap.size w w' := by
  unfold maxLen at w0
  by_cases hs : bd.size ≤ 16777216 ∧ n1 ≤ 16777216 ∧ n2 ≤ 16777216 ∧ n3 ≤ 16777216
  · obtain ⟨s0, s1, s2, s3⟩ := hs
    by_cases hb : boundB bd.data.toList = true
    · have HB := Lib.hid (bound_q bd (by omega) true hb)
      have hlen : bd.data.toList.length = bd.size := by simp
      have hbd : bd.size ≤ 70 := by
        have h' := hb
        unfold boundB at h'
        rw [hlen] at h'
        simp at h'
        omega
      have hl1 := r1.len
      have hl3 := r3.len
      have HO := Lib.hid (old_yes bd A1 A2 A3 n1 c1 n2 c2 n3 c3 l1 l2 l3 w hb s1 s2 s3 r1 r2 r3)
      have HZ : Hid ((bodyT bd.data.toList [([], l1), ([], l3)]).length ≤ 140737488000000) := by
        show _ ≤ _
        simp [bodyT, bodyFrom, sepT, delimT, partT, headT, dashes, crlf]
        omega
      rw [oldT_eq] at HO
      obtain ⟨LL, hLL⟩ : ∃ x, writeT bd.data.toList [([], l1), ([], l3)] = x := ⟨_, rfl⟩
      have HWr := Lib.hid (fun (W : World) (hb1 : Below w.heap.size w W) => write_any bd (some ⟨W.heap.size, 0, none⟩) 2 2 [([], l1), ([], l3)] (W.alloc (.cells #[.slice none 0 0, .slice A1 n1 c1, .slice none 0 0, .slice A3 n3 c3] 41)) hb (rdp_two ((r1.below hb1).more hb1.size) ((r3.below hb1).more hb1.size)) (by omega) (by omega) (by
        intro p hp
        simp at hp
        rcases hp with rfl | rfl
        · exact fit_nil _
        · exact fit_nil _) HZ.out)
      rw [hLL] at HO HWr
      clear hLL hb r1 r2 r3 hl1 hl3 hlen
      go_enter Tryd.func7, Tryd.ntmps7
      go_wp2_with fail
      refine (HB.out _).mono ?_
      rintro e w1 ⟨rfl, rfl⟩
      go_wp2_with fail
      refine HO.out.mono ?_
      rintro e w2 ⟨g, c, rfl, hR, hB2⟩
      go_wp2_with fail
      refine (HWr.out w2 hB2).mono ?_
      rintro e w3 ⟨g', c', rfl, hR', hB3⟩
      have hB3' : Below w2.heap.size w2 w3 := ((Below.refl w2.heap.size w2).alloc (Nat.le_refl _) _).trans (hB3.mono (by simp))
      have hv1 := RdB.conv (Rd.below hR hB3') (src := 31) (dst := 9) (e := 5) Tryd.underlying31 Tryd.underlying5 Tryd.underlying9 c
      have hv2 := RdB.conv hR' (src := 31) (dst := 9) (e := 5) Tryd.underlying31 Tryd.underlying5 Tryd.underlying9 c'
      clear hR hR' hB3
      go_wp2
      go_ret
      exact ⟨rfl, hB2.trans (hB3'.mono hB2.size)⟩
    · have HB := Lib.hid (bound_q bd (by omega) false (by simpa using hb))
      clear hb r1 r2 r3
      go_enter Tryd.func7, Tryd.ntmps7
      go_wp2_with fail
      refine (HB.out _).mono ?_
      rintro e w1 ⟨rfl, rfl⟩
      go_wp2
      go_ret
      exact ⟨rfl, Below.refl _ _⟩
  · clear r1 r2 r3
    have h : 2147483647 < bd.size ∨ (bd.size ≤ 2147483647 ∧ 2147483647 < n1) ∨ (bd.size ≤ 2147483647 ∧ n1 ≤ 2147483647 ∧ 2147483647 < n2) ∨ (bd.size ≤ 2147483647 ∧ n1 ≤ 2147483647 ∧ n2 ≤ 2147483647 ∧ 2147483647 < n3) ∨
      (bd.size ≤ 2147483647 ∧ n1 ≤ 2147483647 ∧ n2 ≤ 2147483647 ∧ n3 ≤ 2147483647 ∧ 16777216 < bd.size) ∨ (bd.size ≤ 16777216 ∧ n1 ≤ 2147483647 ∧ n2 ≤ 2147483647 ∧ n3 ≤ 2147483647 ∧ 16777216 < n1) ∨
      (bd.size ≤ 16777216 ∧ n1 ≤ 16777216 ∧ n2 ≤ 2147483647 ∧ n3 ≤ 2147483647 ∧ 16777216 < n2) ∨ (bd.size ≤ 16777216 ∧ n1 ≤ 16777216 ∧ n2 ≤ 16777216 ∧ n3 ≤ 2147483647 ∧ 16777216 < n3) := by omega
    clear hs
    rcases h with h | ⟨h1, h2⟩ | ⟨h1, h2, h3⟩ | ⟨h1, h2, h3, h4⟩ | ⟨h1, h2, h3, h4, h5⟩ | ⟨h1, h2, h3, h4, h5⟩ | ⟨h1, h2, h3, h4, h5⟩ | ⟨h1, h2, h3, h4, h5⟩
    all_goals
      go_enter Tryd.func7, Tryd.ntmps7
      go_wp2
      go_ret
      exact ⟨rfl, Below.refl _ _⟩

end Go.Proofs.YtklkgddldndmmaaDoor
