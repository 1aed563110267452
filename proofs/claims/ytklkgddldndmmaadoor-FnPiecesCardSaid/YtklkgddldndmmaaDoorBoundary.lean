/- The walk of the law FnExactBoundary. -/
import Derived.Test.YtklkgddldndmmaaDoorSets
namespace Go.Proofs.YtklkgddldndmmaaDoor
open Go.RowKit
set_option linter.unusedVariables false
set_option linter.unusedSimpArgs false

theorem own_first {w : World} {base : Nat} {e : TypeId} {n : Nat} {v u : Value} {xs : List Value} (h : w.ownsRow base e 1 v n xs) (k : Nat) (hu : xs[k]? = some u) : ∃ g c, v = .slice (some ⟨g, 0, none⟩) n c ∧ w.cell? ⟨g, k, none⟩ = some u := by
  have hk : k < n := by
    have h1 := (List.getElem?_eq_some_iff.1 hu).1
    have h2 := h.1
    omega
  obtain ⟨g, c, rfl, _⟩ := h.form (by omega)
  refine ⟨g, c, rfl, ?_⟩
  have := h.cells (g := g) rfl k u hu
  rwa [Addr.add_lit, Nat.zero_add] at this

theorem bound_q (s : ByteArray) (hs : s.size ≤ 2147483647) (ok : Bool) (h : boundB s.data.toList = ok) (w : World) :
    Calls Tryd.prog 11 #[.string s] w fun e w' => e = .returned (.bool ok) ∧ w' = w :=
  (bound_any s w hs).mono fun _ _ ⟨he, hw⟩ => ⟨by rw [he, h], hw.symm⟩

set_option maxRecDepth 20000 in
set_option maxHeartbeats 2000000 in
theorem xbound (s : ByteArray) (w0 : s.size ≤ maxLen) (w : World) :
    Calls Tryd.prog 3 #[.string s] w fun e w' => e = .returned (.bool true) ∧ Below w.heap.size w w' := by
  unfold maxLen at w0
  by_cases h1 : s.size ≤ 16777216
  · have HS := Lib.hid (fun (W : World) (A : Option Addr) (c : Nat) (h : Rd W W.heap.size 1 A 1 [.string s]) => sets_any A c [s] W (by simp) h)
    obtain ⟨ok, hok⟩ : ∃ ok, boundB s.data.toList = ok := ⟨_, rfl⟩
    have HB := Lib.hid (bound_q s (by omega) ok hok)
    have hf : fineL [s] = [.bool ok] := by simp [fineL, hok]
    have hn : namesL [s] = [.string (if ok = true then s else ⟨#[]⟩)] := by simp [namesL, curB, hok]
    rw [hf, hn] at HS
    clear hf hn hok
    go_enter Tryd.func3, Tryd.ntmps3
    go_wp2_with fail
    refine (HS.out _ _ _ ?_).mono ?_
    · have h := Rd.of_own (World.ownsRow_lit (base := w.heap.size) (e := 9) (size := 1) w #[.string s] 1 (Nat.le_refl _) (by decide) rfl)
      simpa using h
    rintro e w2 ⟨vf, vn, rfl, hf, hn, hb⟩
    have hbl : Below w.heap.size w w2 := ((Below.refl w.heap.size w).alloc (Nat.le_refl _) _).trans (hb.mono (by simp))
    obtain ⟨g, c, rfl, cf⟩ := own_first hf 0 rfl
    obtain ⟨g2, c2, rfl, cn⟩ := own_first hn 0 rfl
    have df : ∀ q, (w2.drewN q).cell? ⟨g, 0, none⟩ = some (.bool ok) := fun q => cf
    clear hf hn hb
    have hone : (0 : Int) < (1 : Int) := by decide
    cases ok
    · go_wp2_with fail
      go_quiet ((go_at_call 11; refine Calls.quiet_of_same (HB.out _)))
      go_wp2
      go_ret
      exact ⟨rfl, hbl.trans (below_drewN (Below.refl _ _) _)⟩
    · have dn : ∀ q, (w2.drewN q).cell? ⟨g2, 0, none⟩ = some (.string s) := fun q => cn
      go_wp2_with fail
      go_quiet ((go_at_call 11; refine Calls.quiet_of_same (HB.out _)))
      go_wp2
      go_ret
      exact ⟨rfl, hbl.trans (below_drewN (Below.refl _ _) _)⟩
  · by_cases h2 : 2147483647 < s.size
    all_goals
      go_enter Tryd.func3, Tryd.ntmps3
      go_wp2
      go_ret
      exact ⟨rfl, Below.refl _ _⟩

end Go.Proofs.YtklkgddldndmmaaDoor
