/- The walk of impl.header. -/
import Derived.Test.YtklkgddldndmmaaDoorHead
import Derived.Deep.CutRange
namespace Go.Proofs.YtklkgddldndmmaaDoor
open Go.RowKit
set_option linter.unusedVariables false
set_option linter.unusedSimpArgs false

/-- A header that may be walked: ascending keys, each with values. -/
structure Asc (hs : List (ByteArray × List ByteArray)) : Prop where
  asc : ∀ (i j : Nat) x y, i < j → hs[i]? = some x → hs[j]? = some y → x.1.data.toList < y.1.data.toList
  vals : ∀ h ∈ hs, 0 < h.2.length ∧ h.2.length ≤ 1000 ∧ h.1.size ≤ maxLen

set_option maxRecDepth 20000 in
set_option maxHeartbeats 4000000 in
theorem head_any (A : Option Addr) (n c : Nat) (hs : List (ByteArray × List ByteArray)) (W0 : World) (hn : n ≤ 1000) (hr : RdH W0 W0.heap.size A n hs) (ha : Asc hs) :
    Calls Tryd.prog 37 #[.slice A n c] W0 fun e w' => e = .returned (.map (some W0.heap.size)) ∧ ∃ gs, HInv W0 W0.heap.size hs n gs w' := by
  have HR := Lib.hid hr
  have HA := Lib.hid ha
  clear hr ha
  have hmm := @run_makeMap Tryd.prog
  go_enter Tryd.func37, Tryd.ntmps37
  go_wp2_with fail
  go_loopw [9] (fun i w => ∃ (k : Nat) (gs : List (Nat × Nat)), k ≤ n ∧ i = .int .i64 k ∧ Hid (HInv W0 W0.heap.size hs k gs w)) (fun i _ => n - (intOf i).toNat)
  case atStart => exact ⟨0, [], Nat.zero_le _, rfl, ⟨(Below.refl _ W0).alloc (Nat.le_refl _) _, rfl, by have h := World.ownsMap_made (H := Unit) W0 Tryd.prog 9 encS; exact h, fun i x g hx hg => by simp at hg⟩⟩
  case round =>
    obtain ⟨k, gs, hk, rfl, HI⟩ := hrel
    by_cases hlt : k < n
    · obtain ⟨b, o, rfl, hb, hcell⟩ := HR.out.2 (by omega)
      have hkl : k < hs.length := by have := HR.out.1; omega
      obtain ⟨x, hx⟩ : ∃ x, hs[k]? = some x := ⟨_, List.getElem?_eq_getElem hkl⟩
      obtain ⟨c1, Av, nv, cv, c2, hv⟩ := hcell k x hx
      have d1 := (HI.out.below.cell (p := ⟨b, o + k * 2, none⟩) hb).trans c1
      have d2 := (HI.out.below.cell (p := ⟨b, o + k * 2 + 1, none⟩) hb).trans c2
      clear hcell c1 c2
      have hvl := HA.out.vals x (List.mem_of_getElem? hx)
      have hnv : x.2.length = nv := by have := hv.1; simpa using this
      have hal := (Below.refl wr.heap.size wr).alloc (Nat.le_refl _) (.cells #[.string x.1, .slice Av nv cv] 81)
      have HIa := Lib.hid (HI.out.keep hal)
      have HV := Lib.hid ((hv.below HIa.out.below).more (B' := W0.heap.size) (Nat.le_refl _))
      have k1 : (wr.alloc (.cells #[.string x.1, .slice Av nv cv] 81)).cell? ⟨wr.heap.size, 0, none⟩ = some (.string x.1) := by rw [World.cell?_alloc_at (hn := rfl)]; rfl
      have k2 : (wr.alloc (.cells #[.string x.1, .slice Av nv cv] 81)).cell? ⟨wr.heap.size, 1, none⟩ = some (.slice Av nv cv) := by rw [World.cell?_alloc_at (hn := rfl)]; rfl
      go_wp2_with fail
      obtain ⟨wa, hwa⟩ : ∃ y, y = wr.alloc (.cells #[.string x.1, .slice Av nv cv] 81) := ⟨_, rfl⟩
      rw [← hwa] at HIa HV k1 k2 ⊢
      have hB0 : W0.heap.size ≤ wa.heap.size := HIa.out.below.size
      clear hwa hal
      have hkeys : ∀ p ∈ ents (hs.take k) gs, p.1.sameKey (.string x.1.data.toList) = false := by
        intro p hp
        obtain ⟨y, hy, e⟩ := ents_mem hp
        obtain ⟨i, hi⟩ := List.getElem?_of_mem hy
        rw [List.getElem?_take] at hi
        split at hi
        · rename_i hik
          rw [e]
          exact (key_last (HA.out.asc i k y x hik hi hx)).2
        · cases hi
      have hlk : (Instr.lookup 72 (.map (some W0.heap.size)) (.string x.1) false).run Tryd.prog wa.drew = .ok (.slice none 0 0) wa.drew := hmap_lookup (W := wa.drew) HIa.out.map hkeys hvl.2.2
      have hasc : ∀ (i : Nat) y, i < k → hs[i]? = some y → y.1.data.toList < x.1.data.toList := fun i y hi hy => HA.out.asc i k y x hi hy hx
      have HPut := Lib.hid (fun (W' : World) (g c' : Nat) (hB' : Below wa.heap.size wa W') (hc' : ∀ j u, (x.2.map Value.string)[j]? = some u → W'.cell? ⟨g, 0 + j, none⟩ = some u) => (HIa.out.keep hB').put (c := c') hx hasc hvl.2.2 (by unfold maxLen; omega) hc' (Nat.le_refl _))
      clear hkeys hasc
      go_region_law (refine step_append_nil9 W0.heap.size k (.map (ents (hs.take k) gs)) wa _ rfl (.tmp 19) (.tmp 21) rfl (by first | exact Below.refl _ _ | exact (Below.refl _ _).drew) HIa.out.map (by simp [Act.eval, Act.put]) W0.heap.size Av nv cv x.2 (by simp [Act.eval, Act.put]) HV.out hB0 (by omega) (by omega) ?_; intro g c' W' hB' hg' hc' hm'; have k1' := (hB'.cell (p := ⟨wr.heap.size, 0, none⟩) (cell_lt' k1)).trans k1; obtain ⟨e1, e2⟩ := HPut.out W' g c' hB' hc'; rw [hnv] at e1 e2; have E2 := Lib.hid e2; clear e2 hm' hc' hB')
      all_goals
        (try go_simp)
        go_wp2_with fail
        go_roundw
        case rel => exact ⟨k + 1, _, by omega, by go_num, E2⟩
        case measure => simp [intOf]; omega
    · have hkn : k = n := by omega
      subst hkn
      go_wp2
      go_ret
      exact ⟨rfl, gs, HI.out⟩

end Go.Proofs.YtklkgddldndmmaaDoor
