/- Texts of the proof, joined: HeadC, GoodA, Boundary. -/
import Derived.Test.YtklkgddldndmmaaDoorM07
import Derived.Deep.CutRange
import Derived.Deep.DeepCutAuto
import Derived.Outline
import Derived.Test.YtklkgddldndmmaaDoorM04
/- The walk of spec.Head. -/
namespace Go.Proofs.YtklkgddldndmmaaDoor
open Go.RowKit
set_option linter.unusedVariables false
set_option linter.unusedSimpArgs false

def Less (a b : ByteArray) : Prop := Op.bytesLess a.toList b.toList = true
def OkV (k v : ByteArray) : Prop := plainB v.data.toList = true ∧ k.size + 2 + v.size ≤ 998
structure OkH (h : ByteArray × List ByteArray) : Prop where
  key : keyB h.1.data.toList = true
  more : 0 < h.2.length
  vals : ∀ v ∈ h.2, OkV h.1 v
/-- The first k headers, with cnt values, are fine. -/
structure HeadTo (hs : HdrL) (k cnt : Nat) : Prop where
  each : ∀ (i : Nat) x, i < k → hs[i]? = some x → OkH x
  asc : ∀ (i : Nat) x y, i + 1 < k → hs[i]? = some x → hs[i + 1]? = some y → Less x.1 y.1
  dist : ∀ (i j : Nat) x y, i < j → j < k → hs[i]? = some x → hs[j]? = some y → canonL x.1.data.toList ≠ canonL y.1.data.toList
  tot : ((hs.take k).map fun h => h.2.length).sum = cnt
  le : cnt ≤ 100

theorem HeadTo.zero (hs : HdrL) : HeadTo hs 0 0 := ⟨fun i x h => absurd h (by omega), fun i x y h => absurd h (by omega), fun i j x y _ h => absurd h (by omega), by simp, by omega⟩
theorem HeadTo.succ {hs : HdrL} {k cnt cnt' : Nat} (h : HeadTo hs k cnt) {x : ByteArray × List ByteArray} (hx : hs[k]? = some x) (ho : OkH x) (hl : ∀ y, 0 < k → hs[k - 1]? = some y → Less y.1 x.1)
    (hd : ∀ (i : Nat) y, i < k → hs[i]? = some y → canonL y.1.data.toList ≠ canonL x.1.data.toList) (hc : cnt' = cnt + x.2.length) (hle : cnt' ≤ 100) : HeadTo hs (k + 1) cnt' := by
  refine ⟨idx_succ h.each hx ho, fun i a b hi ha hb => ?_, fun i j a b hij hj ha hb => ?_, ?_, hle⟩
  · by_cases hk : i + 1 < k
    · exact h.asc i a b hk ha hb
    · obtain rfl : i + 1 = k := by omega
      rw [hx] at hb
      obtain rfl := Option.some.inj hb
      exact hl a (by omega) ha
  · by_cases hk : j < k
    · exact h.dist i j a b hij hk ha hb
    · obtain rfl : j = k := by omega
      rw [hx] at hb
      obtain rfl := Option.some.inj hb
      exact hd i a hij ha
  · rw [take_at hx, List.map_append, List.sum_append, h.tot, hc]
    simp

/-- Behind the first test of a header. -/
def Test5 (P : Prop) (s : Value) (wa wx : World) : Prop := ∃ bad, s = .bool bad ∧ (bad = false → P) ∧ ∃ q, wx = wa.drewN q

theorem key_b {s : ByteArray} {w : World} (b : Bool) (hs : s.size ≤ 2147483647) (h : keyB s.data.toList = b) :
    Calls Tryd.prog 59 #[.string s] w fun e w' => e = .returned (.bool b) ∧ w' = w :=
  (key_any s w hs).mono fun _ _ ⟨he, hw⟩ => ⟨by rw [he, h], hw.symm⟩
theorem plain_b {s : ByteArray} {w : World} (b : Bool) (hs : s.size ≤ 2147483647) (h : plainB s.data.toList = b) :
    Calls Tryd.prog 61 #[.string s] w fun e w' => e = .returned (.bool b) ∧ w = w' :=
  (plain_any s w hs).mono fun _ _ ⟨he, hw⟩ => ⟨by rw [he, h], hw⟩

set_option maxRecDepth 100000 in
set_option maxHeartbeats 8000000 in
theorem headC_any (A : Option Addr) (n c : Nat) (hs : HdrL) (w : World) (hnc : n ≤ c) (hcm : c ≤ 9223372036854775807) (hf : FitHs hs) (hr : RdH w w.heap.size A n hs) :
    Calls Tryd.prog 35 #[.slice A n c] w fun e w' => SayB (∃ cnt, HeadTo hs n cnt) e ∧ Below w.heap.size w w' := by
  have HR := Lib.hid hr
  have HF := Lib.hid hf
  have hn31 : n ≤ 2147483647 := by have h := hf.1; have h2 := hr.1; unfold Few at h; omega
  clear hr hf
  go_enter Tryd.func35, Tryd.ntmps35
  go_wp2_with fail
  go_loopw [3, 12] (fun m i wr => ∃ k cnt : Nat, k ≤ n ∧ cnt ≤ 100 ∧ m = .int .i64 cnt ∧ i = .int .i64 k ∧ Hid (HeadTo hs k cnt) ∧ Hid (Below w.heap.size w wr)) (fun _ i _ => n - (intOf i).toNat)
  case atStart => exact ⟨0, 0, Nat.zero_le _, by omega, rfl, rfl, Lib.hid (HeadTo.zero hs), Lib.hid (Below.refl _ _)⟩
  case round =>
    obtain ⟨k, cnt, hk, hcnt, rfl, rfl, HI, HB⟩ := hrel
    by_cases hlt : k < n
    · obtain ⟨b, o, rfl, hb, hcl⟩ := HR.out.2 (by omega)
      obtain ⟨x, hx⟩ : ∃ x, hs[k]? = some x := ⟨_, List.getElem?_eq_getElem (by rw [HR.out.1]; exact hlt)⟩
      obtain ⟨c1, Av, nv, cv, c2, hv⟩ := hcl k x hx
      have d1 := (HB.out.cell (p := ⟨b, o + k * 2, none⟩) hb).trans c1
      have d2 := (HB.out.cell (p := ⟨b, o + k * 2 + 1, none⟩) hb).trans c2
      have hnv : nv = x.2.length := by have h1 := hv.1; simpa using h1.symm
      have hFx := HF.out.2 x (List.mem_of_getElem? hx)
      have hkey : x.1.size ≤ 2147483647 := hFx.1
      have hnv2 : nv ≤ 2147483647 := by rw [hnv]; exact hFx.2.1
      have hal := (Below.refl wr.heap.size wr).alloc (Nat.le_refl _) (.cells #[.string x.1, .slice Av nv cv] 81)
      have HCl := Lib.hid hcl
      have HV := Lib.hid hv
      have HNV := Lib.hid hnv
      have HX := Lib.hid hx
      have hsz0 := HB.out.size
      clear hcl c1 c2 hv hnv hx hFx
      have g1 : (wr.alloc (.cells #[.string x.1, .slice Av nv cv] 81)).heap[wr.heap.size]? = some (.cells #[.string x.1, .slice Av nv cv] 81 (0, 0)) := heap_alloc_new wr _
      obtain ⟨wa, hwa⟩ : ∃ y, y = wr.alloc (.cells #[.string x.1, .slice Av nv cv] 81) := ⟨_, rfl⟩
      have HBa := Lib.hid (show Below w.heap.size w wa by rw [hwa]; exact HB.out.trans (hal.mono hsz0))
      have hsa : wr.heap.size < wa.heap.size := by rw [hwa]; simp
      rw [← hwa] at g1
      have k1 : wa.cell? ⟨wr.heap.size, 0, none⟩ = some (.string x.1) := by rw [Lib.cell_of_heap g1]; rfl
      have k2 : wa.cell? ⟨wr.heap.size, 1, none⟩ = some (.slice Av nv cv) := by rw [Lib.cell_of_heap g1]; rfl
      have HG1 := Lib.hid g1
      clear g1 hal
      go_wp2_with fail
      rw [← hwa]
      clear hwa d1 d2
      have HK := Lib.hid (fun (bb : Bool) (hkb : keyB x.1.data.toList = bb) (W : World) => key_b (w := W) bb hkey hkb)
      go_cut [41] from 17 to 41 (fun s41 wx => Test5 (keyB x.1.data.toList = true ∧ 0 < x.2.length ∧ ∀ y, 0 < k → hs[k - 1]? = some y → Less y.1 x.1) s41 wa wx)
      case first =>
        have e1 : ∀ q, (wa.drewN q).cell? ⟨wr.heap.size, 0, none⟩ = some (.string x.1) := fun q => k1
        have e2 : ∀ q, (wa.drewN q).cell? ⟨wr.heap.size, 1, none⟩ = some (.slice Av nv cv) := fun q => k2
        cases hkb : keyB x.1.data.toList with
        | false =>
          have HKb := Lib.hid (HK.out _ hkb)
          clear hkb
          go_quiet ((go_at_call 59; refine Calls.quiet_of_same (HKb.out _)))
          go_wp2_with fail
          go_meet
          exact ⟨true, rfl, (fun h => by cases h), _, rfl⟩
        | true =>
          have HKb := Lib.hid (HK.out _ hkb)
          have HKT := Lib.hid hkb
          clear hkb
          by_cases hv0 : nv = 0
          · have hq : ((nv : Int) == 0) = true := by rw [hv0]; rfl
            clear hv0
            go_quiet ((go_at_call 59; refine Calls.quiet_of_same (HKb.out _)))
            go_wp2_with fail
            go_meet
            exact ⟨true, rfl, (fun h => by cases h), _, rfl⟩
          · have hq : ((nv : Int) == 0) = false := beq_not (by omega)
            have hmore : 0 < x.2.length := by rw [← HNV.out]; omega
            have HM := Lib.hid hmore
            clear hv0 hmore
            by_cases hk0 : k = 0
            · have hq2 : ((decide (0 < k)) : Bool) = false := by simp [hk0]
              have hq3 : ¬ 0 < k := by omega
              have HK0 := Lib.hid hk0
              clear hk0
              go_quiet ((go_at_call 59; refine Calls.quiet_of_same (HKb.out _)))
              go_wp2_with fail
              go_meet
              exact ⟨false, rfl, fun _ => ⟨HKT.out, HM.out, fun y hy => absurd hy (by rw [HK0.out]; omega)⟩, _, rfl⟩
            · obtain ⟨k', rfl⟩ : ∃ k', k = k' + 1 := ⟨k - 1, by omega⟩
              obtain ⟨y, hy⟩ : ∃ y, hs[k']? = some y := ⟨_, List.getElem?_eq_getElem (by rw [HR.out.1]; omega)⟩
              obtain ⟨c1, _⟩ := HCl.out k' y hy
              have e3 : ∀ q, (wa.drewN q).cell? ⟨b, o + k' * 2, none⟩ = some (.string y.1) := fun q => (HBa.out.cell (p := ⟨b, o + k' * 2, none⟩) hb).trans c1
              have HY := Lib.hid hy
              have hi0 : (0 : Int) ≤ (k' : Int) := by omega
              have hi1 : (k' : Int) < (n : Int) := by omega
              clear c1 hy hk0
              cases hls : Op.bytesLess y.1.toList x.1.toList with
              | true =>
                have HLs := Lib.hid hls
                go_quiet ((go_at_call 59; refine Calls.quiet_of_same (HKb.out _)))
                go_wp2_with fail
                go_meet
                exact ⟨false, rfl, fun _ => ⟨HKT.out, HM.out, fun z _ hz => by
                  rw [Nat.add_sub_cancel, HY.out] at hz
                  obtain rfl := Option.some.inj hz
                  exact HLs.out⟩, _, rfl⟩
              | false =>
                go_quiet ((go_at_call 59; refine Calls.quiet_of_same (HKb.out _)))
                go_wp2_with fail
                go_meet
                exact ⟨true, rfl, (fun h => by cases h), _, rfl⟩
      obtain ⟨bad, rfl, hP, q, rfl⟩ := hcut
      obtain ⟨wb, hwb⟩ : ∃ y, y = wa.drewN q := ⟨_, rfl⟩
      have HBb := Lib.hid (show Below w.heap.size w wb by rw [hwb]; exact below_drewN HBa.out q)
      have hsb : wr.heap.size < wb.heap.size := by rw [hwb]; exact hsa
      have k1b : wb.cell? ⟨wr.heap.size, 0, none⟩ = some (.string x.1) := by rw [hwb]; exact k1
      have k2b : wb.cell? ⟨wr.heap.size, 1, none⟩ = some (.slice Av nv cv) := by rw [hwb]; exact k2
      rw [← hwb]
      clear hwb k1 k2 hsa HBa HG1 HK
      obtain ⟨wo, rfl⟩ : ∃ wo : World, wo = wr := ⟨_, rfl⟩
      cases bad with
      | true =>
        clear hP
        go_wp2
        go_ret
        exact ⟨SayB.no, HBb.out⟩
      | false =>
        have HP := Lib.hid (hP rfl)
        have hc0 : ¬ c = 0 := by omega
        have hkc : (k : Int) ≤ (c : Int) := by omega
        clear hP
        go_wp2_with fail
        go_loopw [46] (fun i w2 => ∃ j : Nat, j ≤ k ∧ i = .int .i64 j ∧ Hid (∀ (i : Nat) y, i < j → hs[i]? = some y → canonL y.1.data.toList ≠ canonL x.1.data.toList) ∧ Hid (Below wb.heap.size wb w2)) (fun i _ => k - (intOf i).toNat)
        case atStart => exact ⟨0, Nat.zero_le _, rfl, Lib.hid (fun i y h => absurd h (by omega)), Lib.hid (Below.refl _ _)⟩
        case round =>
          obtain ⟨j, hj, rfl, HD, HB2⟩ := hrel
          have hwr := HB2.out.size
          have kb := (HB2.out.cell (p := ⟨wo.heap.size, 0, none⟩) hsb).trans k1b
          have kb2 := (HB2.out.cell (p := ⟨wo.heap.size, 1, none⟩) hsb).trans k2b
          have HBw := Lib.hid (HBb.out.trans (HB2.out.mono HBb.out.size))
          by_cases hlj : j < k
          · obtain ⟨y, hy⟩ : ∃ y, hs[j]? = some y := ⟨_, List.getElem?_eq_getElem (by rw [HR.out.1]; omega)⟩
            obtain ⟨c1, Aw, nw, cw, c2, _⟩ := HCl.out j y hy
            have d1 := (HBw.out.cell (p := ⟨b, o + j * 2, none⟩) hb).trans c1
            have d2 := (HBw.out.cell (p := ⟨b, o + j * 2 + 1, none⟩) hb).trans c2
            have hyk : y.1.size ≤ 2147483647 := (HF.out.2 y (List.mem_of_getElem? hy)).1
            have HY := Lib.hid hy
            clear c1 c2 hy
            have hal := (Below.refl wr.heap.size wr).alloc (Nat.le_refl _) (.cells #[.string y.1, .slice Aw nw cw] 81)
            have g1 : (wr.alloc (.cells #[.string y.1, .slice Aw nw cw] 81)).heap[wr.heap.size]? = some (.cells #[.string y.1, .slice Aw nw cw] 81 (0, 0)) := heap_alloc_new wr _
            obtain ⟨wa, hwa⟩ : ∃ z, z = wr.alloc (.cells #[.string y.1, .slice Aw nw cw] 81) := ⟨_, rfl⟩
            have HBa := Lib.hid (show Below wb.heap.size wb wa by rw [hwa]; exact HB2.out.trans (hal.mono hwr))
            have hsa : wr.heap.size < wa.heap.size := by rw [hwa]; simp
            have hsa2 : wo.heap.size < wa.heap.size := by omega
            rw [← hwa] at g1
            have l1 : wa.cell? ⟨wr.heap.size, 0, none⟩ = some (.string y.1) := by rw [Lib.cell_of_heap g1]; rfl
            have l2 : wa.cell? ⟨wo.heap.size, 0, none⟩ = some (.string x.1) := (HBa.out.cell (p := ⟨wo.heap.size, 0, none⟩) hsb).trans k1b
            clear g1 hal
            go_wp2_with fail
            rw [← hwa]
            clear hwa d1 d2 kb kb2
            obtain ⟨eb, heb⟩ : ∃ eb, (canonL y.1.data.toList == canonL x.1.data.toList) = eb := ⟨_, rfl⟩
            have HE := Lib.hid heb
            have HC := Lib.hid (fun (s : ByteArray) (hs : s.size ≤ 2147483647) (W : World) (hW : Below wa.heap.size wa W) => (canon_any s W hs).mono fun e w' h => (show e = .returned (.string ⟨(canonL s.data.toList).toArray⟩) ∧ Below wa.heap.size wa w' from ⟨h.1, hW.trans (h.2.mono hW.size)⟩))
            clear heb
            go_cut [56] from 50 to 56 (fun s56 wx => s56 = .bool eb ∧ Below wa.heap.size wa wx)
            case first =>
              go_region_with (go_simp; go_at_call 60; go_must (refine (HC.out _ (by assumption) _ ?_).mono ?_; (repeat (first | assumption | exact Below.refl _ _ | refine Below.drew ?_)); rintro e w' ⟨rfl, hb'⟩; have l1' := (hb'.cell (p := ⟨wr.heap.size, 0, none⟩) hsa).trans l1; have l2' := (hb'.cell (p := ⟨wo.heap.size, 0, none⟩) hsa2).trans l2))
              all_goals (go_wp2_with fail; (try go_simp); go_meet; exact ⟨by (first | (rw [← HE.out]; done) | (rw [← HE.out]; simp)), by first | exact hb' | exact hb'.drew⟩)
            obtain ⟨rfl, hb3⟩ := hcut
            have HB3 := Lib.hid (HBa.out.trans (hb3.mono HBa.out.size))
            clear HC l1 l2 hb3
            cases eb with
            | true =>
              go_wp2
              go_ret
              exact ⟨SayB.no, HBb.out.trans (HB3.out.mono HBb.out.size)⟩
            | false =>
              have HN := Lib.hid (idx_succ HD.out HY.out (by have := HE.out; simpa using this))
              go_wp2_with fail
              go_roundw
              case rel => exact ⟨j + 1, by omega, by go_num, HN, HB3⟩
              case measure => simp [intOf]; omega
          · have hjk : j = k := by omega
            have hd := HD.out
            rw [hjk] at hd
            have HD2 := Lib.hid hd
            clear hd hjk
            go_wp2_with fail
            obtain ⟨wp, rfl⟩ : ∃ wp : World, wp = wr := ⟨_, rfl⟩
            go_loop [3, 61] (fun m i => ∃ j2 cnt2 : Nat, j2 ≤ nv ∧ cnt2 ≤ 100 ∧ i = .int .i64 j2 ∧ m = .int .i64 cnt2 ∧ Hid (cnt2 = cnt + j2) ∧ Hid (∀ (i : Nat) v, i < j2 → x.2[i]? = some v → OkV x.1 v)) (fun _ i => nv - (intOf i).toNat)
            case atStart => exact ⟨0, cnt, Nat.zero_le _, hcnt, rfl, rfl, Lib.hid rfl, Lib.hid (fun i v h => absurd h (by omega))⟩
            case round =>
              obtain ⟨j2, cnt2, hj2, hc2, rfl, rfl, HCn, HVl⟩ := hrel
              by_cases hlj2 : j2 < nv
              · obtain ⟨bv, ov, rfl, hbv, hcv⟩ := HV.out.2 (by omega)
                obtain ⟨v, hv⟩ : ∃ v, x.2[j2]? = some v := ⟨_, List.getElem?_eq_getElem (by rw [← HNV.out]; exact hlj2)⟩
                have e1 := (HBw.out.cell (p := ⟨bv, ov + j2, none⟩) hbv).trans (hcv j2 (.string v) (by rw [List.getElem?_map, hv]; rfl))
                have hvs : v.size ≤ 2147483647 := (HF.out.2 x (List.mem_of_getElem? HX.out)).2.2 v (List.mem_of_getElem? hv)
                have HVv := Lib.hid hv
                clear hcv hv kb2
                cases hpl : plainB v.data.toList with
                | false =>
                  have HPl := Lib.hid (fun W : World => plain_b (w := W) false hvs hpl)
                  clear hpl
                  go_wp2_with fail
                  refine (HPl.out _).mono ?_
                  rintro e w1 ⟨rfl, rfl⟩
                  go_wp2
                  go_ret
                  exact ⟨SayB.no, HBw.out⟩
                | true =>
                  have HPl := Lib.hid (fun W : World => plain_b (w := W) true hvs hpl)
                  have HPT := Lib.hid hpl
                  clear hpl
                  by_cases hln : x.1.size + 2 + v.size ≤ 998
                  · have hln1 : (x.1.size : Int) + 2 + (v.size : Int) ≤ 998 := by omega
                    have HN := Lib.hid (idx_succ HVl.out HVv.out ⟨HPT.out, hln⟩)
                    clear hln
                    by_cases h100 : cnt2 + 1 ≤ 100
                    · have h101 : (cnt2 : Int) + 1 ≤ 100 := by omega
                      have HC2 : Hid (cnt2 + 1 = cnt + (j2 + 1)) := by show _ = _; rw [HCn.out]; omega
                      go_wp2_with fail
                      refine (HPl.out _).mono ?_
                      rintro e w1 ⟨rfl, rfl⟩
                      go_wp2_with fail
                      go_round
                      case rel => exact ⟨j2 + 1, cnt2 + 1, by omega, h100, by go_num, by go_num, HC2, HN⟩
                      case measure => simp [intOf]; omega
                    · have h101 : (100 : Int) < (cnt2 : Int) + 1 := by omega
                      clear h100
                      go_wp2_with fail
                      refine (HPl.out _).mono ?_
                      rintro e w1 ⟨rfl, rfl⟩
                      go_wp2
                      go_ret
                      exact ⟨SayB.no, HBw.out⟩
                  · have hln1 : (998 : Int) < (x.1.size : Int) + 2 + (v.size : Int) := by omega
                    clear hln
                    go_wp2_with fail
                    refine (HPl.out _).mono ?_
                    rintro e w1 ⟨rfl, rfl⟩
                    go_wp2
                    go_ret
                    exact ⟨SayB.no, HBw.out⟩
              · have HN := Lib.hid (show HeadTo hs (k + 1) cnt2 from HI.out.succ HX.out ⟨HP.out.1, HP.out.2.1, all_of_idx (n := j2) (by rw [← HNV.out]; omega) HVl.out⟩ HP.out.2.2 HD2.out (by rw [HCn.out, ← HNV.out]; omega) hc2)
                clear kb2
                go_wp2_with fail
                go_roundw
                case rel => exact ⟨k + 1, cnt2, by omega, hc2, rfl, by go_num, HN, HBw⟩
                case measure => simp [intOf]; omega
    · have hke : k = n := by omega
      have hI := HI.out
      rw [hke] at hI
      have HIn := Lib.hid hI
      clear hI hke
      go_wp2
      go_ret
      exact ⟨SayB.yes ⟨cnt, HIn.out⟩, HB.out⟩

end Go.Proofs.YtklkgddldndmmaaDoor

/- What a fine header gives; parts that read as a list, with their capacities. No walk. -/
namespace Go.Proofs.YtklkgddldndmmaaDoor
open Go.RowKit
set_option linter.unusedVariables false
set_option linter.unusedSimpArgs false

theorem bytesLess_lt : ∀ {a b : List UInt8}, Op.bytesLess a b = true → a < b
  | _, [], h => by simp [Op.bytesLess] at h
  | [], _ :: _, _ => by simp
  | x :: r, y :: t, h => by
    simp only [Op.bytesLess, Bool.or_eq_true, Bool.and_eq_true, decide_eq_true_eq, beq_iff_eq] at h
    rw [List.cons_lt_cons_iff]
    rcases h with h | ⟨h1, h2⟩
    · exact .inl h
    · exact .inr ⟨h1, bytesLess_lt h2⟩
theorem Less.lt {a b : ByteArray} (h : Less a b) : a.data.toList < b.data.toList := by
  have := bytesLess_lt h
  rwa [ByteArray.toList_eq, ByteArray.toList_eq] at this

/-- A header that may be written. -/
def HeadOk (hs : HdrL) : Prop := ∃ cnt, HeadTo hs hs.length cnt
theorem sum_le {l : List Nat} {x : Nat} (h : x ∈ l) : x ≤ l.sum := by
  induction l with
  | nil => cases h
  | cons y r ih =>
    rw [List.sum_cons]
    rcases List.mem_cons.1 h with rfl | h
    · omega
    · have := ih h; omega
theorem len_sum (l : List Nat) (h : ∀ x ∈ l, 1 ≤ x) : l.length ≤ l.sum := by
  induction l with
  | nil => simp
  | cons y r ih =>
    rw [List.sum_cons, List.length_cons]
    have := h y (List.mem_cons_self ..)
    have := ih (fun x hx => h x (List.mem_cons_of_mem _ hx))
    omega
section
variable {hs : HdrL} (h : HeadOk hs)
include h
theorem HeadOk.each : ∀ x ∈ hs, OkH x := by
  obtain ⟨cnt, h⟩ := h
  exact all_of_idx (Nat.le_refl _) h.each
theorem HeadOk.sum : (hs.map fun x => x.2.length).sum ≤ 100 := by
  obtain ⟨cnt, h⟩ := h
  have h1 := h.tot
  have h2 := h.le
  rw [List.take_length] at h1
  omega
theorem HeadOk.len : hs.length ≤ 100 := by
  have h1 := h.sum
  have h2 := len_sum (hs.map fun x => x.2.length) (fun y hy => by
    obtain ⟨x, hx, rfl⟩ := List.mem_map.1 hy
    exact (h.each x hx).more)
  rw [List.length_map] at h2
  omega
theorem HeadOk.lt : ∀ (d i : Nat) x y, hs[i]? = some x → hs[i + 1 + d]? = some y → x.1.data.toList < y.1.data.toList := by
  obtain ⟨cnt, h⟩ := h
  intro d
  induction d with
  | zero =>
    intro i x y hx hy
    exact (h.asc i x y (List.getElem?_eq_some_iff.1 hy).1 hx hy).lt
  | succ d ih =>
    intro i x y hx hy
    have hl := (List.getElem?_eq_some_iff.1 hy).1
    obtain ⟨z, hz⟩ : ∃ z, hs[i + 1 + d]? = some z := ⟨_, List.getElem?_eq_getElem (by omega)⟩
    exact List.lt_trans (ih i x z hx hz) (h.asc (i + 1 + d) z y hl hz hy).lt
theorem HeadOk.asc : Asc hs := by
  refine ⟨fun i j x y hij hx hy => ?_, fun x hx => ?_⟩
  · exact h.lt (j - i - 1) i x y hx (by rw [show i + 1 + (j - i - 1) = j by omega]; exact hy)
  · have ho := h.each x hx
    have h1 := h.sum
    have h2 := sum_le (List.mem_map_of_mem (f := fun x : ByteArray × List ByteArray => x.2.length) hx)
    refine ⟨ho.more, by omega, ?_⟩
    obtain ⟨v, hv⟩ : ∃ v, v ∈ x.2 := ⟨_, List.getElem_mem ho.more⟩
    have := (ho.vals v hv).2
    unfold maxLen
    omega
omit h in
theorem linesT_len (k : List UInt8) (vs : List ByteArray) (hv : ∀ v ∈ vs, k.length + 2 + v.size ≤ 998) : (linesT k vs).length ≤ 1000 * vs.length := by
  induction vs with
  | nil => simp [linesT]
  | cons v r ih =>
    have h1 := hv v (List.mem_cons_self ..)
    have h2 := ih (fun x hx => hv x (List.mem_cons_of_mem _ hx))
    have h3 : (lineT k v.data.toList).length = k.length + v.size + 4 := by
      simp only [lineT, colon, crlf, List.length_append, len_data, List.length_cons, List.length_nil]; omega
    unfold linesT at h2 ⊢
    rw [List.flatMap_cons, List.length_append, List.length_cons, h3]
    omega
omit h in
theorem headT_len (hs : HdrL) (hv : ∀ x ∈ hs, OkH x) : (headT hs).length ≤ 1000 * (hs.map fun x => x.2.length).sum := by
  induction hs with
  | nil => simp [headT]
  | cons x r ih =>
    have h1 := ih (fun y hy => hv y (List.mem_cons_of_mem _ hy))
    have h2 := linesT_len x.1.data.toList x.2 (fun v hvv => by rw [len_data]; exact ((hv x (List.mem_cons_self ..)).vals v hvv).2)
    unfold headT at h1 ⊢
    rw [List.flatMap_cons, List.length_append, List.map_cons, List.sum_cons]
    omega
theorem HeadOk.txt : (headT hs).length ≤ 100000 := by
  have h1 := headT_len hs h.each
  have h2 := h.sum
  omega
end
theorem HeadOk.fit {p : PartL} (h : HeadOk p.1) : Fit p := ⟨h.asc, by have := h.len; omega, by have := h.txt; omega⟩

/-- Parts that may be written and read again. -/
def GoodP (ps : List PartL) (bd : ByteArray) : Prop := (∀ p ∈ ps, HeadOk p.1 ∧ freeB p.2 bd.data.toList = true) ∧ boundB bd.data.toList = true

/-- A []Part that reads as a list of parts; what its slices may hold. -/
def RdQ (w : World) (B : Nat) (A : Option Addr) (n : Nat) (ps : List PartL) : Prop :=
  ps.length = n ∧ (0 < n → ∃ b o, A = some ⟨b, o, none⟩ ∧ b < B ∧ ∀ (i : Nat) p, ps[i]? = some p → ∃ Ah nh ch Ab nb cb, w.cell? ⟨b, o + i * 2, none⟩ = some (.slice Ah nh ch) ∧ w.cell? ⟨b, o + i * 2 + 1, none⟩ = some (.slice Ab nb cb) ∧ RdH w B Ah nh p.1 ∧ RdB w B Ab nb p.2 ∧ nh ≤ ch ∧ ch ≤ 9223372036854775807 ∧ nb ≤ cb)
theorem RdQ.rdp {w : World} {B : Nat} {A : Option Addr} {n : Nat} {ps : List PartL} (h : RdQ w B A n ps) : RdP w B A n ps :=
  ⟨h.1, fun hn => by
    obtain ⟨b, o, e, hB, hc⟩ := h.2 hn
    refine ⟨b, o, e, hB, fun i x hx => ?_⟩
    obtain ⟨Ah, nh, ch, Ab, nb, cb, c1, c2, h1, h2, _⟩ := hc i x hx
    exact ⟨Ah, nh, ch, Ab, nb, cb, c1, c2, h1, h2⟩⟩
theorem RdQ.below {w w' : World} {B : Nat} {A : Option Addr} {n : Nat} {ps : List PartL} (h : RdQ w B A n ps) (hb : Below B w w') : RdQ w' B A n ps :=
  ⟨h.1, fun hn => by
    obtain ⟨b, o, e, hB, hc⟩ := h.2 hn
    refine ⟨b, o, e, hB, fun i x hx => ?_⟩
    obtain ⟨Ah, nh, ch, Ab, nb, cb, c1, c2, h1, h2, h3⟩ := hc i x hx
    exact ⟨Ah, nh, ch, Ab, nb, cb, (hb.cell (p := ⟨b, o + i * 2, none⟩) hB).trans c1, (hb.cell (p := ⟨b, o + i * 2 + 1, none⟩) hB).trans c2, h1.below hb, h2.below hb, h3⟩⟩
theorem RdQ.more {w : World} {B B' : Nat} {A : Option Addr} {n : Nat} {ps : List PartL} (h : RdQ w B A n ps) (hB : B ≤ B') : RdQ w B' A n ps :=
  ⟨h.1, fun hn => by
    obtain ⟨b, o, e, hb, hc⟩ := h.2 hn
    refine ⟨b, o, e, by omega, fun i x hx => ?_⟩
    obtain ⟨Ah, nh, ch, Ab, nb, cb, c1, c2, h1, h2, h3⟩ := hc i x hx
    exact ⟨Ah, nh, ch, Ab, nb, cb, c1, c2, h1.more hB, h2.more hB, h3⟩⟩

end Go.Proofs.YtklkgddldndmmaaDoor

/- The walk of the law FnExactBoundary. -/
namespace Go.Proofs.YtklkgddldndmmaaDoor
open Go.RowKit
set_option linter.unusedVariables false
set_option linter.unusedSimpArgs false

theorem own_first {w : World} {base : Nat} {e : TypeId} {n : Nat} {v u : Value} {xs : List Value} (h : w.ownsRow base e 1 v n xs) (k : Nat) (hu : xs[k]? = some u) : ∃ g c, v = .slice (some ⟨g, 0, none⟩) n c ∧ w.cell? ⟨g, k, none⟩ = some u := by
  have hk : k < n := by
    have h1 := (List.getElem?_eq_some_iff.1 hu).1
    have h2 := h.1
    omega
  obtain ⟨g, c, rfl, _⟩ := h.form (by omega)
  refine ⟨g, c, rfl, ?_⟩
  have := h.cells (g := g) rfl k u hu
  rwa [Addr.add_lit, Nat.zero_add] at this

theorem bound_q (s : ByteArray) (hs : s.size ≤ 2147483647) (ok : Bool) (h : boundB s.data.toList = ok) (w : World) :
    Calls Tryd.prog 11 #[.string s] w fun e w' => e = .returned (.bool ok) ∧ w' = w :=
  (bound_any s w hs).mono fun _ _ ⟨he, hw⟩ => ⟨by rw [he, h], hw.symm⟩

set_option maxRecDepth 20000 in
set_option maxHeartbeats 2000000 in
theorem xbound (s : ByteArray) (w0 : s.size ≤ maxLen) (w : World) :
    Calls Tryd.prog 3 #[.string s] w fun e w' => e = .returned (.bool true) ∧ Below w.heap.size w w' := by
  unfold maxLen at w0
  by_cases h1 : s.size ≤ 16777216
  · have HS := Lib.hid (fun (W : World) (A : Option Addr) (c : Nat) (h : Rd W W.heap.size 1 A 1 [.string s]) => sets_any A c [s] W (by simp) h)
    obtain ⟨ok, hok⟩ : ∃ ok, boundB s.data.toList = ok := ⟨_, rfl⟩
    have HB := Lib.hid (bound_q s (by omega) ok hok)
    have hf : fineL [s] = [.bool ok] := by simp [fineL, hok]
    have hn : namesL [s] = [.string (if ok = true then s else ⟨#[]⟩)] := by simp [namesL, curB, hok]
    rw [hf, hn] at HS
    clear hf hn hok
    go_enter Tryd.func3, Tryd.ntmps3
    go_wp2_with fail
    refine (HS.out _ _ _ ?_).mono ?_
    · have h := Rd.of_own (World.ownsRow_lit (base := w.heap.size) (e := 9) (size := 1) w #[.string s] 1 (Nat.le_refl _) (by decide) rfl)
      simpa using h
    rintro e w2 ⟨vf, vn, rfl, hf, hn, hb⟩
    have hbl : Below w.heap.size w w2 := ((Below.refl w.heap.size w).alloc (Nat.le_refl _) _).trans (hb.mono (by simp))
    obtain ⟨g, c, rfl, cf⟩ := own_first hf 0 rfl
    obtain ⟨g2, c2, rfl, cn⟩ := own_first hn 0 rfl
    have df : ∀ q, (w2.drewN q).cell? ⟨g, 0, none⟩ = some (.bool ok) := fun q => cf
    clear hf hn hb
    have hone : (0 : Int) < (1 : Int) := by decide
    cases ok
    · go_wp2_with fail
      go_quiet ((go_at_call 11; refine Calls.quiet_of_same (HB.out _)))
      go_wp2
      go_ret
      exact ⟨rfl, hbl.trans (below_drewN (Below.refl _ _) _)⟩
    · have dn : ∀ q, (w2.drewN q).cell? ⟨g2, 0, none⟩ = some (.string s) := fun q => cn
      go_wp2_with fail
      go_quiet ((go_at_call 11; refine Calls.quiet_of_same (HB.out _)))
      go_wp2
      go_ret
      exact ⟨rfl, hbl.trans (below_drewN (Below.refl _ _) _)⟩
  · by_cases h2 : 2147483647 < s.size
    all_goals
      go_enter Tryd.func3, Tryd.ntmps3
      go_wp2
      go_ret
      exact ⟨rfl, Below.refl _ _⟩

end Go.Proofs.YtklkgddldndmmaaDoor
