/- Texts of the proof, joined: AddW, TailP, HeadR. -/
import Derived.Test.YtklkgddldndmmaaDoorM14
import Derived.Test.YtklkgddldndmmaaDoorM06
import Derived.Deep.CutRange
import Derived.Deep.DeepMust
import Derived.Outline
/- The walk of spec.add. -/
namespace Go.Proofs.YtklkgddldndmmaaDoor
open Go.RowKit
set_option linter.unusedVariables false
set_option linter.unusedSimpArgs false

/-- The values at a place are few. -/
theorem add_last {w0 w : World} {hs : HdrL} {ab : Option Nat} {q : Nat} {v : Value} {x : ByteArray × List ByteArray} (h : AddS w0 w v hs (some q) ab) (hx : hs[q]? = some x) (hxl : x.2.length ≤ 1000) (y : ByteArray) :
    ∃ g c Av nv cv, v = .slice (some ⟨g, 0, none⟩) hs.length c ∧ w.cell? ⟨g, q * 2 + 1, none⟩ = some (.slice Av nv cv) ∧ nv ≤ 1000 ∧ w.ownsRow w0.heap.size 9 1 (.slice Av nv cv) nv (x.2.map Value.string) ∧
      ∀ A' c' w', w'.ownsRow w0.heap.size 9 1 (.slice A' (nv + 1) c') (nv + 1) (x.2.map Value.string ++ [.string y]) → w.grownBy w' (Value.slice Av nv cv).ownBlock → ((Value.slice A' (nv + 1) c').ownBlock = (Value.slice Av nv cv).ownBlock ∨ (Value.slice A' (nv + 1) c').ownBlock = some w.heap.size) →
        (∃ u, w'.cell? ⟨g, q * 2 + 1, none⟩ = some u) ∧ w'.frozen? ⟨g, q * 2 + 1, none⟩ = false ∧ AddS w0 (w'.setCell ⟨g, q * 2 + 1, none⟩ (.slice A' (nv + 1) c')) v (hs.set q (x.1, x.2 ++ [y])) (some q) (Value.slice A' (nv + 1) c').ownBlock := by
  obtain ⟨g, c, Av, nv, cv, rfl, hc, hf, ho, hb, hl⟩ := h.at_ hx
  refine ⟨g, c, Av, nv, cv, rfl, hc, by omega, ho, fun A' c' w' hown hgrow hlie => ?_⟩
  rw [hb] at hgrow hlie
  obtain ⟨m1, m2⟩ := h.mid hx hgrow
  exact ⟨m1, m2, h.app hx (by rw [List.map_append]; exact hown) hgrow hlie⟩

/-- The place that is appended to, in the world with the new value's row. -/
theorem add_at {w0 w : World} {hs : HdrL} {ab : Option Nat} {q : Nat} {v : Value} {x : ByteArray × List ByteArray} (h : AddS w0 w v hs (some q) ab) (hx : hs[q]? = some x) (hxl : x.2.length ≤ 1000) (y : ByteArray) (wa : World) (hal : Below w.heap.size w wa) :
    ∃ g c Av nv cv, v = .slice (some ⟨g, 0, none⟩) hs.length c ∧ w.cell? ⟨g, q * 2 + 1, none⟩ = some (.slice Av nv cv) ∧ nv ≤ 1000 ∧ Hid (wa.ownsRow w0.heap.size 9 1 (.slice Av nv cv) nv (x.2.map Value.string)) ∧
      Hid (∀ A' c' w', w'.ownsRow w0.heap.size 9 1 (.slice A' (nv + 1) c') (nv + 1) (x.2.map Value.string ++ [.string y]) → wa.grownBy w' (Value.slice Av nv cv).ownBlock → ((Value.slice A' (nv + 1) c').ownBlock = (Value.slice Av nv cv).ownBlock ∨ (Value.slice A' (nv + 1) c').ownBlock = some wa.heap.size) →
        (∃ u, w'.cell? ⟨g, q * 2 + 1, none⟩ = some u) ∧ w'.frozen? ⟨g, q * 2 + 1, none⟩ = false ∧ AddS w0 (w'.setCell ⟨g, q * 2 + 1, none⟩ (.slice A' (nv + 1) c')) v (hs.set q (x.1, x.2 ++ [y])) (some q) (Value.slice A' (nv + 1) c').ownBlock) := by
  obtain ⟨g, c, Av, nv, cv, rfl, hc, hnv, ho, hk⟩ := add_last (h.later hal) hx hxl y
  exact ⟨g, c, Av, nv, cv, rfl, (hal.cell (p := ⟨g, q * 2 + 1, none⟩) (h.own rfl).2).symm.trans hc, hnv, ho, hk⟩

/-- What add leaves. -/
def AddTo (w0 w' : World) (e : Ending) (hs : HdrL) (q : Nat) : Prop := ∃ v ab, e = .returned v ∧ AddS w0 w' v hs (some q) ab

set_option maxRecDepth 100000 in
set_option maxHeartbeats 4000000 in
theorem add_any (A : Option Addr) (n c : Nat) (p : PairB) (s : StR) (ab : Option Nat) (w0 w : World) (hn : n ≤ 999) (h : AddS w0 w (.slice A n c) s.1 s.2 ab) (hok : okR s p) (hvl : ∀ x ∈ s.1, x.2.length ≤ 999) (hs1 : p.1.size ≤ 2147483647) (hs2 : p.2.size ≤ 2147483647) :
    Calls Tryd.prog 67 #[.slice A n c, .string (cKey p.1), .string p.2] w fun e w' => ∃ q, (stepR s p).2 = some q ∧ AddTo w0 w' e (stepR s p).1 q := by
  obtain ⟨i9, hi9, hb0, hb1, hb2⟩ := info_parts info9
  obtain ⟨hs, act⟩ := s
  have hnl : hs.length = n := by
    obtain ⟨A', c', e⟩ := h.slice
    injection e with _ e _
    exact e.symm
  have HO := Lib.hid h
  have HLn := Lib.hid hnl
  have HOk := Lib.hid hok
  have HVl := Lib.hid hvl
  obtain ⟨q, hq⟩ : ∃ q, posH hs (cKey p.1) = q := ⟨_, rfl⟩
  have hqn : q ≤ n := by have h := posH_le hs (cKey p.1); rw [hq, hnl] at h; exact h
  obtain ⟨kk, hkk⟩ : ∃ kk, cKey p.1 = kk := ⟨_, rfl⟩
  obtain ⟨yy, hyy⟩ : ∃ yy, p.2 = yy := ⟨_, rfl⟩
  have HSt : Hid (stepR (hs, act) p = match hs[q]? with | some x => if x.1 = kk then (hs.set q (x.1, x.2 ++ [yy]), some q) else (insAt hs q (kk, [yy]), some q) | none => (insAt hs q (kk, [yy]), some q)) := by
    show _ = _
    rw [← hq, ← hkk, ← hyy]
    rfl
  have HOq : Hid (∀ x, hs[q]? = some x → x.1 = kk → act = some q) := fun x hx he => by
    rw [← hq, ← hkk] at *
    exact hok x hx he
  rw [hkk] at hq ⊢
  rw [hyy]
  have HQ := Lib.hid hq
  clear h hok hvl hnl hq hkk hyy
  go_enter Tryd.func67, Tryd.ntmps67
  go_wp2_with fail
  go_loop [7] (fun i => ∃ j : Nat, j ≤ q ∧ i = .int .i64 j) (fun i => q - (intOf i).toNat)
  case atStart => exact ⟨0, Nat.zero_le _, rfl⟩
  case round =>
    obtain ⟨j, hj, rfl⟩ := hrel
    by_cases hjq : j < q
    · obtain ⟨y, hy⟩ : ∃ y, hs[j]? = some y := ⟨_, List.getElem?_eq_getElem (by rw [HLn.out]; omega)⟩
      obtain ⟨g, rfl, hc⟩ := HO.out.key HLn.out hy
      have hls : Op.bytesLess y.1.toList kk.toList = true := by
        have h := posH_lt _ kk j y (by rw [HQ.out]; exact hjq) hy
        exact h
      clear hy
      go_wp2_with fail
      go_round
      case rel => exact ⟨j + 1, by omega, by go_num⟩
      case measure => simp [intOf]; omega
    · obtain rfl : j = q := by omega
      have hal := (Below.refl w.heap.size w).alloc (Nat.le_refl _) (.cells #[.string kk, .slice none 0 0] 81)
      have HI := Lib.hid ((HO.out.later hal).ins (i := j) (vb := w.heap.size) (kk := kk) (by rw [HLn.out]; exact hqn) (by rw [HLn.out]; omega) (heap_alloc_new w _) HO.out.ne)
      clear hal
      by_cases hjn : j < n
      · obtain ⟨y, hy⟩ : ∃ y, hs[j]? = some y := ⟨_, List.getElem?_eq_getElem (by rw [HLn.out]; omega)⟩
        obtain ⟨g, rfl, hc⟩ := HO.out.key HLn.out hy
        have hls : Op.bytesLess y.1.toList kk.toList = false := by
          have h := posH_at _ kk y (by rw [HQ.out]; exact hy)
          exact h
        have hjb : ((j : Int) == (n : Int)) = false := by rw [beq_eq_false_iff_ne]; omega
        by_cases hyk : y.1 = kk
        · have hbe : (y.1.toList == kk.toList) = true := by rw [hyk]; exact beq_self_eq_true _
          obtain rfl : act = some j := HOq.out y hy hyk
          obtain ⟨g1, c1, Av, nv, cv, hv1, hc1, hnv, HW, HK⟩ := add_at HO.out hy (Nat.le_trans (HVl.out y (List.mem_of_getElem? hy)) (by omega)) yy (w.alloc (.cells #[.string yy] 9)) ((Below.refl _ w).alloc (Nat.le_refl _) _)
          injection hv1 with hv1 hv2 hv3
          injection hv1 with hv1
          injection hv1 with hv1
          subst hv1 hv3
          have hb0w : w0.heap.size ≤ (w.alloc (.cells #[.string yy] 9)).heap.size := Nat.le_trans HO.out.below.size (by simp)
          have HR : Hid (stepR (hs, some j) p = (hs.set j (y.1, y.2 ++ [yy]), some j)) := by
            show _ = _
            rw [HSt.out, hy]
            dsimp only
            rw [if_pos hyk]
          clear hy HSt HOq HI hv2 hyk
          go_wp2_with (first
            | (at_builtin; refine wpList_append_any _ rfl (.tmp 48) (.tmp 50) 23 rfl w0.heap.size 9 i9 (.string ⟨#[]⟩) 1 16 Tryd.underlying23 hi9 hb0 hb1 hb2 rfl (by decide) _ nv _ rfl HW.out (w.heap.size + 1) (some ⟨w.heap.size, 0, none⟩) 1 1 [.string yy] rfl (by have h := Rd.of_own (World.ownsRow_lit (base := w.heap.size) (e := 9) (size := 1) w #[.string yy] 1 (Nat.le_refl _) (by decide) rfl); simpa using h) (by intro u hu; rw [List.mem_singleton.1 hu]; rfl) (by unfold maxLen; omega) (by omega) hb0w ?_; intro A2 c2 w2 hown2 hgrow2 hlie2; obtain ⟨⟨u2, hc2⟩, hf2, hO2⟩ := HK.out A2 c2 w2 hown2 hgrow2 hlie2; have HO2 := Lib.hid hO2; clear hown2 hgrow2 hlie2 hO2))
          go_ret
          rw [HR.out]
          exact ⟨j, rfl, _, _, rfl, HO2.out⟩
        · have HR : Hid (stepR (hs, act) p = (insAt hs j (kk, [yy]), some j)) := by
            show _ = _
            rw [HSt.out, hy]
            dsimp only
            rw [if_neg hyk]
          have hbe : (y.1.toList == kk.toList) = false := by
            rw [beq_eq_false_iff_ne]
            intro e
            apply hyk
            apply ByteArray.ext
            apply Array.ext'
            rwa [ByteArray.toList_eq, ByteArray.toList_eq] at e
          clear hy HSt HOq hyk
          go_wp2_with fail
          refine HI.out.mono ?_
          rintro e w1 ⟨v1, rfl, hO1⟩
          obtain ⟨g1, c1, Av, nv, cv, rfl, hc1, hnv, HW, HK⟩ := add_at hO1 (ins_at (by rw [HLn.out]; omega) _) (by simp) yy (w1.alloc (.cells #[.string yy] 9)) ((Below.refl _ w1).alloc (Nat.le_refl _) _)
          have hb0w : w0.heap.size ≤ (w1.alloc (.cells #[.string yy] 9)).heap.size := Nat.le_trans hO1.below.size (by simp)
          have HL2 : Hid ((insAt hs j (kk, [])).length = n + 1) := by show _ = _; rw [insAt_len _ _ _ (by rw [HLn.out]; omega), HLn.out]
          have HE : Hid ((insAt hs j (kk, [])).set j (kk, [] ++ [yy]) = insAt hs j (kk, [yy])) := ins_set (by rw [HLn.out]; omega) _ _
          rw [HL2.out] at HK ⊢
          clear hO1 HI
          go_wp2_with (first
            | (at_builtin; refine wpList_append_any _ rfl (.tmp 48) (.tmp 50) 23 rfl w0.heap.size 9 i9 (.string ⟨#[]⟩) 1 16 Tryd.underlying23 hi9 hb0 hb1 hb2 rfl (by decide) _ nv _ rfl HW.out (w1.heap.size + 1) (some ⟨w1.heap.size, 0, none⟩) 1 1 [.string yy] rfl (by have h := Rd.of_own (World.ownsRow_lit (base := w1.heap.size) (e := 9) (size := 1) w1 #[.string yy] 1 (Nat.le_refl _) (by decide) rfl); simpa using h) (by intro u hu; rw [List.mem_singleton.1 hu]; rfl) (by unfold maxLen; omega) (by omega) hb0w ?_; intro A2 c2 w2 hown2 hgrow2 hlie2; obtain ⟨⟨u2, hc2⟩, hf2, hO2⟩ := HK.out A2 c2 w2 hown2 hgrow2 hlie2; have HO2 := Lib.hid hO2; clear hown2 hgrow2 hlie2 hO2))
          go_ret
          rw [HR.out]
          have hO3 := HO2.out
          rw [HE.out] at hO3
          exact ⟨j, rfl, _, _, rfl, hO3⟩
      · obtain rfl : j = n := by omega
        have HR : Hid (stepR (hs, act) p = (insAt hs j (kk, [yy]), some j)) := by
          show _ = _
          rw [HSt.out, List.getElem?_eq_none (by rw [HLn.out]; omega)]
        clear HSt HOq
        go_wp2_with fail
        refine HI.out.mono ?_
        rintro e w1 ⟨v1, rfl, hO1⟩
        obtain ⟨g1, c1, Av, nv, cv, rfl, hc1, hnv, HW, HK⟩ := add_at hO1 (ins_at (by rw [HLn.out]; omega) _) (by simp) yy (w1.alloc (.cells #[.string yy] 9)) ((Below.refl _ w1).alloc (Nat.le_refl _) _)
        have hb0w : w0.heap.size ≤ (w1.alloc (.cells #[.string yy] 9)).heap.size := Nat.le_trans hO1.below.size (by simp)
        have HL2 : Hid ((insAt hs j (kk, [])).length = j + 1) := by show _ = _; rw [insAt_len _ _ _ (by rw [HLn.out]; omega), HLn.out]
        have HE : Hid ((insAt hs j (kk, [])).set j (kk, [] ++ [yy]) = insAt hs j (kk, [yy])) := ins_set (by rw [HLn.out]; omega) _ _
        rw [HL2.out] at HK ⊢
        clear hO1 HI
        go_wp2_with (first
          | (at_builtin; refine wpList_append_any _ rfl (.tmp 48) (.tmp 50) 23 rfl w0.heap.size 9 i9 (.string ⟨#[]⟩) 1 16 Tryd.underlying23 hi9 hb0 hb1 hb2 rfl (by decide) _ nv _ rfl HW.out (w1.heap.size + 1) (some ⟨w1.heap.size, 0, none⟩) 1 1 [.string yy] rfl (by have h := Rd.of_own (World.ownsRow_lit (base := w1.heap.size) (e := 9) (size := 1) w1 #[.string yy] 1 (Nat.le_refl _) (by decide) rfl); simpa using h) (by intro u hu; rw [List.mem_singleton.1 hu]; rfl) (by unfold maxLen; omega) (by omega) hb0w ?_; intro A2 c2 w2 hown2 hgrow2 hlie2; obtain ⟨⟨u2, hc2⟩, hf2, hO2⟩ := HK.out A2 c2 w2 hown2 hgrow2 hlie2; have HO2 := Lib.hid hO2; clear hown2 hgrow2 hlie2 hO2))
        go_ret
        rw [HR.out]
        have hO3 := HO2.out
        rw [HE.out] at hO3
        exact ⟨j, rfl, _, _, rfl, hO3⟩

end Go.Proofs.YtklkgddldndmmaaDoor

/- The text of parts as Parse reads it: behind a delimiter, part by part. -/
namespace Go.Proofs.YtklkgddldndmmaaDoor
open Go.RowKit
set_option linter.unusedVariables false
set_option linter.unusedSimpArgs false

/-- What stands behind a delimiter's own bytes, ahead of a part. -/
def headTo (p : PartL) (t : List UInt8) : List UInt8 := headT p.1 ++ ([13, 10] ++ t)
def bodyTo (bd : List UInt8) (p : PartL) (t : List UInt8) : List UInt8 := p.2 ++ (13 :: 10 :: 45 :: 45 :: bd) ++ t
def tailT (bd : List UInt8) : PartL → List PartL → List UInt8
  | p, [] => headTo p (bodyTo bd p [45, 45, 13, 10])
  | p, q :: r => headTo p (bodyTo bd p ([13, 10] ++ tailT bd q r))
theorem from_tail (bd : List UInt8) : ∀ (r : List PartL) (p : PartL) (k : Nat), bodyFrom bd k (p :: r) ++ closeT bd = sepT k ++ delimT bd ++ tailT bd p r
  | [], p, k => by simp [bodyFrom, tailT, headTo, bodyTo, closeT, partT, crlf, dashes]
  | q :: r, p, k => by
    have ih := from_tail bd r q (k + 1)
    have e : bodyFrom bd k (p :: q :: r) = sepT k ++ delimT bd ++ partT p ++ bodyFrom bd (k + 1) (q :: r) := rfl
    rw [e, List.append_assoc, ih]
    simp [tailT, headTo, bodyTo, partT, sepT, delimT, crlf, dashes]
theorem write_tail (bd : List UInt8) (p : PartL) (r : List PartL) : writeT bd (p :: r) = ([45, 45] ++ bd) ++ [13, 10] ++ tailT bd p r := by
  unfold writeT bodyT
  rw [from_tail]
  simp [sepT, delimT, crlf, dashes]
theorem body_take (bd : List UInt8) (p : PartL) (t : List UInt8) : (bodyTo bd p t).take p.2.length = p.2 ∧ (bodyTo bd p t).drop (p.2.length + 2) = ([45, 45] ++ bd) ++ t := by
  unfold bodyTo
  constructor
  · rw [List.append_assoc, List.take_left]
  · rw [List.append_assoc, List.drop_append, List.drop_of_length_le (by omega), show p.2.length + 2 - p.2.length = 2 by omega]
    rfl
theorem row_take (a t : List UInt8) : (a ++ [13, 10] ++ t).take a.length = a ∧ (a ++ [13, 10] ++ t).drop (a.length + 2) = t := by
  constructor
  · rw [List.append_assoc, List.take_left]
  · rw [List.append_assoc, List.drop_append, List.drop_of_length_le (by omega), show a.length + 2 - a.length = 2 by omega]
    rfl
theorem pairsT_cons (p : PairB) (r : List PairB) (t : List UInt8) : pairsT (p :: r) ++ t = rowT p.1.data.toList p.2.data.toList ++ [13, 10] ++ (pairsT r ++ t) := by
  unfold pairsT
  rw [List.flatMap_cons]
  simp
/-- The strings of a line. -/
theorem row_str (k v : ByteArray) : ∃ s : ByteArray, (⟨(rowT k.data.toList v.data.toList).toArray⟩ : ByteArray) = s ∧ s.data.toList = rowT k.data.toList v.data.toList ∧ s.size = k.size + 2 + v.size ∧ s.extract 0 k.size = k ∧ s.extract (k.size + 2) s.size = v ∧ s ≠ ⟨#[]⟩ := by
  refine ⟨_, rfl, by simp, ?_, ?_, ?_, ?_⟩
  · rw [size_list (rowT k.data.toList v.data.toList), rowT_len, len_data, len_data]
  · apply ByteArray.ext
    rw [ByteArray.data_extract]
    apply Array.ext'
    simp [rowT, List.append_assoc]
  · apply ByteArray.ext
    rw [ByteArray.data_extract, size_list (rowT k.data.toList v.data.toList), rowT_len]
    apply Array.ext'
    simp only [Array.toList_extract, List.extract, len_data, rowT]
    rw [List.append_assoc, List.drop_append, List.drop_of_length_le (by rw [len_data]; omega), len_data, show k.size + 2 - k.size = 2 by omega]
    simp only [colon, List.nil_append, List.cons_append, List.drop_succ_cons, List.drop_zero]
    exact List.take_of_length_le (by rw [len_data]; omega)
  · intro e
    have := congrArg ByteArray.size e
    rw [size_list (rowT k.data.toList v.data.toList), rowT_len] at this
    have h0 : (⟨#[]⟩ : ByteArray).size = 0 := rfl
    omega
theorem delim_str (bd : ByteArray) : (⟨([45, 45] ++ bd.data.toList).toArray⟩ : ByteArray) = ⟨#[45, 45]⟩ ++ bd := by
  apply ByteArray.ext
  apply Array.ext'
  rw [app_data]
theorem close_str (bd : ByteArray) : (⟨([45, 45] ++ bd.data.toList ++ [45, 45]).toArray⟩ : ByteArray) = ⟨#[45, 45]⟩ ++ bd ++ ⟨#[45, 45]⟩ := by
  apply ByteArray.ext
  apply Array.ext'
  rw [app_data, app_data]

end Go.Proofs.YtklkgddldndmmaaDoor

/- The walk of spec.head over the text of a header. -/
namespace Go.Proofs.YtklkgddldndmmaaDoor
open Go.RowKit
set_option linter.unusedVariables false
set_option linter.unusedSimpArgs false

theorem Rd.back {w w' : World} {B size n : Nat} {A : Option Addr} {xs : List Value} (h : Rd w' B size A n xs) (hb : Below B w w') : Rd w B size A n xs :=
  ⟨h.1, fun hn => by
    obtain ⟨b, o, e, hlt, hc⟩ := h.2 hn
    exact ⟨b, o, e, hlt, fun j u hu => (hb.cell (p := ⟨b, o + j, none⟩) hlt).symm.trans (hc j u hu)⟩⟩
theorem stepR_vals {s : StR} {p : PairB} {k : Nat} (h : ∀ x ∈ s.1, x.2.length ≤ k) : ∀ x ∈ (stepR s p).1, x.2.length ≤ k + 1 := by
  intro x hx
  have hins : x ∈ insAt s.1 (posH s.1 (cKey p.1)) (cKey p.1, [p.2]) → x.2.length ≤ k + 1 := fun hx => by
    unfold insAt at hx
    rcases List.mem_append.1 hx with hx | hx
    · rcases List.mem_append.1 hx with hx | hx
      · have := h x (List.mem_of_mem_take hx); omega
      · rw [List.mem_singleton.1 hx]; simp
    · have := h x (List.mem_of_mem_drop hx); omega
  unfold stepR at hx
  split at hx
  · next y hy =>
    split at hx
    · rcases List.mem_or_eq_of_mem_set hx with hx | rfl
      · have := h x hx; omega
      · have := h y (List.mem_of_getElem? hy)
        simp
        omega
    · exact hins hx
  · exact hins hx

theorem colon_rd (w : World) : RdB (w.alloc (.cells #[.int .u8 58, .int .u8 32] 5 (2, 3))) (w.heap.size + 1) (some ⟨w.heap.size, 0, none⟩) 2 [58, 32] :=
  ⟨rfl, fun _ => ⟨w.heap.size, 0, rfl, by simp, fun j u hu => by
    rw [Nat.zero_add, Lib.cell_of_heap (heap_alloc_new w _)]
    simpa [Lib.byteCells] using hu⟩⟩

/-- What holds at the head of head's loop. -/
structure RdrI (w wr : World) (B : Nat) (A : Option Addr) (m c : Nat) (v : Value) (k : Nat) (tail : List UInt8) (fin : HdrL) (r : List PairB) (st : StR) (ab : Option Nat) : Prop where
  cap : m ≤ c ∧ m ≤ 140737488000000
  src : RdB w B A m (pairsT r ++ ([13, 10] ++ tail))
  out : AddS w wr v st.1 st.2 ab
  run : runOk st r
  fin : (r.foldl stepR st).1 = fin
  cnt : k + r.length ≤ 100
  ok : ∀ p ∈ r, OkP p
  few : st.1.length ≤ k ∧ ∀ x ∈ st.1, x.2.length ≤ k
theorem RdrI.next {w wr w' : World} {B m c k m' c' : Nat} {A A' : Option Addr} {v v' : Value} {tail : List UInt8} {fin : HdrL} {p : PairB} {r : List PairB} {st : StR} {ab ab' : Option Nat} (h : RdrI w wr B A m c v k tail fin (p :: r) st ab)
    (hc : m' ≤ c' ∧ m' ≤ 140737488000000) (hr : RdB w B A' m' (pairsT r ++ ([13, 10] ++ tail))) (ho : AddS w w' v' (stepR st p).1 (stepR st p).2 ab') : RdrI w w' B A' m' c' v' (k + 1) tail fin r (stepR st p) ab' :=
  ⟨hc, hr, ho, h.run.2, h.fin, by have := h.cnt; simp only [List.length_cons] at this; omega, fun q hq => h.ok q (List.mem_cons_of_mem _ hq), by have h1 := stepR_len st p; have h2 := h.few.1; omega, stepR_vals h.few.2⟩
/-- Behind a call of add. -/
def StepTo (w : World) (v : Value) (wx : World) (st : StR) (p : PairB) : Prop := ∃ ab, AddS w wx v (stepR st p).1 (stepR st p).2 ab

set_option maxRecDepth 100000 in
set_option maxHeartbeats 1000000 in
theorem headR_any (A : Option Addr) (n c B : Nat) (hs : HdrL) (tail : List UInt8) (w : World) (hnc : n ≤ c) (hn : n ≤ 140737488000000) (hB : B ≤ w.heap.size) (hg : HeadOk hs) (hr : RdB w B A n (headTo (hs, []) tail)) :
    Calls Tryd.prog 47 #[.slice A n c] w fun e w' => ∃ v A' m c', e = .returned (.tuple #[v, .slice A' m c', .bool true]) ∧ RdB w B A' m tail ∧ m ≤ c' ∧ m ≤ 140737488000000 ∧ ∃ act ab, AddS w w' v (canonH hs) act ab := by
  have HI0 := Lib.hid (show RdrI w w B A n c (.slice none 0 0) 0 tail (canonH hs) (pairsH hs) ([], none) none from
    ⟨⟨hnc, hn⟩, by rw [pairsT_head]; exact hr, AddS.nil w, hg.run.1, hg.run.2, by have := hg.pairs.2; omega, hg.pairs.1, Nat.le_refl _, fun x hx => by simp at hx⟩)
  have HB := Lib.hid hB
  clear hnc hn hB hr
  go_enter Tryd.func47, Tryd.ntmps47
  go_wp2_with fail
  go_loopw [0, 5, 6] (fun src v i wr => ∃ A m c k r st ab, src = .slice A m c ∧ i = .int .i64 (k : Nat) ∧ k ≤ 100 ∧ Hid (RdrI w wr B A m c v k tail (canonH hs) r st ab)) (fun _ _ i _ => 101 - (intOf i).toNat)
  case atStart => exact ⟨A, n, c, 0, _, _, _, rfl, rfl, by omega, HI0⟩
  case round =>
    obtain ⟨A, m, c, k, r, st, ab, rfl, rfl, hk, HI⟩ := hrel
    obtain ⟨hmc, hm⟩ := HI.out.cap
    have hbw : Below B w wr := HI.out.out.below.mono HB.out
    have HBr : Hid (B ≤ wr.heap.size) := Nat.le_trans HB.out HI.out.out.below.size
    have hk2 : ¬ (100 : Int) < (k : Int) := by omega
    cases r with
    | nil =>
      have HLn := Lib.hid (line_any A m c B 0 ([13, 10] ++ tail) wr hmc (by omega) HBr.out (HI.out.src.below hbw) (none_end tail) (by have h := HI.out.src.len; simp [pairsT] at h; omega))
      clear hbw
      go_wp2_with fail
      refine HLn.out.mono ?_
      rintro e w1 ⟨A1, c1, rfl, hr1, hc1, hb1⟩
      have hs0 : (⟨(([13, 10] ++ tail).take 0).toArray⟩ : ByteArray) = ⟨#[]⟩ := rfl
      rw [hs0]
      have HO := Lib.hid (HI.out.out.later hb1)
      have HR := Lib.hid (Rd.back (hr1) (HO.out.below.mono HB.out))
      clear hr1 hb1 hs0
      go_wp2_with fail
      go_ret3
      exact ⟨_, _, _, _, rfl, HR.out, hc1, by omega, st.2, ab, HI.out.fin ▸ HO.out⟩
    | cons p r =>
      have ho := HI.out.ok p List.mem_cons_self
      obtain ⟨sx, hsx, hsd, hsz, he1, he2, hne⟩ := row_str p.1 p.2
      have hsrc := HI.out.src
      rw [pairsT_cons] at hsrc
      have hln := line_any A m c B (rowT p.1.data.toList p.2.data.toList).length _ wr hmc (by omega) HBr.out (hsrc.below hbw) (rowT_end ho.key ho.val _) (by have h := hsrc.len; rw [List.length_append, List.length_append] at h; simp only [List.length_cons, List.length_nil] at h; omega)
      rw [(row_take _ _).1, (row_take _ _).2, hsx, rowT_len, len_data, len_data] at hln
      have hlen := ho.len
      have h998 : ¬ (998 : Int) < (sx.size : Int) := by omega
      have HKy := Lib.hid (fun w : World => key_b (s := p.1) (w := w) true (by omega) ho.key)
      have HPl := Lib.hid (fun w : World => plain_b (s := p.2) (w := w) true (by omega) ho.val)
      have hsi : Lib.index sx.data.toList [58, 32] = ((p.1.size : Nat) : Int) := by rw [hsd, rowT_key ho.key, len_data]
      have hse : sx.toList.isEmpty = false := by
        rw [ByteArray.toList_eq, List.isEmpty_eq_false_iff]
        intro e
        have h := congrArg List.length e
        rw [len_data] at h
        simp only [List.length_nil] at h
        omega
      have HIx := Lib.hid hsi
      have HSz := Lib.hid hsz
      have hsx2 : sx.size ≤ 998 := by omega
      have h0 : ¬ ((p.1.size : Nat) : Int) < 0 := by omega
      have h1 : ((p.1.size : Nat) : Int) ≤ (sx.size : Int) := by omega
      have h2 : ((p.1.size : Nat) : Int) + 2 ≤ (sx.size : Int) := by omega
      have hp1 : p.1.size ≤ 998 := by omega
      have hlenm : p.1.size + 2 + p.2.size ≤ m := by have h := hsrc.len; rw [List.length_append, List.length_append, rowT_len, len_data, len_data] at h; simp only [List.length_cons, List.length_nil] at h; omega
      rw [← hsz] at hln hlenm
      have HLn := Lib.hid hln
      have HLm := Lib.hid hlenm
      clear hbw hsrc hsx hsd ho hln hne hsi hsz hlen hlenm
      go_wp2_with fail
      refine HLn.out.mono ?_
      rintro e w1 ⟨A1, c1, rfl, hr1, hd1, hb1⟩
      have HO := Lib.hid (HI.out.out.later hb1)
      have HR := Lib.hid (Rd.back (hr1) (HO.out.below.mono HB.out))
      have kc := fun (w : World) (C : Array Value) (n c : Nat) => Lib.run_convert_bytes_const (P := Tryd.prog) w 31 5 C n c Tryd.underlying31 Tryd.underlying5
      clear hr1 hb1 HLn
      go_wp2_with (refine wpList_conv_any _ rfl (.tmp 35) 9 31 5 rfl Tryd.underlying9 Tryd.underlying31 Tryd.underlying5 _ rfl ?_; intro A2 c2 w2 hr2 hc2 hb2)
      have hal := (Below.refl w2.heap.size w2).alloc (Nat.le_refl _) (.cells #[.int .u8 58, .int .u8 32] 5 (2, 3))
      have HO2 := Lib.hid ((HO.out.later hb2).later hal)
      refine (fi_b (d := 2) ((p.1.size : Nat) : Int) hc2 (by omega) (by omega) (by omega) ((hr2.below hal).more (Nat.le_succ _)) (colon_rd w2) HIx.out).mono ?_
      rintro e w3 ⟨rfl, rfl⟩
      clear hr2 hb2 hal HO
      go_wp2_with fail
      refine (HKy.out _).mono ?_
      rintro e w3 ⟨rfl, rfl⟩
      go_wp2_with fail
      refine (HPl.out _).mono ?_
      rintro e w3 ⟨rfl, rfl⟩
      go_wp2_with fail
      have h00 : (0 : Int) ≤ ((p.1.size : Nat) : Int) := by omega
      have h3 : (0 : Int) ≤ ((p.1.size : Nat) : Int) + 2 := by omega
      have hw1 : IntKind.i64.wrap (((p.1.size : Nat) : Int) + 2) = ((p.1.size : Nat) : Int) + 2 := by rw [IntKind.wrap_i64]; omega
      have htn : (((p.1.size : Nat) : Int) + 2).toNat = p.1.size + 2 := by omega
      obtain ⟨wb, hwb⟩ : ∃ y, y = w2.alloc (.cells #[.int .u8 58, .int .u8 32] 5 (2, 3)) := ⟨_, rfl⟩
      rw [← hwb] at HO2 ⊢
      obtain ⟨A5, c5, h5⟩ := HO2.out.slice
      subst h5
      have hst : st.1.length ≤ 999 := by have h := HI.out.few.1; omega
      have HC := Lib.hid (fun (W : World) (hW : Below wb.heap.size wb W) => (canon_any p.1 W (by omega)).mono fun e w' h => (show e = .returned (.string (cKey p.1)) ∧ Below wb.heap.size wb w' from ⟨h.1, hW.trans (h.2.mono hW.size)⟩))
      have HAd := Lib.hid (fun (W : World) (hW : Below wb.heap.size wb W) => (add_any A5 st.1.length c5 p st ab w W hst (HO2.out.later hW) HI.out.run.1 (fun x hx => Nat.le_trans (HI.out.few.2 x hx) (by omega)) (by omega) (by have h := HSz.out; omega)).mono fun e w' h => (show ∃ v, e = .returned v ∧ StepTo w v w' st p from by
        obtain ⟨q, _, v, ab', he, ho⟩ := h
        have hq : (stepR st p).2 = some q := by assumption
        exact ⟨v, he, ab', hq ▸ ho⟩))
      clear hwb HKy HPl
      go_region_with (first
        | (go_simp; go_at_call 60; go_must (refine (HC.out _ ?_).mono ?_; (repeat (first | assumption | exact Below.refl _ _ | refine Below.drew ?_)); rintro e w' ⟨rfl, hb'⟩))
        | (go_simp; go_at_call 67; go_must (refine (HAd.out _ ?_).mono ?_; (repeat (first | assumption | exact Below.refl _ _ | refine Below.drew ?_)); rintro e w'' ⟨v, rfl, hS⟩)))
      all_goals
        obtain ⟨ab', hS⟩ := hS
        have HN := Lib.hid (HI.out.next ⟨hd1, by omega⟩ HR.out hS)
        clear hS
        go_wp2_with fail
        go_roundw
        case rel => exact ⟨_, _, _, k + 1, r, _, _, rfl, by go_num, by have h := HI.out.cnt; simp only [List.length_cons] at h; omega, HN⟩
        case measure => simp [intOf]; omega

end Go.Proofs.YtklkgddldndmmaaDoor
