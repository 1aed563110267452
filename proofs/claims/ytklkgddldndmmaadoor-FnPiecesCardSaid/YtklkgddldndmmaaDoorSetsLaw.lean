/- The walk of the law FnSets. -/
import Derived.Test.YtklkgddldndmmaaDoorBoundary
import Derived.SliceStrings
namespace Go.Proofs.YtklkgddldndmmaaDoor
open Go.RowKit
set_option linter.unusedVariables false
set_option linter.unusedSimpArgs false

/-- A []string that came in: the strings that it reads as. -/
theorem open_names {H : Type} {enc : TypeId × Value → H} {P : Program} {W : World} {T E : TypeId} {a : Option Addr} {len cap : Nat} {d : DataW H} {p : List MemPlace} (ht : P.underlying T = some (.slice E)) (he : P.underlying E = some .string) (hc : P.cellsOf E = 1)
    (h : DataW.Trod enc P W 0 (fun _ => true) true T (.slice a len cap) d p) : ∃ ss : List ByteArray, ss.length = len ∧ Rd W W.heap.size 1 a len (ss.map Value.string) ∧ len ≤ maxLen := by
  obtain ⟨fuel, hf⟩ := h
  rcases ChangeShapes.open_strings ht he hc hf with ⟨hcs, _⟩ | ⟨x, l, c, ss, hcs, _, hl, hm, hz, _, hcell, _⟩
  · simp [Value.cells] at hcs
    obtain ⟨rfl, rfl, rfl⟩ := hcs
    exact ⟨[], rfl, Rd.none_, Nat.zero_le _⟩
  · simp [Value.cells] at hcs
    obtain ⟨rfl, rfl, rfl⟩ := hcs
    have hz' : ss.length = cap := by simpa using hz
    refine ⟨ss.take len, by simp; omega, ?_, by omega⟩
    refine Rd.of_cells (by simp; omega) (by decide) (fun hn => ?_) (fun j u hu => ?_)
    · have h0 := hcell 0 (by omega)
      rw [add_zero] at h0
      rcases Nat.lt_or_ge x.block W.heap.size with h' | h'
      · exact h'
      · simp [World.cell?, Array.getElem?_eq_none h'] at h0
    · have hj : j < len := by
        have := (List.getElem?_eq_some_iff.1 hu).1
        simp at this
        omega
      rw [hcell j (by omega)]
      simp [hj, show j < ss.length by omega] at hu
      rw [← hu]
      simp [List.getD, show j < ss.length by omega]

def fitsB (ss : List ByteArray) : Bool := decide (ss.length ≤ 2147483647) && ss.all fun s => decide (s.size ≤ 2147483647)
def smallS (ss : List ByteArray) (m : Nat) : Bool := ss.all fun s => decide (s.size ≤ m)
theorem smallS_snoc (ss : List ByteArray) (s : ByteArray) (m : Nat) : smallS (ss ++ [s]) m = (smallS ss m && decide (s.size ≤ m)) := by simp [smallS]
theorem smallS_head (ss : List ByteArray) (k m : Nat) (h : smallS (ss.take k) m = false) : smallS ss m = false := by
  rw [← List.take_append_drop k ss]
  unfold smallS at h ⊢
  rw [List.all_append, h, Bool.false_and]
def briefB (ss : List ByteArray) : Bool := smallS ss 16777216 && decide (ss.length ≤ 65536)

/-- It ended with a Bool. -/
def IsBool (e : Ending) : Prop := ∃ x, e = .returned (.bool x)

set_option maxHeartbeats 1000000 in
theorem fits_any (A : Option Addr) (n c B : Nat) (ss : List ByteArray) (w : World) (hn : n ≤ 9223372036854775807) (hr : Rd w B 1 A n (ss.map Value.string)) :
    Calls Tryd.prog 12 #[.slice A n c] w fun e w' => IsBool e ∧ w = w' := by
  have hl : ss.length = n := by have := hr.1; simpa using this
  by_cases h1 : n ≤ 2147483647
  · have HR := Lib.hid hr
    clear hr
    go_enter Tryd.func12, Tryd.ntmps12
    go_wp2
    go_loop [10] (fun i => ∃ k : Nat, k ≤ n ∧ i = .int .i64 k) (fun i => n - (intOf i).toNat)
    case atStart => exact ⟨0, Nat.zero_le _, rfl⟩
    case round =>
      obtain ⟨k, hk, rfl⟩ := hrel
      by_cases hlt : k < n
      · obtain ⟨b, o, rfl, hb, hc⟩ := HR.out.2 (by omega)
        have ck : w.cell? ⟨b, o + k, none⟩ = some (.string (ss[k]'(by omega))) := hc k _ (by simp [hl, hlt])
        obtain ⟨s, hs⟩ : ∃ s, ss[k]'(by omega) = s := ⟨_, rfl⟩
        rw [hs] at ck
        clear hc hs
        by_cases h2 : s.size ≤ 2147483647
        · go_wp2
          go_round
          case rel => exact ⟨k + 1, by omega, by go_num⟩
          case measure => simp [intOf]; omega
        · go_wp2
          go_ret
          exact ⟨⟨_, rfl⟩, rfl⟩
      · go_wp2
        go_ret
        exact ⟨⟨_, rfl⟩, rfl⟩
  · clear hr
    go_enter Tryd.func12, Tryd.ntmps12
    go_wp2
    go_ret
    exact ⟨⟨_, rfl⟩, rfl⟩

set_option maxHeartbeats 1000000 in
theorem brief_any (A : Option Addr) (n c B : Nat) (ss : List ByteArray) (w : World) (hn : n ≤ 9223372036854775807) (hr : Rd w B 1 A n (ss.map Value.string)) :
    Calls Tryd.prog 13 #[.slice A n c] w fun e w' => e = .returned (.bool (briefB ss)) ∧ w = w' := by
  have hl : ss.length = n := by have := hr.1; simpa using this
  have HR := Lib.hid hr
  clear hr
  go_enter Tryd.func13, Tryd.ntmps13
  go_wp2
  go_loop [7] (fun i => ∃ k : Nat, k ≤ n ∧ i = .int .i64 k ∧ Hid (smallS (ss.take k) 16777216 = true)) (fun i => n - (intOf i).toNat)
  case atStart => exact ⟨0, Nat.zero_le _, rfl, rfl⟩
  case round =>
    obtain ⟨k, hk, rfl, HP⟩ := hrel
    by_cases hlt : k < n
    · obtain ⟨b, o, rfl, hb, hc⟩ := HR.out.2 (by omega)
      have ck : w.cell? ⟨b, o + k, none⟩ = some (.string (ss[k]'(by omega))) := hc k _ (by simp [hl, hlt])
      have HS : Hid (smallS (ss.take (k + 1)) 16777216 = decide ((ss[k]'(by omega)).size ≤ 16777216)) := by show _ = _; rw [take_snocB ss k (by omega), smallS_snoc, HP.out, Bool.true_and]
      obtain ⟨s, hs⟩ : ∃ s, ss[k]'(by omega) = s := ⟨_, rfl⟩
      rw [hs] at ck HS
      clear hc hs
      by_cases h2 : s.size ≤ 16777216
      · have HN : Hid (smallS (ss.take (k + 1)) 16777216 = true) := by show _ = _; rw [HS.out]; simpa using h2
        go_wp2
        go_round
        case rel => exact ⟨k + 1, by omega, by go_num, HN⟩
        case measure => simp [intOf]; omega
      · have HN : Hid (briefB ss = false) := by
          show _ = _
          unfold briefB
          rw [smallS_head ss (k + 1) _ (by rw [HS.out]; simpa using h2)]
          rfl
        go_wp2
        go_ret
        exact ⟨ret_bool HN.out.symm, rfl⟩
    · have HN : Hid (briefB ss = decide (n ≤ 65536)) := by
        have := HP.out
        rw [List.take_of_length_le (by omega)] at this
        show _ = _
        unfold briefB
        rw [this, hl, Bool.true_and]
      go_wp2
      go_ret
      refine ⟨ret_bool ?_, rfl⟩
      rw [HN.out]
      simp <;> omega

set_option maxRecDepth 20000 in
set_option maxHeartbeats 4000000 in
theorem xsets (A : Option Addr) (n c : Nat) (ss : List ByteArray) (w : World) (hl : ss.length = n) (hn : n ≤ maxLen) (hr : Rd w w.heap.size 1 A n (ss.map Value.string)) :
    Calls Tryd.prog 4 #[.slice A n c] w fun e w' => e = .returned (.bool true) ∧ Below w.heap.size w w' := by
  subst hl
  unfold maxLen at hn
  have HR := Lib.hid hr
  have HF := Lib.hid (fits_any A ss.length c w.heap.size ss w (by omega) hr)
  have HBr := Lib.hid (brief_any A ss.length c w.heap.size ss w (by omega) hr)
  clear hr
  by_cases hb : briefB ss = true
  · have hb2 := hb
    unfold briefB at hb2
    simp only [Bool.and_eq_true, decide_eq_true_eq] at hb2
    have hlen := hb2.2
    have hsm := Lib.hid hb2.1
    rw [hb] at HBr
    have HS := Lib.hid (sets_any A c ss w hlen HR.out)
    clear hb hb2
    go_enter Tryd.func4, Tryd.ntmps4
    go_wp2_with fail
    refine HF.out.mono ?_
    rintro e w1 ⟨⟨x, rfl⟩, rfl⟩
    cases x
    · go_wp2
      go_ret
      exact ⟨rfl, Below.refl _ _⟩
    · go_wp2_with fail
      refine HBr.out.mono ?_
      rintro e w1 ⟨rfl, rfl⟩
      go_wp2_with fail
      refine HS.out.mono ?_
      rintro e w2 ⟨vf, vn, rfl, hf, hnm, hbl⟩
      have HO := Lib.hid (And.intro hf hnm)
      have HBl := Lib.hid hbl
      obtain ⟨Af, cf, rfl⟩ := own_slice hf
      obtain ⟨An, cn, rfl⟩ := own_slice hnm
      clear hf hnm hbl HS HF HBr
      go_wp2_with fail
      go_loopw [37] (fun i w' => ∃ k q : Nat, k ≤ ss.length ∧ i = .int .i64 k ∧ w' = w2.drewN q) (fun i _ => ss.length - (intOf i).toNat)
      case atStart => exact ⟨0, 0, Nat.zero_le _, rfl, rfl⟩
      case round =>
        obtain ⟨k, q, hk, rfl, rfl⟩ := hrel
        by_cases hlt : k < ss.length
        · obtain ⟨b', o', rfl, hb', hcell⟩ := HR.out.2 (by omega)
          have ck : w2.cell? ⟨b', o' + k, none⟩ = some (.string ss[k]) := (HBl.out.cell (p := ⟨b', o' + k, none⟩) hb').trans (hcell k _ (by simp [hlt]))
          obtain ⟨gf, cf', hvf, cellf⟩ := own_first HO.out.1 k (u := .bool (boundB ss[k].data.toList)) (by simp [fineL, hlt])
          obtain ⟨gn, cn', hvn, celln⟩ := own_first HO.out.2 k (u := .string (curB (ss.take (k + 1)))) (by simp [namesL, hlt])
          have hsz : ss[k].size ≤ 2147483647 := by
            have h1 := hsm.out
            unfold smallS at h1
            simp only [List.all_eq_true, decide_eq_true_eq] at h1
            have := h1 ss[k] (List.getElem_mem _)
            omega
          have hcur : curB (ss.take (k + 1)) = if boundB ss[k].data.toList = true then ss[k] else curB (ss.take k) := by rw [take_snocB ss k hlt, curB_snoc]
          have hprev : 0 < k → ∃ c2, w2.cell? ⟨gn, k - 1, none⟩ = some (.string (curB (ss.take k))) ∧ c2 = 0 := by
            intro h0
            obtain ⟨gn2, cn2, hvn2, celln2⟩ := own_first HO.out.2 (k - 1) (u := .string (curB (ss.take k))) (by
              simp [namesL, show k - 1 < ss.length by omega]
              rw [show k - 1 + 1 = k by omega])
            rw [hvn] at hvn2
            injection hvn2 with h2 _ _
            injection h2 with h2
            injection h2 with h2 _ _
            subst h2
            exact ⟨0, celln2, rfl⟩
          obtain ⟨ok, hok⟩ : ∃ ok, boundB ss[k].data.toList = ok := ⟨_, rfl⟩
          have HB := Lib.hid (bound_q ss[k] hsz ok hok)
          rw [hcur] at celln
          rw [hok] at cellf celln
          obtain ⟨s, hs⟩ : ∃ s, ss[k] = s := ⟨_, rfl⟩
          rw [hs] at ck HB celln
          injection hvf with hA hc _
          injection hvn with hA2 hc2 _
          subst hA
          subst hA2
          obtain ⟨w3, hw3⟩ : ∃ x, x = w2.drewN q := ⟨_, rfl⟩
          rw [← hw3]
          have e0 : w3.cell? ⟨b', o' + k, none⟩ = some (.string s) := by rw [hw3]; exact ck
          have ef : ∀ m, (w3.drewN m).cell? ⟨gf, k, none⟩ = some (.bool ok) := fun m => by rw [hw3]; exact cellf
          have HP : Hid (0 < k → ∀ m, (w3.drewN m).cell? ⟨gn, k - 1, none⟩ = some (.string (curB (ss.take k)))) := fun h0 m => by
            obtain ⟨_, h, _⟩ := hprev h0
            rw [hw3]
            exact h
          have HW := Lib.hid hw3
          have hki : (k : Int) < (ss.length : Int) := by omega
          clear hcell hb' hcur hprev hok cellf ck hs hc hc2 hsz
          cases ok
          · have en : ∀ m, (w3.drewN m).cell? ⟨gn, k, none⟩ = some (.string (curB (ss.take k))) := fun m => by rw [hw3]; exact celln
            clear celln hw3
            rcases Nat.eq_zero_or_pos k with h0 | h0
            · subst h0
              rw [Nat.add_zero] at e0
              have hki0 : (0 : Int) < (ss.length : Int) := by omega
              go_wp2_with fail
              go_quiet ((go_at_call 11; refine Calls.quiet_of_same (HB.out _)))
              go_wp2
              go_roundw
              case rel => exact ⟨1, q + nq, by omega, by go_num, by rw [HW.out, World.drewN_drewN]⟩
              case measure => simp [intOf]; omega
            · have ep := HP.out h0
              have h0' : (0 : Int) < (k : Int) := by omega
              have hd0 : decide ((0 : Int) < (k : Int)) = true := by simpa using h0'
              have hk1 : (k : Int) - 1 < (ss.length : Int) := by omega
              have hk2 : (0 : Int) ≤ (k : Int) - 1 := by omega
              have hk3 : ((k : Int) - 1).toNat = k - 1 := by omega
              go_wp2_with fail
              go_quiet ((go_at_call 11; refine Calls.quiet_of_same (HB.out _)))
              go_wp2
              go_roundw
              case rel => exact ⟨k + 1, q + nq, by omega, by go_num, by rw [HW.out, World.drewN_drewN]⟩
              case measure => simp [intOf]; omega
          · have en : ∀ m, (w3.drewN m).cell? ⟨gn, k, none⟩ = some (.string s) := fun m => by rw [hw3]; exact celln
            clear celln hw3
            go_wp2_with fail
            go_quiet ((go_at_call 11; refine Calls.quiet_of_same (HB.out _)))
            go_wp2
            go_roundw
            case rel => exact ⟨k + 1, q + nq, by omega, by go_num, by rw [HW.out, World.drewN_drewN]⟩
            case measure => simp [intOf]; omega
        · go_wp2
          go_ret
          exact ⟨rfl, HBl.out.trans (below_drewN (Below.refl _ _) _)⟩
  · have hb' : briefB ss = false := by simpa using hb
    rw [hb'] at HBr
    clear hb hb'
    go_enter Tryd.func4, Tryd.ntmps4
    go_wp2_with fail
    refine HF.out.mono ?_
    rintro e w1 ⟨⟨x, rfl⟩, rfl⟩
    cases x
    · go_wp2
      go_ret
      exact ⟨rfl, Below.refl _ _⟩
    · go_wp2_with fail
      refine HBr.out.mono ?_
      rintro e w1 ⟨rfl, rfl⟩
      go_wp2
      go_ret
      exact ⟨rfl, Below.refl _ _⟩

end Go.Proofs.YtklkgddldndmmaaDoor
