/- Texts of the proof, joined: SetsLaw, Open, OpenArgs. -/
import Derived.Test.YtklkgddldndmmaaDoorM08
import Derived.SliceStrings
import Derived.Test.YtklkgddldndmmaaDoorM09
import Derived.Test.YtklkgddldndmmaaDoorM16
import Derived.Deep.Slices
import Derived.Deep.Fields
import Derived.ChangeSame
import Derived.Test.YtklkgddldndmmaaDoorM10
/- The walk of the law FnSets. -/
namespace Go.Proofs.YtklkgddldndmmaaDoor
open Go.RowKit
set_option linter.unusedVariables false
set_option linter.unusedSimpArgs false

/-- A []string that came in: the strings that it reads as. -/
theorem open_names {H : Type} {enc : TypeId × Value → H} {P : Program} {W : World} {T E : TypeId} {a : Option Addr} {len cap : Nat} {d : DataW H} {p : List MemPlace} (ht : P.underlying T = some (.slice E)) (he : P.underlying E = some .string) (hc : P.cellsOf E = 1)
    (h : DataW.Trod enc P W 0 (fun _ => true) true T (.slice a len cap) d p) : ∃ ss : List ByteArray, ss.length = len ∧ Rd W W.heap.size 1 a len (ss.map Value.string) ∧ len ≤ maxLen := by
  obtain ⟨fuel, hf⟩ := h
  rcases ChangeShapes.open_strings ht he hc hf with ⟨hcs, _⟩ | ⟨x, l, c, ss, hcs, _, hl, hm, hz, _, hcell, _⟩
  · simp [Value.cells] at hcs
    obtain ⟨rfl, rfl, rfl⟩ := hcs
    exact ⟨[], rfl, Rd.none_, Nat.zero_le _⟩
  · simp [Value.cells] at hcs
    obtain ⟨rfl, rfl, rfl⟩ := hcs
    have hz' : ss.length = cap := by simpa using hz
    refine ⟨ss.take len, by simp; omega, ?_, by omega⟩
    refine Rd.of_cells (by simp; omega) (by decide) (fun hn => ?_) (fun j u hu => ?_)
    · have h0 := hcell 0 (by omega)
      rw [add_zero] at h0
      rcases Nat.lt_or_ge x.block W.heap.size with h' | h'
      · exact h'
      · simp [World.cell?, Array.getElem?_eq_none h'] at h0
    · have hj : j < len := by
        have := (List.getElem?_eq_some_iff.1 hu).1
        simp at this
        omega
      rw [hcell j (by omega)]
      simp [hj, show j < ss.length by omega] at hu
      rw [← hu]
      simp [List.getD, show j < ss.length by omega]

def fitsB (ss : List ByteArray) : Bool := decide (ss.length ≤ 2147483647) && ss.all fun s => decide (s.size ≤ 2147483647)
def smallS (ss : List ByteArray) (m : Nat) : Bool := ss.all fun s => decide (s.size ≤ m)
theorem smallS_snoc (ss : List ByteArray) (s : ByteArray) (m : Nat) : smallS (ss ++ [s]) m = (smallS ss m && decide (s.size ≤ m)) := by simp [smallS]
theorem smallS_head (ss : List ByteArray) (k m : Nat) (h : smallS (ss.take k) m = false) : smallS ss m = false := by
  rw [← List.take_append_drop k ss]
  unfold smallS at h ⊢
  rw [List.all_append, h, Bool.false_and]
def briefB (ss : List ByteArray) : Bool := smallS ss 16777216 && decide (ss.length ≤ 65536)

/-- It ended with a Bool. -/
def IsBool (e : Ending) : Prop := ∃ x, e = .returned (.bool x)

set_option maxHeartbeats 1000000 in
theorem fits_any (A : Option Addr) (n c B : Nat) (ss : List ByteArray) (w : World) (hn : n ≤ 9223372036854775807) (hr : Rd w B 1 A n (ss.map Value.string)) :
    Calls Tryd.prog 12 #[.slice A n c] w fun e w' => IsBool e ∧ w = w' := by
  have hl : ss.length = n := by have := hr.1; simpa using this
  by_cases h1 : n ≤ 2147483647
  · have HR := Lib.hid hr
    clear hr
    go_enter Tryd.func12, Tryd.ntmps12
    go_wp2
    go_loop [10] (fun i => ∃ k : Nat, k ≤ n ∧ i = .int .i64 k) (fun i => n - (intOf i).toNat)
    case atStart => exact ⟨0, Nat.zero_le _, rfl⟩
    case round =>
      obtain ⟨k, hk, rfl⟩ := hrel
      by_cases hlt : k < n
      · obtain ⟨b, o, rfl, hb, hc⟩ := HR.out.2 (by omega)
        have ck : w.cell? ⟨b, o + k, none⟩ = some (.string (ss[k]'(by omega))) := hc k _ (by simp [hl, hlt])
        obtain ⟨s, hs⟩ : ∃ s, ss[k]'(by omega) = s := ⟨_, rfl⟩
        rw [hs] at ck
        clear hc hs
        by_cases h2 : s.size ≤ 2147483647
        · go_wp2
          go_round
          case rel => exact ⟨k + 1, by omega, by go_num⟩
          case measure => simp [intOf]; omega
        · go_wp2
          go_ret
          exact ⟨⟨_, rfl⟩, rfl⟩
      · go_wp2
        go_ret
        exact ⟨⟨_, rfl⟩, rfl⟩
  · clear hr
    go_enter Tryd.func12, Tryd.ntmps12
    go_wp2
    go_ret
    exact ⟨⟨_, rfl⟩, rfl⟩

set_option maxHeartbeats 1000000 in
theorem brief_any (A : Option Addr) (n c B : Nat) (ss : List ByteArray) (w : World) (hn : n ≤ 9223372036854775807) (hr : Rd w B 1 A n (ss.map Value.string)) :
    Calls Tryd.prog 13 #[.slice A n c] w fun e w' => e = .returned (.bool (briefB ss)) ∧ w = w' := by
  have hl : ss.length = n := by have := hr.1; simpa using this
  have HR := Lib.hid hr
  clear hr
  go_enter Tryd.func13, Tryd.ntmps13
  go_wp2
  go_loop [7] (fun i => ∃ k : Nat, k ≤ n ∧ i = .int .i64 k ∧ Hid (smallS (ss.take k) 16777216 = true)) (fun i => n - (intOf i).toNat)
  case atStart => exact ⟨0, Nat.zero_le _, rfl, rfl⟩
  case round =>
    obtain ⟨k, hk, rfl, HP⟩ := hrel
    by_cases hlt : k < n
    · obtain ⟨b, o, rfl, hb, hc⟩ := HR.out.2 (by omega)
      have ck : w.cell? ⟨b, o + k, none⟩ = some (.string (ss[k]'(by omega))) := hc k _ (by simp [hl, hlt])
      have HS : Hid (smallS (ss.take (k + 1)) 16777216 = decide ((ss[k]'(by omega)).size ≤ 16777216)) := by show _ = _; rw [take_snocB ss k (by omega), smallS_snoc, HP.out, Bool.true_and]
      obtain ⟨s, hs⟩ : ∃ s, ss[k]'(by omega) = s := ⟨_, rfl⟩
      rw [hs] at ck HS
      clear hc hs
      by_cases h2 : s.size ≤ 16777216
      · have HN : Hid (smallS (ss.take (k + 1)) 16777216 = true) := by show _ = _; rw [HS.out]; simpa using h2
        go_wp2
        go_round
        case rel => exact ⟨k + 1, by omega, by go_num, HN⟩
        case measure => simp [intOf]; omega
      · have HN : Hid (briefB ss = false) := by
          show _ = _
          unfold briefB
          rw [smallS_head ss (k + 1) _ (by rw [HS.out]; simpa using h2)]
          rfl
        go_wp2
        go_ret
        exact ⟨ret_bool HN.out.symm, rfl⟩
    · have HN : Hid (briefB ss = decide (n ≤ 65536)) := by
        have := HP.out
        rw [List.take_of_length_le (by omega)] at this
        show _ = _
        unfold briefB
        rw [this, hl, Bool.true_and]
      go_wp2
      go_ret
      refine ⟨ret_bool ?_, rfl⟩
      rw [HN.out]
      simp <;> omega

set_option maxRecDepth 20000 in
set_option maxHeartbeats 4000000 in
theorem xsets (A : Option Addr) (n c : Nat) (ss : List ByteArray) (w : World) (hl : ss.length = n) (hn : n ≤ maxLen) (hr : Rd w w.heap.size 1 A n (ss.map Value.string)) :
    Calls Tryd.prog 4 #[.slice A n c] w fun e w' => e = .returned (.bool true) ∧ Below w.heap.size w w' := by
  subst hl
  unfold maxLen at hn
  have HR := Lib.hid hr
  have HF := Lib.hid (fits_any A ss.length c w.heap.size ss w (by omega) hr)
  have HBr := Lib.hid (brief_any A ss.length c w.heap.size ss w (by omega) hr)
  clear hr
  by_cases hb : briefB ss = true
  · have hb2 := hb
    unfold briefB at hb2
    simp only [Bool.and_eq_true, decide_eq_true_eq] at hb2
    have hlen := hb2.2
    have hsm := Lib.hid hb2.1
    rw [hb] at HBr
    have HS := Lib.hid (sets_any A c ss w hlen HR.out)
    clear hb hb2
    go_enter Tryd.func4, Tryd.ntmps4
    go_wp2_with fail
    refine HF.out.mono ?_
    rintro e w1 ⟨⟨x, rfl⟩, rfl⟩
    cases x
    · go_wp2
      go_ret
      exact ⟨rfl, Below.refl _ _⟩
    · go_wp2_with fail
      refine HBr.out.mono ?_
      rintro e w1 ⟨rfl, rfl⟩
      go_wp2_with fail
      refine HS.out.mono ?_
      rintro e w2 ⟨vf, vn, rfl, hf, hnm, hbl⟩
      have HO := Lib.hid (And.intro hf hnm)
      have HBl := Lib.hid hbl
      obtain ⟨Af, cf, rfl⟩ := own_slice hf
      obtain ⟨An, cn, rfl⟩ := own_slice hnm
      clear hf hnm hbl HS HF HBr
      go_wp2_with fail
      go_loopw [37] (fun i w' => ∃ k q : Nat, k ≤ ss.length ∧ i = .int .i64 k ∧ w' = w2.drewN q) (fun i _ => ss.length - (intOf i).toNat)
      case atStart => exact ⟨0, 0, Nat.zero_le _, rfl, rfl⟩
      case round =>
        obtain ⟨k, q, hk, rfl, rfl⟩ := hrel
        by_cases hlt : k < ss.length
        · obtain ⟨b', o', rfl, hb', hcell⟩ := HR.out.2 (by omega)
          have ck : w2.cell? ⟨b', o' + k, none⟩ = some (.string ss[k]) := (HBl.out.cell (p := ⟨b', o' + k, none⟩) hb').trans (hcell k _ (by simp [hlt]))
          obtain ⟨gf, cf', hvf, cellf⟩ := own_first HO.out.1 k (u := .bool (boundB ss[k].data.toList)) (by simp [fineL, hlt])
          obtain ⟨gn, cn', hvn, celln⟩ := own_first HO.out.2 k (u := .string (curB (ss.take (k + 1)))) (by simp [namesL, hlt])
          have hsz : ss[k].size ≤ 2147483647 := by
            have h1 := hsm.out
            unfold smallS at h1
            simp only [List.all_eq_true, decide_eq_true_eq] at h1
            have := h1 ss[k] (List.getElem_mem _)
            omega
          have hcur : curB (ss.take (k + 1)) = if boundB ss[k].data.toList = true then ss[k] else curB (ss.take k) := by rw [take_snocB ss k hlt, curB_snoc]
          have hprev : 0 < k → ∃ c2, w2.cell? ⟨gn, k - 1, none⟩ = some (.string (curB (ss.take k))) ∧ c2 = 0 := by
            intro h0
            obtain ⟨gn2, cn2, hvn2, celln2⟩ := own_first HO.out.2 (k - 1) (u := .string (curB (ss.take k))) (by
              simp [namesL, show k - 1 < ss.length by omega]
              rw [show k - 1 + 1 = k by omega])
            rw [hvn] at hvn2
            injection hvn2 with h2 _ _
            injection h2 with h2
            injection h2 with h2 _ _
            subst h2
            exact ⟨0, celln2, rfl⟩
          obtain ⟨ok, hok⟩ : ∃ ok, boundB ss[k].data.toList = ok := ⟨_, rfl⟩
          have HB := Lib.hid (bound_q ss[k] hsz ok hok)
          rw [hcur] at celln
          rw [hok] at cellf celln
          obtain ⟨s, hs⟩ : ∃ s, ss[k] = s := ⟨_, rfl⟩
          rw [hs] at ck HB celln
          injection hvf with hA hc _
          injection hvn with hA2 hc2 _
          subst hA
          subst hA2
          obtain ⟨w3, hw3⟩ : ∃ x, x = w2.drewN q := ⟨_, rfl⟩
          rw [← hw3]
          have e0 : w3.cell? ⟨b', o' + k, none⟩ = some (.string s) := by rw [hw3]; exact ck
          have ef : ∀ m, (w3.drewN m).cell? ⟨gf, k, none⟩ = some (.bool ok) := fun m => by rw [hw3]; exact cellf
          have HP : Hid (0 < k → ∀ m, (w3.drewN m).cell? ⟨gn, k - 1, none⟩ = some (.string (curB (ss.take k)))) := fun h0 m => by
            obtain ⟨_, h, _⟩ := hprev h0
            rw [hw3]
            exact h
          have HW := Lib.hid hw3
          have hki : (k : Int) < (ss.length : Int) := by omega
          clear hcell hb' hcur hprev hok cellf ck hs hc hc2 hsz
          cases ok
          · have en : ∀ m, (w3.drewN m).cell? ⟨gn, k, none⟩ = some (.string (curB (ss.take k))) := fun m => by rw [hw3]; exact celln
            clear celln hw3
            rcases Nat.eq_zero_or_pos k with h0 | h0
            · subst h0
              rw [Nat.add_zero] at e0
              have hki0 : (0 : Int) < (ss.length : Int) := by omega
              go_wp2_with fail
              go_quiet ((go_at_call 11; refine Calls.quiet_of_same (HB.out _)))
              go_wp2
              go_roundw
              case rel => exact ⟨1, q + nq, by omega, by go_num, by rw [HW.out, World.drewN_drewN]⟩
              case measure => simp [intOf]; omega
            · have ep := HP.out h0
              have h0' : (0 : Int) < (k : Int) := by omega
              have hd0 : decide ((0 : Int) < (k : Int)) = true := by simpa using h0'
              have hk1 : (k : Int) - 1 < (ss.length : Int) := by omega
              have hk2 : (0 : Int) ≤ (k : Int) - 1 := by omega
              have hk3 : ((k : Int) - 1).toNat = k - 1 := by omega
              go_wp2_with fail
              go_quiet ((go_at_call 11; refine Calls.quiet_of_same (HB.out _)))
              go_wp2
              go_roundw
              case rel => exact ⟨k + 1, q + nq, by omega, by go_num, by rw [HW.out, World.drewN_drewN]⟩
              case measure => simp [intOf]; omega
          · have en : ∀ m, (w3.drewN m).cell? ⟨gn, k, none⟩ = some (.string s) := fun m => by rw [hw3]; exact celln
            clear celln hw3
            go_wp2_with fail
            go_quiet ((go_at_call 11; refine Calls.quiet_of_same (HB.out _)))
            go_wp2
            go_roundw
            case rel => exact ⟨k + 1, q + nq, by omega, by go_num, by rw [HW.out, World.drewN_drewN]⟩
            case measure => simp [intOf]; omega
        · go_wp2
          go_ret
          exact ⟨rfl, HBl.out.trans (below_drewN (Below.refl _ _) _)⟩
  · have hb' : briefB ss = false := by simpa using hb
    rw [hb'] at HBr
    clear hb hb'
    go_enter Tryd.func4, Tryd.ntmps4
    go_wp2_with fail
    refine HF.out.mono ?_
    rintro e w1 ⟨⟨x, rfl⟩, rfl⟩
    cases x
    · go_wp2
      go_ret
      exact ⟨rfl, Below.refl _ _⟩
    · go_wp2_with fail
      refine HBr.out.mono ?_
      rintro e w1 ⟨rfl, rfl⟩
      go_wp2
      go_ret
      exact ⟨rfl, Below.refl _ _⟩

end Go.Proofs.YtklkgddldndmmaaDoor

/- Lists of headers and of parts that came in: what they read as, and how much they hold at least. -/
namespace Go.Proofs.YtklkgddldndmmaaDoor
open Go.RowKit Go.ChangeShapes Go.WideShapes Go.Deep
set_option linter.unusedVariables false
set_option linter.unusedSimpArgs false

/-! ### How much a reading holds -/
theorem bulk_one {H : Type} (d : DataW H) : 1 ≤ Rows.uptoBulk d := by
  cases d with
  | lit l => cases l <;> simp [Rows.uptoBulk]
  | nil => simp [Rows.uptoBulk]
  | ptr d => simp [Rows.uptoBulk]
  | slice elems spare => simp [Rows.uptoBulk]
  | agg parts => simp [Rows.uptoBulk]
  | iface t d => simp [Rows.uptoBulk]
  | map entries => simp [Rows.uptoBulk]
  | held h => simp [Rows.uptoBulk]
theorem bulk_part {H : Type} {d : DataW H} {l : List (DataW H)} (h : d ∈ l) : Rows.uptoBulk d ≤ Rows.uptoBulkAll l := by
  induction l with
  | nil => cases h
  | cons x r ih =>
    simp only [Rows.uptoBulkAll]
    cases List.mem_cons.1 h with
    | inl e => subst e; omega
    | inr e => have := ih e; omega
theorem bulk_len {H : Type} (l : List (DataW H)) : l.length ≤ Rows.uptoBulkAll l := by
  induction l with
  | nil => simp [Rows.uptoBulkAll]
  | cons x r ih => have := bulk_one x; simp only [Rows.uptoBulkAll, List.length_cons]; omega
theorem bulk_slice {H : Type} (elems spare : List (DataW H)) : elems.length ≤ Rows.uptoBulk (.slice elems spare) := by
  have h1 := bulk_len elems
  simp only [Rows.uptoBulk]
  omega
theorem bulk_elem {H : Type} {d : DataW H} {elems spare : List (DataW H)} (h : d ∈ elems) : Rows.uptoBulk d ≤ Rows.uptoBulk (.slice elems spare) := by
  have h1 := bulk_part h
  simp only [Rows.uptoBulk]
  omega
theorem bulk_agg {H : Type} {d : DataW H} {l : List (DataW H)} (h : d ∈ l) : Rows.uptoBulk d ≤ Rows.uptoBulk (.agg l) := by
  have h1 := bulk_part h
  simp only [Rows.uptoBulk]
  omega

theorem choose_list {α : Type} {P : Nat → α → Prop} : ∀ n : Nat, (∀ i, i < n → ∃ x, P i x) → ∃ l : List α, l.length = n ∧ ∀ (i : Nat) x, l[i]? = some x → P i x
  | 0, _ => ⟨[], rfl, fun i x h => by simp at h⟩
  | n + 1, h => by
    obtain ⟨l, hl, hp⟩ := choose_list n (fun i hi => h i (by omega))
    obtain ⟨x, hx⟩ := h n (by omega)
    refine ⟨l ++ [x], by simp [hl], fun i y hy => ?_⟩
    by_cases hi : i < n
    · rw [List.getElem?_append_left (by omega)] at hy
      exact hp i y hy
    · have h1 := (List.getElem?_eq_some_iff.1 hy).1
      simp [hl] at h1
      obtain rfl : i = n := by omega
      rw [List.getElem?_append_right (by omega), hl] at hy
      simp at hy
      subst hy
      exact hx

section
variable {H : Type} {enc : TypeId × Value → H} {w : World}
theorem open_fields {t e : TypeId} {fs : Array Field} {fuel : Nat} {cs : List Value} {x : DataW H × List MemPlace} (ht : Tryd.prog.underlying t = some (.slice e)) (he : Tryd.prog.underlying e = some (.struct fs))
    (hone : oneCellFields Tryd.prog fs = true) (hC : Tryd.prog.cellsOf e = fs.size) (h : DataW.trod enc Tryd.prog w 0 (fun _ => true) true fuel t cs = some x) :
    (cs = [.slice none 0 0] ∧ x = (.nil, [])) ∨
    ∃ (a : Addr) (len cap : Nat) (D : Nat → DataW H) (sp : List (DataW H)), cs = [.slice (some a) len cap] ∧ len ≤ cap ∧ cap ≤ maxLen ∧ x.1 = .slice ((List.range len).map D) sp ∧
      ∀ i, i < len → ∃ (ys : List (DataW H × List MemPlace)) (n : Nat), D i = .agg (ys.map (·.1)) ∧ ys.length = fs.size ∧
        ∀ (j : Nat) (f : Field), fs[j]? = some f → ∃ (v : Value) (y : DataW H × List MemPlace), w.cell? (a.add (i * fs.size + j)) = some v ∧ ys[j]? = some y ∧ DataW.trod enc Tryd.prog w 0 (fun _ => true) true n f.type [v] = some y := by
  rcases open_slice ht h with h0 | ⟨a, len, cap, m, n, D, Pl, hcs, hb, hl, hm, hmm, hx, hi⟩
  · exact .inl h0
  · refine .inr ⟨a, len, cap, D, _, hcs, hl, hm, by rw [hx], fun i hil => ?_⟩
    have him : i < m := by rw [hmm]; simp; omega
    obtain ⟨cs', hc, ht'⟩ := hi i him
    rw [hC] at hc
    obtain ⟨ys, n', hn', hy, hlen, hyl, hf⟩ := DataW.trod_struct he ht'
    obtain ⟨_, hcl, hat⟩ := World.cells?_some hc
    simp only [Prod.mk.injEq] at hy
    refine ⟨ys, n', hy.1, hyl, fun j f hj => ?_⟩
    obtain ⟨ho, hk⟩ := hone_of hone j f hj
    have hjl : j < fs.size := (Array.getElem?_eq_some_iff.1 hj).1
    have hcell := hat j hjl
    have hv : cs'[j]? = some (cs'[j]'(by omega)) := List.getElem?_eq_getElem (by omega)
    have h1 := hf j f hj
    rw [ho, hk] at h1
    have hone' : (cs'.drop j).take 1 = [cs'[j]'(by omega)] := by
      rw [List.drop_eq_getElem_cons (by omega)]
      rfl
    rw [hone'] at h1
    have hys : ys[j]? = some (ys[j]'(by omega)) := List.getElem?_eq_getElem (by omega)
    refine ⟨_, _, ?_, hys, h1.trans hys⟩
    rw [← Go.Deep.add_add, hcell, hv]

theorem cells31 : Tryd.prog.cellsOf 31 = 1 := by kernel_rfl
theorem cells81 : Tryd.prog.cellsOf 81 = 2 := by kernel_rfl
theorem cells41 : Tryd.prog.cellsOf 41 = 2 := by kernel_rfl
theorem at_spot {a : Addr} {v : Value} (h : w.cell? (a.add 0) = some v) : a.spot = none := by
  rw [add_zero] at h
  exact World.cell?_spot h

/-- A []string. -/
theorem open_strs {fuel : Nat} {v : Value} {y : DataW H × List MemPlace} (h : DataW.trod enc Tryd.prog w 0 (fun _ => true) true fuel 23 [v] = some y) :
    ∃ A n c, v = .slice A n c ∧ ∃ ss : List ByteArray, ss.length = n ∧ Rd w w.heap.size 1 A n (ss.map Value.string) ∧ n ≤ maxLen := by
  rcases open_slice Tryd.underlying23 h with ⟨hcs, hx⟩ | ⟨a, len, cap, m, n, D, Pl, hcs, hb, hl, hm, hmm, hx, hi⟩
  · simp at hcs
    subst hcs
    exact ⟨_, _, _, rfl, [], rfl, Rd.none_, Nat.zero_le _⟩
  · simp at hcs
    subst hcs
    obtain ⟨ss, h1, h2, h3⟩ := open_names (d := y.1) (p := y.2) Tryd.underlying23 Tryd.underlying9 cells9 ⟨fuel, h⟩
    exact ⟨_, _, _, rfl, ss, h1, h2, h3⟩

/-- A []byte. -/
theorem open_byts {fuel : Nat} {v : Value} {y : DataW H × List MemPlace} (h : DataW.trod enc Tryd.prog w 0 (fun _ => true) true fuel 31 [v] = some y) :
    ∃ A n c, v = .slice A n c ∧ ∃ l : List UInt8, RdB w w.heap.size A n l ∧ n ≤ c ∧ c ≤ maxLen ∧ n ≤ Rows.uptoBulk y.1 := by
  rcases open_slice Tryd.underlying31 h with ⟨hcs, hx⟩ | ⟨a, len, cap, m, n, D, Pl, hcs, hb, hl, hm, hmm, hx, hi⟩
  · simp at hcs
    subst hcs
    exact ⟨_, _, _, rfl, [], Rd.none_, Nat.le_refl _, Nat.zero_le _, Nat.zero_le _⟩
  · simp at hcs
    subst hcs
    obtain ⟨l, h1, h2⟩ := open_bytes (d := y.1) (p := y.2) Tryd.underlying31 Tryd.underlying5 cells5 ⟨fuel, h⟩
    refine ⟨_, _, _, rfl, l, h1, hl, hm, ?_⟩
    have := bulk_slice ((List.range len).map D) ((List.range (m - len)).map fun j => D (len + j))
    rw [hx]
    simpa using this

/-- A []Header. -/
theorem open_hdrs {fuel : Nat} {v : Value} {y : DataW H × List MemPlace} (h : DataW.trod enc Tryd.prog w 0 (fun _ => true) true fuel 39 [v] = some y) :
    ∃ A n c, v = .slice A n c ∧ ∃ hs : HdrL, RdH w w.heap.size A n hs ∧ n ≤ c ∧ c ≤ maxLen ∧ (∀ h ∈ hs, h.2.length ≤ maxLen) ∧ n ≤ Rows.uptoBulk y.1 := by
  rcases open_fields Tryd.underlying39 Tryd.underlying81 (by kernel_rfl) cells81 h with ⟨hcs, hx⟩ | ⟨a, len, cap, D, sp, hcs, hl, hm, hx, hi⟩
  · simp at hcs
    subst hcs
    exact ⟨_, _, _, rfl, [], ⟨rfl, fun h => absurd h (by omega)⟩, Nat.le_refl _, Nat.zero_le _, (fun h hh => by cases hh), Nat.zero_le _⟩
  · simp at hcs
    subst hcs
    obtain ⟨hs, hlen, hp⟩ := choose_list (α := ByteArray × List ByteArray) (P := fun i x => w.cell? (a.add (i * 2 + 0)) = some (.string x.1) ∧ ∃ Av nv cv, w.cell? (a.add (i * 2 + 1)) = some (.slice Av nv cv) ∧ Rd w w.heap.size 1 Av nv (x.2.map Value.string) ∧ x.2.length ≤ maxLen) len (fun i hil => by
      obtain ⟨ys, n, hD, hyl, hf⟩ := hi i hil
      obtain ⟨v0, y0, c0, _, t0⟩ := hf 0 _ rfl
      obtain ⟨v1, y1, c1, _, t1⟩ := hf 1 _ rfl
      obtain ⟨s, hs, _⟩ := DataW.trod_string Tryd.underlying9 t0
      simp at hs
      subst hs
      obtain ⟨Av, nv, cv, rfl, ss, h1, h2, h3⟩ := open_strs t1
      exact ⟨(s, ss), c0, Av, nv, cv, c1, h2, by show ss.length ≤ _; rw [h1]; exact h3⟩)
    refine ⟨_, _, _, rfl, hs, ⟨hlen, fun hn => ?_⟩, hl, hm, fun x hx => ?_, ?_⟩
    · obtain ⟨x, hx⟩ : ∃ x, hs[0]? = some x := ⟨_, List.getElem?_eq_getElem (by omega)⟩
      have hsp := at_spot (hp 0 x hx).1
      have hlt := cell_lt (hp 0 x hx).1
      obtain ⟨b, o, s⟩ := a
      obtain rfl : s = none := hsp
      rw [block_add] at hlt
      refine ⟨b, o, rfl, hlt, fun i x hx => ?_⟩
      obtain ⟨c0, Av, nv, cv, c1, h2, _⟩ := hp i x hx
      rw [Addr.add_lit] at c0 c1
      exact ⟨by rw [Nat.add_zero] at c0; exact c0, Av, nv, cv, by rw [Nat.add_assoc]; exact c1, h2⟩
    · obtain ⟨i, hi⟩ := List.getElem?_of_mem hx
      obtain ⟨_, _, _, _, _, _, h3⟩ := hp i x hi
      exact h3
    · have := bulk_slice ((List.range len).map D) sp
      rw [hx]
      simpa using this

/-- A []Part. -/
theorem open_parts {fuel : Nat} {v : Value} {y : DataW H × List MemPlace} (h : DataW.trod enc Tryd.prog w 0 (fun _ => true) true fuel 28 [v] = some y) :
    ∃ A n c, v = .slice A n c ∧ ∃ ps : List PartL, RdQ w w.heap.size A n ps ∧ n ≤ c ∧ c ≤ maxLen ∧ (∀ p ∈ ps, p.1.length ≤ maxLen ∧ (∀ h ∈ p.1, h.2.length ≤ maxLen) ∧ p.2.length ≤ Rows.uptoBulk y.1) ∧ n ≤ Rows.uptoBulk y.1 := by
  rcases open_fields Tryd.underlying28 Tryd.underlying41 (by kernel_rfl) cells41 h with ⟨hcs, hx⟩ | ⟨a, len, cap, D, sp, hcs, hl, hm, hx, hi⟩
  · simp at hcs
    subst hcs
    exact ⟨_, _, _, rfl, [], ⟨rfl, fun h => absurd h (by omega)⟩, Nat.le_refl _, Nat.zero_le _, (fun h hh => by cases hh), Nat.zero_le _⟩
  · simp at hcs
    subst hcs
    obtain ⟨ps, hlen, hp⟩ := choose_list (α := PartL) (P := fun i x => ∃ Ah nh ch Ab nb cb, w.cell? (a.add (i * 2 + 0)) = some (.slice Ah nh ch) ∧ w.cell? (a.add (i * 2 + 1)) = some (.slice Ab nb cb) ∧ RdH w w.heap.size Ah nh x.1 ∧ RdB w w.heap.size Ab nb x.2 ∧ nh ≤ ch ∧ ch ≤ maxLen ∧ nb ≤ cb ∧ x.1.length ≤ maxLen ∧ (∀ h ∈ x.1, h.2.length ≤ maxLen) ∧ x.2.length ≤ Rows.uptoBulk y.1) len (fun i hil => by
      obtain ⟨ys, n, hD, hyl, hf⟩ := hi i hil
      obtain ⟨v0, y0, c0, _, t0⟩ := hf 0 _ rfl
      obtain ⟨v1, y1, c1, hy1, t1⟩ := hf 1 _ rfl
      obtain ⟨Ah, nh, ch, rfl, hs, h1, h2, h3, h4, _⟩ := open_hdrs t0
      obtain ⟨Ab, nb, cb, rfl, l, g1, g2, g3, g4⟩ := open_byts t1
      refine ⟨(hs, l), Ah, nh, ch, Ab, nb, cb, c0, c1, h1, g1, h2, h3, g2, ?_, h4, ?_⟩
      · show hs.length ≤ _
        rw [h1.1]
        exact Nat.le_trans h2 h3
      · show l.length ≤ _
        rw [g1.len, hx]
        refine Nat.le_trans g4 (Nat.le_trans (bulk_agg (l := ys.map (·.1)) (List.mem_map_of_mem (List.mem_of_getElem? hy1))) ?_)
        rw [← hD]
        exact bulk_elem (List.mem_map_of_mem (List.mem_range.2 hil)))
    refine ⟨_, _, _, rfl, ps, ⟨hlen, fun hn => ?_⟩, hl, hm, fun x hx => ?_, ?_⟩
    · obtain ⟨x, hx⟩ : ∃ x, ps[0]? = some x := ⟨_, List.getElem?_eq_getElem (by omega)⟩
      obtain ⟨Ah, nh, ch, Ab, nb, cb, c0, _⟩ := hp 0 x hx
      have hsp := at_spot c0
      have hlt := cell_lt c0
      obtain ⟨b, o, s⟩ := a
      obtain rfl : s = none := hsp
      rw [block_add] at hlt
      refine ⟨b, o, rfl, hlt, fun i x hx => ?_⟩
      obtain ⟨Ah, nh, ch, Ab, nb, cb, c0, c1, h1, h2, h3, h4, h5, _⟩ := hp i x hx
      rw [Addr.add_lit] at c0 c1
      exact ⟨Ah, nh, ch, Ab, nb, cb, by rw [Nat.add_zero] at c0; exact c0, by rw [Nat.add_assoc]; exact c1, h1, h2, h3, h4, h5⟩
    · obtain ⟨i, hi⟩ := List.getElem?_of_mem hx
      obtain ⟨_, _, _, _, _, _, _, _, _, _, _, _, _, h6, h7, h8⟩ := hp i x hi
      exact ⟨h6, h7, h8⟩
    · have := bulk_slice ((List.range len).map D) sp
      rw [hx]
      simpa using this
end
end Go.Proofs.YtklkgddldndmmaaDoor

/- A list of parts that came in, where what is read is small: what the laws ask of it. -/
namespace Go.Proofs.YtklkgddldndmmaaDoor
open Go.RowKit
/-- The parts that a reading gives. -/
noncomputable def partsOf (w : World) (A : Option Addr) (n c : Nat) : List PartL := Classical.epsilon fun ps => Args w A n c ps
theorem open_args {H : Type} {enc : TypeId × Value → H} {w : World} {fuel n c : Nat} {A : Option Addr} {d : DataW H} {p : List MemPlace} (hb : Rows.uptoBulk d ≤ 1048576) (h : DataW.trod enc Tryd.prog w 0 (fun _ => true) true fuel 28 (Value.slice A n c).cells.toList = some (d, p)) :
    Args w A n c (partsOf w A n c) ∧ n ≤ 1048576 := by
  obtain ⟨A', n', c', e, ps, h1, _, _, h4, h5⟩ := open_parts (v := .slice A n c) h
  injection e with e1 e2 e3
  subst e1 e2 e3
  have h5' : n ≤ Rows.uptoBulk d := h5
  refine ⟨Classical.epsilon_spec (p := fun ps => Args w A n c ps) ⟨ps, h1, by omega, fun p hp => ?_⟩, by omega⟩
  obtain ⟨g1, g2, g3⟩ := h4 p hp
  exact ⟨g1, g2, Nat.le_trans g3 hb⟩
end Go.Proofs.YtklkgddldndmmaaDoor
