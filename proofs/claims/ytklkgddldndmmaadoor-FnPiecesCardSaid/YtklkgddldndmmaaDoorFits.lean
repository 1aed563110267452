/- The walks of the functions that bound lengths. -/
import Derived.Test.YtklkgddldndmmaaDoorCanon
namespace Go.Proofs.YtklkgddldndmmaaDoor
open Go.RowKit
set_option linter.unusedVariables false
set_option linter.unusedSimpArgs false

/-- The call gives a bool; if it is true, P holds. -/
def SayB (P : Prop) (e : Ending) : Prop := ∃ x, e = .returned (.bool x) ∧ (x = true → P)
theorem SayB.no {P : Prop} : SayB P (.returned (.bool false)) := ⟨false, rfl, fun h => by cases h⟩
theorem SayB.yes {P : Prop} (h : P) : SayB P (.returned (.bool true)) := ⟨true, rfl, fun _ => h⟩
theorem SayB.mono {P Q : Prop} {e : Ending} (h : SayB P e) (hq : P → Q) : SayB Q e := by
  obtain ⟨x, he, hx⟩ := h
  exact ⟨x, he, fun e => hq (hx e)⟩

def Few {α : Type} (l : List α) : Prop := l.length ≤ 2147483647
def FitV (vs : List ByteArray) : Prop := Few vs ∧ ∀ v ∈ vs, v.size ≤ 2147483647
def FitH (h : ByteArray × List ByteArray) : Prop := h.1.size ≤ 2147483647 ∧ FitV h.2
def FitHs (hs : HdrL) : Prop := Few hs ∧ ∀ h ∈ hs, FitH h

/-- What holds of all that were seen holds of each. -/
theorem all_of_idx {α : Type} {l : List α} {P : α → Prop} {n : Nat} (hn : l.length ≤ n) (h : ∀ (i : Nat) x, i < n → l[i]? = some x → P x) : ∀ x ∈ l, P x := fun x hx => by
  obtain ⟨i, hi⟩ := List.getElem?_of_mem hx
  exact h i x (by have := (List.getElem?_eq_some_iff.1 hi).1; omega) hi
theorem idx_succ {α : Type} {l : List α} {P : α → Prop} {k : Nat} {x : α} (h : ∀ (i : Nat) y, i < k → l[i]? = some y → P y) (hx : l[k]? = some x) (hp : P x) : ∀ (i : Nat) y, i < k + 1 → l[i]? = some y → P y := fun i y hi hy => by
  by_cases hk : i < k
  · exact h i y hk hy
  · obtain rfl : i = k := by omega
    rw [hx] at hy
    obtain rfl := Option.some.inj hy
    exact hp

set_option maxHeartbeats 1000000 in
theorem fits2_any (A : Option Addr) (n c B : Nat) (ss : List ByteArray) (w : World) (hn : n ≤ 9223372036854775807) (hr : Rd w B 1 A n (ss.map Value.string)) :
    Calls Tryd.prog 12 #[.slice A n c] w fun e w' => SayB (FitV ss) e ∧ w = w' := by
  have hl : ss.length = n := by have := hr.1; simpa using this
  by_cases h1 : n ≤ 2147483647
  · have HR := Lib.hid hr
    have HL := Lib.hid hl
    clear hr hl
    go_enter Tryd.func12, Tryd.ntmps12
    go_wp2
    go_loop [10] (fun i => ∃ k : Nat, k ≤ n ∧ i = .int .i64 k ∧ Hid (∀ (i : Nat) s, i < k → ss[i]? = some s → s.size ≤ 2147483647)) (fun i => n - (intOf i).toNat)
    case atStart => exact ⟨0, Nat.zero_le _, rfl, Lib.hid fun i s h => absurd h (by omega)⟩
    case round =>
      obtain ⟨k, hk, rfl, HP⟩ := hrel
      by_cases hlt : k < n
      · obtain ⟨b, o, rfl, hb, hc⟩ := HR.out.2 (by omega)
        obtain ⟨s, hs⟩ : ∃ s, ss[k]? = some s := ⟨_, List.getElem?_eq_getElem (by rw [HL.out]; exact hlt)⟩
        have ck : w.cell? ⟨b, o + k, none⟩ = some (.string s) := hc k _ (by rw [List.getElem?_map, hs]; rfl)
        clear hc
        by_cases h2 : s.size ≤ 2147483647
        · have HN := Lib.hid (idx_succ HP.out hs h2)
          clear hs
          go_wp2
          go_round
          case rel => exact ⟨k + 1, by omega, by go_num, HN⟩
          case measure => simp [intOf]; omega
        · clear hs
          go_wp2
          go_ret
          exact ⟨SayB.no, rfl⟩
      · have HN := Lib.hid (show FitV ss from ⟨by show _ ≤ _; rw [HL.out]; exact h1, all_of_idx (n := k) (by rw [HL.out]; omega) HP.out⟩)
        go_wp2
        go_ret
        exact ⟨SayB.yes HN.out, rfl⟩
  · clear hr hl
    go_enter Tryd.func12, Tryd.ntmps12
    go_wp2
    go_ret
    exact ⟨SayB.no, rfl⟩

set_option maxHeartbeats 1000000 in
theorem fits6_any (h : ByteArray × List ByteArray) (Av : Option Addr) (nv cv B : Nat) (w : World) (hn : nv ≤ 9223372036854775807) (hB : B ≤ w.heap.size) (hr : Rd w B 1 Av nv (h.2.map Value.string)) :
    Calls Tryd.prog 42 #[.agg #[.string h.1, .slice Av nv cv]] w fun e w' => SayB (FitH h) e ∧ Below w.heap.size w w' := by
  have hal := (Below.refl w.heap.size w).alloc (Nat.le_refl _) (.cells #[.string h.1, .slice Av nv cv] 81)
  have HC := Lib.hid (fits2_any Av nv cv B h.2 _ hn (hr.below (hal.mono hB)))
  have HB := Lib.hid hal
  clear hr hal
  by_cases h1 : h.1.size ≤ 2147483647
  · go_enter Tryd.func42, Tryd.ntmps42
    go_wp2_with fail
    refine HC.out.mono ?_
    rintro e w1 ⟨⟨x, rfl, hx⟩, rfl⟩
    have HX := Lib.hid hx
    clear hx
    cases x
    · go_wp2
      go_ret
      exact ⟨SayB.no, HB.out⟩
    · have HY := Lib.hid (HX.out rfl)
      clear HX
      go_wp2
      go_ret
      exact ⟨SayB.yes ⟨h1, HY.out⟩, HB.out⟩
  · go_enter Tryd.func42, Tryd.ntmps42
    go_wp2
    go_ret
    exact ⟨SayB.no, HB.out⟩

set_option maxHeartbeats 2000000 in
theorem fits5_any (A : Option Addr) (n c : Nat) (hs : HdrL) (w : World) (hn : n ≤ 9223372036854775807) (hbig : ∀ h ∈ hs, h.2.length ≤ 9223372036854775807) (hr : RdH w w.heap.size A n hs) :
    Calls Tryd.prog 20 #[.slice A n c] w fun e w' => SayB (FitHs hs) e ∧ Below w.heap.size w w' := by
  by_cases h1 : n ≤ 2147483647
  · have HR := Lib.hid hr
    have HG := Lib.hid hbig
    clear hr hbig
    go_enter Tryd.func20, Tryd.ntmps20
    go_wp2_with fail
    go_loopw [10] (fun i wr => ∃ k : Nat, k ≤ n ∧ i = .int .i64 k ∧ Hid (∀ (i : Nat) h, i < k → hs[i]? = some h → FitH h) ∧ Hid (Below w.heap.size w wr)) (fun i _ => n - (intOf i).toNat)
    case atStart => exact ⟨0, Nat.zero_le _, rfl, Lib.hid fun i s h => absurd h (by omega), Lib.hid (Below.refl _ _)⟩
    case round =>
      obtain ⟨k, hk, rfl, HP, HB⟩ := hrel
      by_cases hlt : k < n
      · obtain ⟨b, o, rfl, hb, hc⟩ := HR.out.2 (by omega)
        obtain ⟨x, hx⟩ : ∃ x, hs[k]? = some x := ⟨_, List.getElem?_eq_getElem (by rw [HR.out.1]; exact hlt)⟩
        obtain ⟨c1, Av, nv, cv, c2, hv⟩ := hc k x hx
        have d1 := (HB.out.cell (p := ⟨b, o + k * 2, none⟩) hb).trans c1
        have d2 := (HB.out.cell (p := ⟨b, o + k * 2 + 1, none⟩) hb).trans c2
        have hnv : nv ≤ 9223372036854775807 := by have h1 := hv.1; have h2 := HG.out x (List.mem_of_getElem? hx); simp at h1; omega
        have hal := (Below.refl wr.heap.size wr).alloc (Nat.le_refl _) (.cells #[.string x.1, .slice Av nv cv] 81)
        have HBa := Lib.hid (HB.out.trans (hal.mono HB.out.size))
        have HC := Lib.hid (fits6_any x Av nv cv w.heap.size _ hnv HBa.out.size (hv.below HBa.out))
        clear hc c1 c2 hal hv
        go_wp2_with fail
        refine (HC.out).mono ?_
        rintro e w1 ⟨⟨y, rfl, hy⟩, hb1⟩
        have HB1 := Lib.hid (HBa.out.trans (hb1.mono HBa.out.size))
        have HY := Lib.hid hy
        clear hy hb1
        cases y
        · go_wp2
          go_ret
          exact ⟨SayB.no, HB1.out⟩
        · have HN := Lib.hid (idx_succ HP.out hx (HY.out rfl))
          clear hx
          go_wp2_with fail
          go_roundw
          case rel => exact ⟨k + 1, by omega, by go_num, HN, HB1⟩
          case measure => simp [intOf]; omega
      · have HN := Lib.hid (show FitHs hs from ⟨by show _ ≤ _; rw [HR.out.1]; exact h1, all_of_idx (n := k) (by rw [HR.out.1]; omega) HP.out⟩)
        go_wp2
        go_ret
        exact ⟨SayB.yes HN.out, HB.out⟩
  · clear hr hbig
    go_enter Tryd.func20, Tryd.ntmps20
    go_wp2
    go_ret
    exact ⟨SayB.no, Below.refl _ _⟩

end Go.Proofs.YtklkgddldndmmaaDoor
