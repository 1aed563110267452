/- Texts of the proof, joined: SameA, SameB, SameC, RdS, OutPs, CanPs. -/
import Derived.Test.YtklkgddldndmmaaDoorM12
import Derived.Test.YtklkgddldndmmaaDoorM11
import Derived.Test.YtklkgddldndmmaaDoorM10
import Derived.Deep.CutRange
import Derived.Deep.DeepMust
import Derived.Deep.RegionLaw
import Derived.Outline
/- The walks of Same and of what it calls, where both sides read as one list. -/
namespace Go.Proofs.YtklkgddldndmmaaDoor
open Go.RowKit
set_option linter.unusedVariables false
set_option linter.unusedSimpArgs false

set_option maxRecDepth 100000 in
set_option maxHeartbeats 1000000 in
theorem eq70_any (A1 A2 : Option Addr) (n c1 c2 B : Nat) (ss : List ByteArray) (w : World) (hn : n ≤ 2147483647) (r1 : Rd w B 1 A1 n (ss.map Value.string)) (r2 : Rd w B 1 A2 n (ss.map Value.string)) :
    Calls Tryd.prog 70 #[.slice A1 n c1, .slice A2 n c2] w fun e w' => e = .returned (.bool true) ∧ Below w.heap.size w w' := by
  have R1 := Lib.hid r1
  have R2 := Lib.hid r2
  have hl : ss.length = n := by have := r1.1; simpa using this
  have HL := Lib.hid hl
  clear r1 r2 hl
  go_enter Tryd.func70, Tryd.ntmps70
  go_wp2
  go_loopw [13] (fun i wr => ∃ k q : Nat, k ≤ n ∧ i = .int .i64 k ∧ wr = w.drewN q) (fun i _ => n - (intOf i).toNat)
  case atStart => exact ⟨0, 0, Nat.zero_le _, rfl, rfl⟩
  case round =>
    obtain ⟨k, q, hk, rfl, rfl⟩ := hrel
    by_cases hlt : k < n
    · obtain ⟨b1, o1, rfl, _, h1⟩ := R1.out.2 (by omega)
      obtain ⟨b2, o2, rfl, _, h2⟩ := R2.out.2 (by omega)
      obtain ⟨s, hs⟩ : ∃ s, ss[k]? = some s := ⟨_, List.getElem?_eq_getElem (by rw [HL.out]; exact hlt)⟩
      have d1 : ∀ q, (w.drewN q).cell? ⟨b1, o1 + k, none⟩ = some (.string s) := fun q => h1 k _ (by rw [List.getElem?_map, hs]; rfl)
      have d2 : ∀ q, (w.drewN q).cell? ⟨b2, o2 + k, none⟩ = some (.string s) := fun q => h2 k _ (by rw [List.getElem?_map, hs]; rfl)
      have hi0 : (0 : Int) ≤ (k : Int) := by omega
      have hi1 : (k : Int) < (n : Int) := by omega
      clear h1 h2 hs
      go_wp2_with fail
      go_quiet (fail)
      go_wp2_with fail
      go_roundw
      case rel => exact ⟨k + 1, _, by omega, by go_num, rfl⟩
      case measure => simp [intOf]; omega
    · go_wp2
      go_ret
      exact ⟨rfl, below_drewN (Below.refl _ _) _⟩

set_option maxHeartbeats 1000000 in
theorem same69_any (k : ByteArray) (A1 A2 : Option Addr) (n c1 c2 : Nat) (ss : List ByteArray) (w : World) (hn : n ≤ 2147483647) (r1 : Rd w w.heap.size 1 A1 n (ss.map Value.string)) (r2 : Rd w w.heap.size 1 A2 n (ss.map Value.string)) :
    Calls Tryd.prog 69 #[.agg #[.string k, .slice A1 n c1], .agg #[.string k, .slice A2 n c2]] w fun e w' => e = .returned (.bool true) ∧ Below w.heap.size w w' := by
  have hal := ((Below.refl w.heap.size w).alloc (Nat.le_refl _) (.cells #[.string k, .slice A1 n c1] 81)).alloc (by simp) (.cells #[.string k, .slice A2 n c2] 81)
  have HE := Lib.hid (eq70_any A1 A2 n c1 c2 w.heap.size ss _ hn (r1.below hal) (r2.below hal))
  have HB := Lib.hid hal
  clear r1 r2 hal
  go_enter Tryd.func69, Tryd.ntmps69
  go_wp2_with fail
  refine HE.out.mono ?_
  rintro e w1 ⟨rfl, hb⟩
  go_wp2
  go_ret
  exact ⟨rfl, HB.out.trans (hb.mono (by simp; omega))⟩

end Go.Proofs.YtklkgddldndmmaaDoor

/- The walks of EqualFunc over headers and over parts, SameHead, Same, where both sides read as one list. -/
namespace Go.Proofs.YtklkgddldndmmaaDoor
open Go.RowKit
set_option linter.unusedVariables false
set_option linter.unusedSimpArgs false

set_option maxRecDepth 100000 in
set_option maxHeartbeats 2000000 in
theorem eqf68_any (A1 A2 : Option Addr) (n c1 c2 : Nat) (hs : HdrL) (w : World) (hn : n ≤ 2147483647) (hv : ∀ h ∈ hs, h.2.length ≤ 2147483647) (r1 : RdH w w.heap.size A1 n hs) (r2 : RdH w w.heap.size A2 n hs) :
    Calls Tryd.prog 68 #[.slice A1 n c1, .slice A2 n c2, .func (.func 69) #[] #[]] w fun e w' => e = .returned (.bool true) ∧ Below w.heap.size w w' := by
  have R1 := Lib.hid r1
  have R2 := Lib.hid r2
  have HV := Lib.hid hv
  clear r1 r2 hv
  go_enter Tryd.func68, Tryd.ntmps68
  go_wp2_with fail
  go_loopw [17] (fun i wr => ∃ k : Nat, k ≤ n ∧ i = .int .i64 k ∧ Hid (Below w.heap.size w wr)) (fun i _ => n - (intOf i).toNat)
  case atStart => exact ⟨0, Nat.zero_le _, rfl, Lib.hid (Below.refl _ _)⟩
  case round =>
    obtain ⟨k, hk, rfl, HB⟩ := hrel
    by_cases hlt : k < n
    · obtain ⟨b1, o1, rfl, hb1, h1⟩ := R1.out.2 (by omega)
      obtain ⟨b2, o2, rfl, hb2, h2⟩ := R2.out.2 (by omega)
      obtain ⟨x, hx⟩ : ∃ s, hs[k]? = some s := ⟨_, List.getElem?_eq_getElem (by rw [R1.out.1]; exact hlt)⟩
      obtain ⟨a1, Av, nv, cv, a2, ha⟩ := h1 k x hx
      obtain ⟨e1, Aw, nw, cw, e2, hw⟩ := h2 k x hx
      have d1 := (HB.out.cell (p := ⟨b1, o1 + k * 2, none⟩) hb1).trans a1
      have d2 := (HB.out.cell (p := ⟨b1, o1 + k * 2 + 1, none⟩) hb1).trans a2
      have f1 := (HB.out.cell (p := ⟨b2, o2 + k * 2, none⟩) hb2).trans e1
      have f2 := (HB.out.cell (p := ⟨b2, o2 + k * 2 + 1, none⟩) hb2).trans e2
      have hnv : nv = x.2.length := by have h := ha.1; simpa using h.symm
      have hnw : nw = x.2.length := by have h := hw.1; simpa using h.symm
      have hnn : nw = nv := by omega
      have hvl := HV.out x (List.mem_of_getElem? hx)
      rw [hnn] at f2 hw
      have hlt1 : b1 < wr.heap.size := Nat.lt_of_lt_of_le hb1 HB.out.size
      have hlt2 : b2 < wr.heap.size := Nat.lt_of_lt_of_le hb2 HB.out.size
      have hal := ((Below.refl wr.heap.size wr).alloc (Nat.le_refl _) (.cells #[.string x.1, .slice Av nv cv] 81)).alloc (by simp) (.cells #[.string x.1, .slice Aw nv cw] 81)
      have HBa := Lib.hid (HB.out.trans (hal.mono HB.out.size))
      have HS := Lib.hid (same69_any x.1 Av Aw nv cv cw x.2 _ (by omega) ((ha.below HBa.out).more HBa.out.size) ((hw.below HBa.out).more HBa.out.size))
      clear h1 h2 a1 a2 e1 e2 ha hw hx hal hnv hnw hnn hvl
      go_wp2_with fail
      refine HS.out.mono ?_
      rintro e w1 ⟨rfl, hb⟩
      have HB1 := Lib.hid (HBa.out.trans (hb.mono HBa.out.size))
      clear hb d1 d2 f1 f2 hlt1 hlt2
      go_wp2_with fail
      go_roundw
      case rel => exact ⟨k + 1, by omega, by go_num, HB1⟩
      case measure => simp [intOf]; omega
    · go_wp2
      go_ret
      exact ⟨rfl, HB.out⟩

theorem same51_any (A1 A2 : Option Addr) (n c1 c2 : Nat) (hs : HdrL) (w : World) (hn : n ≤ 2147483647) (hv : ∀ h ∈ hs, h.2.length ≤ 2147483647) (r1 : RdH w w.heap.size A1 n hs) (r2 : RdH w w.heap.size A2 n hs) :
    Calls Tryd.prog 51 #[.slice A1 n c1, .slice A2 n c2] w fun e w' => e = .returned (.bool true) ∧ Below w.heap.size w w' := by
  have HE := Lib.hid (eqf68_any A1 A2 n c1 c2 hs w hn hv r1 r2)
  clear r1 r2 hv
  go_enter Tryd.func51, Tryd.ntmps51
  go_wp2_with fail
  refine HE.out.mono ?_
  rintro e w1 ⟨rfl, hb⟩
  go_wp2
  go_ret
  exact ⟨rfl, hb⟩

set_option maxHeartbeats 1000000 in
theorem same50_any (p : PartL) (A1 A2 D1 D2 : Option Addr) (n c1 c2 m d1 d2 : Nat) (w : World) (hn : n ≤ 2147483647) (hv : ∀ h ∈ p.1, h.2.length ≤ 2147483647) (r1 : RdH w w.heap.size A1 n p.1) (r2 : RdH w w.heap.size A2 n p.1) (s1 : RdB w w.heap.size D1 m p.2) (s2 : RdB w w.heap.size D2 m p.2) :
    Calls Tryd.prog 50 #[.agg #[.slice A1 n c1, .slice D1 m d1], .agg #[.slice A2 n c2, .slice D2 m d2]] w fun e w' => e = .returned (.bool true) ∧ Below w.heap.size w w' := by
  have hal := ((Below.refl w.heap.size w).alloc (Nat.le_refl _) (.cells #[.slice A1 n c1, .slice D1 m d1] 41)).alloc (by simp) (.cells #[.slice A2 n c2, .slice D2 m d2] 41)
  have g1 : ((w.alloc (.cells #[.slice A1 n c1, .slice D1 m d1] 41)).alloc (.cells #[.slice A2 n c2, .slice D2 m d2] 41)).heap[w.heap.size]? = some (.cells #[.slice A1 n c1, .slice D1 m d1] 41 (0, 0)) := by
    rw [Below.heap_alloc _ _ _ (by simp)]
    exact heap_alloc_new w _
  have g2 : ((w.alloc (.cells #[.slice A1 n c1, .slice D1 m d1] 41)).alloc (.cells #[.slice A2 n c2, .slice D2 m d2] 41)).heap[w.heap.size + 1]? = some (.cells #[.slice A2 n c2, .slice D2 m d2] 41 (0, 0)) := by
    have h := heap_alloc_new (w.alloc (.cells #[.slice A1 n c1, .slice D1 m d1] 41)) (.cells #[.slice A2 n c2, .slice D2 m d2] 41)
    simpa using h
  obtain ⟨wa, hwa⟩ : ∃ y, y = (w.alloc (.cells #[.slice A1 n c1, .slice D1 m d1] 41)).alloc (.cells #[.slice A2 n c2, .slice D2 m d2] 41) := ⟨_, rfl⟩
  rw [← hwa] at hal g1 g2
  have hsa : wa.heap.size = w.heap.size + 2 := by rw [hwa]; simp
  have HE := Lib.hid (same51_any A1 A2 n c1 c2 p.1 wa hn hv ((r1.below hal).more hal.size) ((r2.below hal).more hal.size))
  have HB := Lib.hid hal
  have HS1 := Lib.hid (s1.below hal)
  have HS2 := Lib.hid (s2.below hal)
  have p0 := cells_two g1
  have q0 := cells_two g2
  obtain ⟨p0, p1⟩ := p0
  obtain ⟨q0, q1⟩ := q0
  obtain ⟨sx, hsx⟩ : ∃ s : ByteArray, ⟨p.2.toArray⟩ = s := ⟨_, rfl⟩
  have HSX := Lib.hid hsx
  have HSa := Lib.hid hsa
  clear r1 r2 s1 s2 g1 g2 hal hsx hsa
  go_enter Tryd.func50, Tryd.ntmps50
  go_wp2_with fail
  rw [← hwa]
  clear hwa
  go_wp2_with fail
  refine HE.out.mono ?_
  rintro e w1 ⟨rfl, hb⟩
  have P1 := (hb.cell (p := ⟨w.heap.size, 1, none⟩) (by rw [HSa.out]; show w.heap.size < _; omega)).trans p1
  have Q1 := (hb.cell (p := ⟨w.heap.size + 1, 1, none⟩) (by rw [HSa.out]; show w.heap.size + 1 < _; omega)).trans q1
  have v1 := RdB.conv (P := Tryd.prog) (Rd.below HS1.out ((hb.mono HB.out.size))) (src := 31) (dst := 9) (e := 5) Tryd.underlying31 Tryd.underlying5 Tryd.underlying9 d1
  have v2 := RdB.conv (P := Tryd.prog) (Rd.below HS2.out ((hb.mono HB.out.size))) (src := 31) (dst := 9) (e := 5) Tryd.underlying31 Tryd.underlying5 Tryd.underlying9 d2
  rw [HSX.out] at v1 v2
  have HB1 := Lib.hid (HB.out.trans (hb.mono HB.out.size))
  clear p0 p1 q0 q1 hb
  go_wp2
  go_ret
  exact ⟨rfl, HB1.out⟩

end Go.Proofs.YtklkgddldndmmaaDoor

/- The walk of Same, where both sides read as one list. -/
namespace Go.Proofs.YtklkgddldndmmaaDoor
open Go.RowKit
set_option linter.unusedVariables false
set_option linter.unusedSimpArgs false

set_option maxRecDepth 100000 in
set_option maxHeartbeats 2000000 in
theorem eqf49_any (A1 A2 : Option Addr) (n c1 c2 : Nat) (ps : List PartL) (w : World) (hn : n ≤ 2147483647) (hv : ∀ p ∈ ps, p.1.length ≤ 2147483647 ∧ ∀ h ∈ p.1, h.2.length ≤ 2147483647) (r1 : RdP w w.heap.size A1 n ps) (r2 : RdP w w.heap.size A2 n ps) :
    Calls Tryd.prog 49 #[.slice A1 n c1, .slice A2 n c2, .func (.func 50) #[] #[]] w fun e w' => e = .returned (.bool true) ∧ Below w.heap.size w w' := by
  have R1 := Lib.hid r1
  have R2 := Lib.hid r2
  have HV := Lib.hid hv
  clear r1 r2 hv
  go_enter Tryd.func49, Tryd.ntmps49
  go_wp2_with fail
  go_loopw [17] (fun i wr => ∃ k : Nat, k ≤ n ∧ i = .int .i64 k ∧ Hid (Below w.heap.size w wr)) (fun i _ => n - (intOf i).toNat)
  case atStart => exact ⟨0, Nat.zero_le _, rfl, Lib.hid (Below.refl _ _)⟩
  case round =>
    obtain ⟨k, hk, rfl, HB⟩ := hrel
    by_cases hlt : k < n
    · obtain ⟨b1, o1, rfl, hb1, h1⟩ := R1.out.2 (by omega)
      obtain ⟨b2, o2, rfl, hb2, h2⟩ := R2.out.2 (by omega)
      obtain ⟨p, hp⟩ : ∃ s, ps[k]? = some s := ⟨_, List.getElem?_eq_getElem (by rw [R1.out.1]; exact hlt)⟩
      obtain ⟨Ah, nh, ch, Ab, nb, cb, a1, a2, ha, hb⟩ := h1 k p hp
      obtain ⟨Eh, mh, dh, Eb, mb, db, e1, e2, he, hf⟩ := h2 k p hp
      have d1 := (HB.out.cell (p := ⟨b1, o1 + k * 2, none⟩) hb1).trans a1
      have d2 := (HB.out.cell (p := ⟨b1, o1 + k * 2 + 1, none⟩) hb1).trans a2
      have f1 := (HB.out.cell (p := ⟨b2, o2 + k * 2, none⟩) hb2).trans e1
      have f2 := (HB.out.cell (p := ⟨b2, o2 + k * 2 + 1, none⟩) hb2).trans e2
      obtain rfl : mh = nh := by have h := ha.1; have h2 := he.1; omega
      obtain rfl : mb = nb := by have h := hb.len; have h2 := hf.len; omega
      have hvl := HV.out p (List.mem_of_getElem? hp)
      have hlt1 : b1 < wr.heap.size := Nat.lt_of_lt_of_le hb1 HB.out.size
      have hlt2 : b2 < wr.heap.size := Nat.lt_of_lt_of_le hb2 HB.out.size
      have hal := ((Below.refl wr.heap.size wr).alloc (Nat.le_refl _) (.cells #[.slice Ah mh ch, .slice Ab mb cb] 41)).alloc (by simp) (.cells #[.slice Eh mh dh, .slice Eb mb db] 41)
      have HBa := Lib.hid (HB.out.trans (hal.mono HB.out.size))
      have HS := Lib.hid (same50_any p Ah Eh Ab Eb mh ch dh mb cb db _ (by have h := ha.1; have h2 := hvl.1; omega) hvl.2 ((ha.below HBa.out).more HBa.out.size) ((he.below HBa.out).more HBa.out.size) ((hb.below HBa.out).more HBa.out.size) ((hf.below HBa.out).more HBa.out.size))
      clear h1 h2 a1 a2 e1 e2 ha hb he hf hp hal hvl
      go_wp2_with fail
      refine HS.out.mono ?_
      rintro e w1 ⟨rfl, hb⟩
      have HB1 := Lib.hid (HBa.out.trans (hb.mono HBa.out.size))
      clear hb d1 d2 f1 f2 hlt1 hlt2
      go_wp2_with fail
      go_roundw
      case rel => exact ⟨k + 1, by omega, by go_num, HB1⟩
      case measure => simp [intOf]; omega
    · go_wp2
      go_ret
      exact ⟨rfl, HB.out⟩

theorem same26_any (A1 A2 : Option Addr) (n c1 c2 : Nat) (ps : List PartL) (w : World) (hn : n ≤ 2147483647) (hv : ∀ p ∈ ps, p.1.length ≤ 2147483647 ∧ ∀ h ∈ p.1, h.2.length ≤ 2147483647) (r1 : RdP w w.heap.size A1 n ps) (r2 : RdP w w.heap.size A2 n ps) :
    Calls Tryd.prog 26 #[.slice A1 n c1, .slice A2 n c2] w fun e w' => e = .returned (.bool true) ∧ Below w.heap.size w w' := by
  have HE := Lib.hid (eqf49_any A1 A2 n c1 c2 ps w hn hv r1 r2)
  clear r1 r2 hv
  go_enter Tryd.func26, Tryd.ntmps26
  go_wp2_with fail
  refine HE.out.mono ?_
  rintro e w1 ⟨rfl, hb⟩
  go_wp2
  go_ret
  exact ⟨rfl, hb⟩

end Go.Proofs.YtklkgddldndmmaaDoor

/- Readings through blocks of a given kind: what a list of parts under way reads as. -/
namespace Go.Proofs.YtklkgddldndmmaaDoor
open Go.RowKit
set_option linter.unusedVariables false
set_option linter.unusedSimpArgs false

/-- As Rd, each block of kind S. -/
def RdK (w : World) (S : Nat → Prop) (size : Nat) (A : Option Addr) (n : Nat) (xs : List Value) : Prop :=
  xs.length = n * size ∧ (0 < n → ∃ b o, A = some ⟨b, o, none⟩ ∧ S b ∧ ∀ j u, xs[j]? = some u → w.cell? ⟨b, o + j, none⟩ = some u)
def RdHK (w : World) (S : Nat → Prop) (A : Option Addr) (n : Nat) (hs : HdrL) : Prop :=
  hs.length = n ∧ (0 < n → ∃ b o, A = some ⟨b, o, none⟩ ∧ S b ∧ ∀ (i : Nat) h, hs[i]? = some h → w.cell? ⟨b, o + i * 2, none⟩ = some (.string h.1) ∧
    ∃ Av nv cv, w.cell? ⟨b, o + i * 2 + 1, none⟩ = some (.slice Av nv cv) ∧ RdK w S 1 Av nv (h.2.map Value.string))
section
variable {w w' : World} {S S' : Nat → Prop} {A : Option Addr} {n size B : Nat} {xs : List Value} {hs : HdrL}
theorem RdK.keep (h : RdK w S size A n xs) (hk : ∀ k, S k → w'.heap[k]? = w.heap[k]?) (hS : ∀ k, S k → S' k) : RdK w' S' size A n xs :=
  ⟨h.1, fun hn => by
    obtain ⟨b, o, e, hb, hc⟩ := h.2 hn
    exact ⟨b, o, e, hS b hb, fun j u hu => (World.cell?_of_block (a := ⟨b, o + j, none⟩) (hk b hb)).trans (hc j u hu)⟩⟩
theorem RdHK.keep (h : RdHK w S A n hs) (hk : ∀ k, S k → w'.heap[k]? = w.heap[k]?) (hS : ∀ k, S k → S' k) : RdHK w' S' A n hs :=
  ⟨h.1, fun hn => by
    obtain ⟨b, o, e, hb, hc⟩ := h.2 hn
    refine ⟨b, o, e, hS b hb, fun i x hx => ?_⟩
    obtain ⟨c1, Av, nv, cv, c2, hr⟩ := hc i x hx
    exact ⟨(World.cell?_of_block (a := ⟨b, o + i * 2, none⟩) (hk b hb)).trans c1, Av, nv, cv, (World.cell?_of_block (a := ⟨b, o + i * 2 + 1, none⟩) (hk b hb)).trans c2, hr.keep hk hS⟩⟩
theorem RdK.rd (h : RdK w S size A n xs) (hS : ∀ k, S k → k < B) : Rd w B size A n xs :=
  ⟨h.1, fun hn => by
    obtain ⟨b, o, e, hb, hc⟩ := h.2 hn
    exact ⟨b, o, e, hS b hb, hc⟩⟩
theorem RdHK.rdh (h : RdHK w S A n hs) (hS : ∀ k, S k → k < B) : RdH w B A n hs :=
  ⟨h.1, fun hn => by
    obtain ⟨b, o, e, hb, hc⟩ := h.2 hn
    refine ⟨b, o, e, hS b hb, fun i x hx => ?_⟩
    obtain ⟨c1, Av, nv, cv, c2, hr⟩ := hc i x hx
    exact ⟨c1, Av, nv, cv, c2, hr.rd hS⟩⟩
theorem Rd.rdk (h : Rd w B size A n xs) : RdK w (fun k => k < B) size A n xs := h
/-- What CanonHead leaves, by kind: its row is new, its values lie below B. -/
theorem OutH.rdhk {w0 : World} {c : Nat} (h : OutH B w0 w (.slice A n c) hs) (hn : hs.length = n) (hS1 : ∀ k, k < B → S k) (hS2 : ∀ k, w0.heap.size ≤ k → k < w.heap.size → S k) : RdHK w S A n hs := by
  obtain ⟨xs, hown, hc, hb⟩ := h
  rw [hn] at hown
  refine ⟨hn, fun h0 => ?_⟩
  obtain ⟨g, cap, hv, hg, hlt⟩ := hown.form h0
  injection hv with hA _ _
  subst hA
  have hgb : w0.heap.size ≤ g := by
    rcases hown.2 with ⟨e, _⟩ | ⟨g', cap', cur, e, hg', _⟩
    · cases e
    · cases e
      exact hg'
  refine ⟨g, 0, rfl, hS2 g hgb hlt, fun i x hx => ?_⟩
  obtain ⟨c0, Av, nv, cv, c1, hr⟩ := hc.2.2 i x hx
  have e0 := hown.cells (g := g) rfl _ _ c0
  have e1 := hown.cells (g := g) rfl _ _ c1
  rw [Addr.add_lit] at e0 e1
  exact ⟨e0, Av, nv, cv, by rw [Nat.add_assoc]; exact e1, ⟨hr.1, fun h => by
    obtain ⟨b, o, e, hb', hcc⟩ := hr.2 h
    exact ⟨b, o, e, hS1 b hb', hcc⟩⟩⟩
end

/-- A []Part under way: a row made since w0; its parts read through other blocks. -/
def OutP (w0 w : World) (v : Value) (ps : List PartL) : Prop :=
  Below w0.heap.size w0 w ∧ ∃ xs, w.ownsRow w0.heap.size 41 2 v ps.length xs ∧ ∀ (i : Nat) p, ps[i]? = some p → ∃ Ah nh ch Ab nb cb, xs[i * 2]? = some (.slice Ah nh ch) ∧ xs[i * 2 + 1]? = some (.slice Ab nb cb) ∧
    RdHK w (fun k => k < w.heap.size ∧ some k ≠ v.ownBlock) Ah nh p.1 ∧ RdK w (fun k => k < w.heap.size ∧ some k ≠ v.ownBlock) 1 Ab nb (Lib.byteCells p.2)

end Go.Proofs.YtklkgddldndmmaaDoor

/- The append of one part to a list of parts under way. -/
namespace Go.Proofs.YtklkgddldndmmaaDoor
open Go.RowKit
set_option linter.unusedVariables false
set_option linter.unusedSimpArgs false

theorem OutP.nil (w : World) : OutP w w (.slice none 0 0) [] := ⟨Below.refl _ _, [], World.ownsRow_nil _ _ _ _, fun i p hp => by simp at hp⟩

theorem wp_out_part {w0 w : World} {o : Oper} {a : Act} {K : Act → World → Prop} {Q : Exit → Act → World → Prop} (s x : Operand)
    (ho : o.op = .call { callee := .builtin .append, args := #[s, x], argTypes := #[28, 28] }) {v : Value} {ps : List PartL} (hs : a.eval s = v) (h : OutP w0 w v ps) (vb : Nat) (hx : a.eval x = .slice (some ⟨vb, 0, none⟩) 1 1)
    {Ah Ab : Option Addr} {nh ch nb cb : Nat} (hvb : w.heap[vb]? = some (.cells #[.slice Ah nh ch, .slice Ab nb cb] 41 (0, 0))) (p : PartL)
    (rh : RdHK w (fun k => k < w.heap.size ∧ some k ≠ v.ownBlock) Ah nh p.1) (rb : RdK w (fun k => k < w.heap.size ∧ some k ≠ v.ownBlock) 1 Ab nb (Lib.byteCells p.2)) (hlen : ps.length ≤ 2097152)
    (hK : ∀ v' w', OutP w0 w' v' (ps ++ [p]) → w.grownBy w' v.ownBlock → K (a.put o.dst v') w') : o.wp Tryd.prog a w K Q := by
  obtain ⟨i41, hi, hz0, hz1, hz2⟩ := info_parts info41
  obtain ⟨hb, xs, hown, hc⟩ := h
  have hr : Rd w w.heap.size 2 (some ⟨vb, 0, none⟩) 1 [.slice Ah nh ch, .slice Ab nb cb] := ⟨rfl, fun _ => ⟨vb, 0, rfl, (Array.getElem?_eq_some_iff.1 hvb).1, fun j u hu => by
    rw [Nat.zero_add, Lib.cell_of_heap hvb]
    simpa using hu⟩⟩
  refine wp_append_any w s x 28 ho w0.heap.size 41 i41 (.agg #[.slice none 0 0, .slice none 0 0]) 2 48 Tryd.underlying28 hi hz0 hz1 hz2 rfl (by decide) v ps.length xs hs hown w.heap.size (some ⟨vb, 0, none⟩) 1 1 [.slice Ah nh ch, .slice Ab nb cb] hx hr (by
    intro u hu
    simp only [List.mem_cons, List.not_mem_nil, or_false] at hu
    rcases hu with rfl | rfl <;> rfl) (by unfold maxLen; omega) (by omega) hb.size ?_
  intro A' c' w' hown' hgrow hlie
  have hk : ∀ k, (k < w.heap.size ∧ some k ≠ v.ownBlock) → w'.heap[k]? = w.heap[k]? := fun k hk => hgrow.block k hk.1 hk.2
  have hS : ∀ k, (k < w.heap.size ∧ some k ≠ v.ownBlock) → (k < w'.heap.size ∧ some k ≠ (Value.slice A' (ps.length + 1) c').ownBlock) := fun k hk => ⟨Nat.lt_of_lt_of_le hk.1 hgrow.size, fun e => by
    rcases hlie with e2 | e2
    · exact hk.2 (e.trans e2)
    · have := Option.some.inj (e.trans e2)
      omega⟩
  have hxl := hown.1
  refine hK _ w' ⟨hb.grown hgrow hb.size (fun j hj => (hown.lt j hj).1), xs ++ [.slice Ah nh ch, .slice Ab nb cb], by rw [List.length_append]; exact hown', fun i q hq => ?_⟩ hgrow
  by_cases hi2 : i < ps.length
  · rw [List.getElem?_append_left hi2] at hq
    obtain ⟨A1, n1, d1, A2, n2, d2, e1, e2, h1, h2⟩ := hc i q hq
    exact ⟨A1, n1, d1, A2, n2, d2, by rw [List.getElem?_append_left (by omega)]; exact e1, by rw [List.getElem?_append_left (by omega)]; exact e2, h1.keep hk hS, h2.keep hk hS⟩
  · have hil := (List.getElem?_eq_some_iff.1 hq).1
    simp at hil
    obtain rfl : i = ps.length := by omega
    rw [List.getElem?_append_right (Nat.le_refl _), Nat.sub_self] at hq
    simp at hq
    subst hq
    exact ⟨Ah, nh, ch, Ab, nb, cb, by rw [List.getElem?_append_right (by omega), hxl, Nat.sub_self]; rfl, by rw [List.getElem?_append_right (by omega), hxl, show ps.length * 2 + 1 - ps.length * 2 = 1 by omega]; rfl, rh.keep hk hS, rb.keep hk hS⟩

end Go.Proofs.YtklkgddldndmmaaDoor

/- The walk of CanonParts. -/
namespace Go.Proofs.YtklkgddldndmmaaDoor
open Go.RowKit
set_option linter.unusedVariables false
set_option linter.unusedSimpArgs false

theorem step_out_part {w0 w : World} {ops : Array Oper} {o : Oper} {a : Act} {K : Act → World → Prop} {Q : Exit → Act → World → Prop} {E : Prop} (hgd : o.guard = none) (s x : Operand)
    (ho : o.op = .call { callee := .builtin .append, args := #[s, x], argTypes := #[28, 28] }) {v : Value} {ps : List PartL} (hs : a.eval s = v) (h : OutP w0 w v ps) (vb : Nat) (hx : a.eval x = .slice (some ⟨vb, 0, none⟩) 1 1)
    {Ah Ab : Option Addr} {nh ch nb cb : Nat} (hvb : w.heap[vb]? = some (.cells #[.slice Ah nh ch, .slice Ab nb cb] 41 (0, 0))) (p : PartL)
    (rh : RdHK w (fun k => k < w.heap.size ∧ some k ≠ v.ownBlock) Ah nh p.1) (rb : RdK w (fun k => k < w.heap.size ∧ some k ≠ v.ownBlock) 1 Ab nb (Lib.byteCells p.2)) (hlen : ps.length ≤ 2097152)
    (hK : ∀ v' w', OutP w0 w' v' (ps ++ [p]) → w.grownBy w' v.ownBlock → K (a.put o.dst v') w') : if Region.wanted o (yielded ops a.tmps) = true then Oper.wp Tryd.prog o a w K Q else E := by
  rw [if_pos (by simp [Region.wanted, hgd])]
  exact wp_out_part s x ho hs h vb hx hvb p rh rb hlen hK

theorem OutP.later {w0 w w' : World} {v : Value} {ps : List PartL} (h : OutP w0 w v ps) (hb : Below w.heap.size w w') : OutP w0 w' v ps := by
  obtain ⟨h0, xs, hown, hc⟩ := h
  refine ⟨h0.trans (hb.mono h0.size), xs, own_carry hown fun g hg => hb.block g (hown.lt g hg).2, fun i p hp => ?_⟩
  obtain ⟨Ah, nh, ch, Ab, nb, cb, e1, e2, h1, h2⟩ := hc i p hp
  have hk : ∀ k, (k < w.heap.size ∧ some k ≠ v.ownBlock) → w'.heap[k]? = w.heap[k]? := fun k hk => hb.block k hk.1
  have hS : ∀ k, (k < w.heap.size ∧ some k ≠ v.ownBlock) → (k < w'.heap.size ∧ some k ≠ v.ownBlock) := fun k hk => ⟨Nat.lt_of_lt_of_le hk.1 hb.size, hk.2⟩
  exact ⟨Ah, nh, ch, Ab, nb, cb, e1, e2, h1.keep hk hS, h2.keep hk hS⟩
/-- The row's own block is new since w0, and lies in w. -/
theorem OutP.own {w0 w : World} {v : Value} {ps : List PartL} (h : OutP w0 w v ps) {g : Nat} (hg : v.ownBlock = some g) : w0.heap.size ≤ g ∧ g < w.heap.size := by
  obtain ⟨h0, xs, hown, _⟩ := h
  exact hown.lt g hg
theorem OutP.rdp {w0 w : World} {A : Option Addr} {n c : Nat} {ps : List PartL} (h : OutP w0 w (.slice A n c) ps) (hn : ps.length = n) : RdP w w.heap.size A n ps := by
  obtain ⟨h0, xs, hown, hc⟩ := h
  rw [hn] at hown
  refine ⟨hn, fun hp => ?_⟩
  obtain ⟨b, o, rfl, hb, hcell⟩ := (Rd.of_own hown).2 hp
  refine ⟨b, o, rfl, hb, fun i p hi => ?_⟩
  obtain ⟨Ah, nh, ch, Ab, nb, cb, e1, e2, h1, h2⟩ := hc i p hi
  exact ⟨Ah, nh, ch, Ab, nb, cb, hcell _ _ e1, by rw [Nat.add_assoc]; exact hcell _ _ e2, h1.rdh (fun k hk => hk.1), h2.rd (fun k hk => hk.1)⟩

def canonP (p : PartL) : PartL := (canonH p.1, p.2)

/-- What the append of a canonical part finds. -/
theorem canon_ready {w wa W w' w3 : World} {vo : Value} {done : List PartL} {hs : HdrL} {l : List UInt8} {A Ab : Option Addr} {n c nb : Nat} (hO : OutP w wa vo done) (hW : Below wa.heap.size wa W) (hH : OutH w.heap.size W w' (.slice A n c) hs) (hn : hs.length = n) (hb : RdB w w.heap.size Ab nb l) (h3 : Below w'.heap.size w' w3) :
    OutP w w3 vo done ∧ RdHK w3 (fun k => k < w3.heap.size ∧ some k ≠ vo.ownBlock) A n hs ∧ RdK w3 (fun k => k < w3.heap.size ∧ some k ≠ vo.ownBlock) 1 Ab nb (Lib.byteCells l) := by
  have hB : Below W.heap.size W w' := by obtain ⟨_, _, _, h⟩ := hH; exact h
  have hwa := hO.1
  have b1 : Below wa.heap.size wa w' := hW.trans (hB.mono hW.size)
  have b2 : Below wa.heap.size wa w3 := b1.trans (h3.mono b1.size)
  have b3 : Below w.heap.size w w3 := hwa.trans (b2.mono hwa.size)
  refine ⟨hO.later b2, ?_, ?_⟩
  · refine (hH.rdhk (S := fun k => k < w'.heap.size ∧ some k ≠ vo.ownBlock) hn (fun k hk => ⟨?_, fun e => ?_⟩) (fun k hk1 hk2 => ⟨hk2, fun e => ?_⟩)).keep (fun k hk => h3.block k hk.1) (fun k hk => ⟨Nat.lt_of_lt_of_le hk.1 h3.size, hk.2⟩)
    · exact Nat.lt_of_lt_of_le hk (Nat.le_trans hwa.size b1.size)
    · have := (hO.own e.symm).1
      omega
    · have := (hO.own e.symm).2
      have := hW.size
      omega
  · refine ⟨hb.1, fun h0 => ?_⟩
    obtain ⟨b, o, e, hlt, hc⟩ := hb.2 h0
    refine ⟨b, o, e, ⟨Nat.lt_of_lt_of_le hlt b3.size, fun e => ?_⟩, fun j u hu => (b3.cell (p := ⟨b, o + j, none⟩) hlt).trans (hc j u hu)⟩
    have := (hO.own e.symm).1
    omega

set_option maxRecDepth 100000 in
set_option maxHeartbeats 4000000 in
theorem canonParts_any (A : Option Addr) (n c : Nat) (ps : List PartL) (w : World) (hn : n ≤ 2097152) (hks : ∀ p ∈ ps, p.1.length ≤ 1000 ∧ ∀ h ∈ p.1, h.1.size ≤ 2147483647) (hr : RdP w w.heap.size A n ps) :
    Calls Tryd.prog 27 #[.slice A n c] w fun e w' => ∃ v, e = .returned v ∧ OutP w w' v (ps.map canonP) := by
  have HR := Lib.hid hr
  have HK := Lib.hid hks
  clear hr hks
  go_enter Tryd.func27, Tryd.ntmps27
  go_wp2_with fail
  go_loopw [3, 8] (fun v i wr => ∃ k : Nat, k ≤ n ∧ i = .int .i64 k ∧ Hid (OutP w wr v ((ps.take k).map canonP))) (fun _ i _ => n - (intOf i).toNat)
  case atStart => exact ⟨0, Nat.zero_le _, rfl, Lib.hid (OutP.nil w)⟩
  case round =>
    obtain ⟨k, hk, rfl, HO⟩ := hrel
    by_cases hlt : k < n
    · obtain ⟨b, o, rfl, hb, hcl⟩ := HR.out.2 (by omega)
      obtain ⟨p, hp⟩ : ∃ x, ps[k]? = some x := ⟨_, List.getElem?_eq_getElem (by rw [HR.out.1]; exact hlt)⟩
      obtain ⟨Ah, nh, ch, Ab, nb, cb, c1, c2, hH, hY⟩ := hcl k p hp
      have hB := HO.out.1
      have d1 := (hB.cell (p := ⟨b, o + k * 2, none⟩) hb).trans c1
      have d2 := (hB.cell (p := ⟨b, o + k * 2 + 1, none⟩) hb).trans c2
      have hkp := HK.out p (List.mem_of_getElem? hp)
      have hal := (Below.refl wr.heap.size wr).alloc (Nat.le_refl _) (.cells #[.slice Ah nh ch, .slice Ab nb cb] 41)
      have g1 : (wr.alloc (.cells #[.slice Ah nh ch, .slice Ab nb cb] 41)).heap[wr.heap.size]? = some (.cells #[.slice Ah nh ch, .slice Ab nb cb] 41 (0, 0)) := heap_alloc_new wr _
      obtain ⟨wa, hwa⟩ : ∃ y, y = wr.alloc (.cells #[.slice Ah nh ch, .slice Ab nb cb] 41) := ⟨_, rfl⟩
      have HOa := Lib.hid (show OutP w wa _ ((ps.take k).map canonP) by rw [hwa]; exact HO.out.later hal)
      have hsa : wr.heap.size < wa.heap.size := by rw [hwa]; simp
      rw [← hwa] at g1
      have k1 : wa.cell? ⟨wr.heap.size, 0, none⟩ = some (.slice Ah nh ch) := by rw [Lib.cell_of_heap g1]; rfl
      have k2 : wa.cell? ⟨wr.heap.size, 1, none⟩ = some (.slice Ab nb cb) := by rw [Lib.cell_of_heap g1]; rfl
      have hnh : nh ≤ 1000 := by have h1 := hH.1; have h2 := hkp.1; omega
      have HC := Lib.hid (fun (W : World) (hW : Below wa.heap.size wa W) => (canonHead_any Ah nh ch w.heap.size p.1 W hnh (Nat.le_trans HOa.out.1.size hW.size) hkp.2 (hH.below (HOa.out.1.trans (hW.mono HOa.out.1.size)))).mono fun e w' h => (show ∃ A5 c5, e = .returned (.slice A5 nh c5) ∧ OutH w.heap.size W w' (.slice A5 nh c5) (canonH p.1) ∧ Below wa.heap.size wa W ∧ w'.cell? ⟨wr.heap.size, 1, none⟩ = some (.slice Ab nb cb) from by
        obtain ⟨v, he, ho⟩ := h
        have hb' : Below W.heap.size W w' := by obtain ⟨_, _, _, h⟩ := ho; exact h
        obtain ⟨A5, c5, hv⟩ := ho.slice
        rw [canonH_len, hH.1] at hv
        exact ⟨A5, c5, hv ▸ he, hv ▸ ho, hW, ((hW.trans (hb'.mono hW.size)).cell (p := ⟨wr.heap.size, 1, none⟩) hsa).trans k2⟩))
      have HY := Lib.hid hY
      have HNc : Hid ((canonH p.1).length = nh) := by show _ = _; rw [canonH_len]; exact hH.1
      have HN : Hid ((ps.take k).map canonP ++ [(canonH p.1, p.2)] = (ps.take (k + 1)).map canonP) := by show _ = _; rw [take_at hp, List.map_append]; rfl
      have HLn : Hid (((ps.take k).map canonP).length ≤ 2097152) := by show _ ≤ _; rw [List.length_map, List.length_take]; omega
      clear hcl c1 c2 hH hY hp hkp hal g1 hB HO
      go_wp2_with fail
      rw [← hwa]
      clear hwa d1 d2
      go_wp2_with fail
      go_region_law (first
        | (refine step_out_part (w0 := w) (ps := (ps.take k).map canonP) rfl (.tmp 12) (.tmp 19) rfl rfl ?_ w'.heap.size rfl (heap_alloc_new _ _) (canonH p.1, p.2) ?_ ?_ HLn.out ?_; exact (hR _ ((Below.refl _ _).alloc (Nat.le_refl _) _)).1; exact (hR _ ((Below.refl _ _).alloc (Nat.le_refl _) _)).2.1; exact (hR _ ((Below.refl _ _).alloc (Nat.le_refl _) _)).2.2; intro v' w2' hO' hK')
        | (go_simp; go_at_call 52; go_must (refine (HC.out _ ?_).mono ?_; (repeat (first | exact Below.refl _ _ | refine Below.drew ?_)); rintro e w' ⟨A5, c5, rfl, hO, hW, k2'⟩; have hR := fun w3 h3 => canon_ready (w3 := w3) HOa.out hW hO HNc.out HY.out h3)))
      all_goals
        rw [HN.out] at hO'
        have HO' := Lib.hid hO'
        clear hO' hK'
        go_wp2_with fail
        go_roundw
        case rel => exact ⟨k + 1, by omega, by go_num, HO'⟩
        case measure => simp [intOf]; omega
    · have ht : ps.take k = ps := List.take_of_length_le (by rw [HR.out.1]; omega)
      have hO := HO.out
      rw [ht] at hO
      have HO2 := Lib.hid hO
      clear hO ht
      go_wp2
      go_ret
      exact ⟨_, rfl, HO2.out⟩

end Go.Proofs.YtklkgddldndmmaaDoor
