/- The walk of Canon. -/
import Derived.Test.YtklkgddldndmmaaDoorKeyT
namespace Go.Proofs.YtklkgddldndmmaaDoor
open Go.RowKit
set_option linter.unusedVariables false
set_option linter.unusedSimpArgs false

def canonC (up : Bool) (c : UInt8) : UInt8 :=
  if up = true ∧ 97 ≤ c.toNat ∧ c.toNat ≤ 122 then c - 32 else if up = false ∧ 65 ≤ c.toNat ∧ c.toNat ≤ 90 then c + 32 else c
def canonGo : Bool → List UInt8 → List UInt8
  | _, [] => []
  | up, c :: r => canonC up c :: canonGo (c == 45) r
def canonL (l : List UInt8) : List UInt8 := canonGo true l
theorem canonGo_len : ∀ (up : Bool) (l : List UInt8), (canonGo up l).length = l.length
  | _, [] => rfl
  | up, c :: r => by simp [canonGo, canonGo_len]
/-- Is the byte at a place the first of a word? -/
def upAt : Bool → List UInt8 → Nat → Bool
  | up, _, 0 => up
  | up, [], _ + 1 => up
  | _, c :: r, k + 1 => upAt (c == 45) r k
theorem upAt_zero (up : Bool) (l : List UInt8) : upAt up l 0 = up := by cases l <;> rfl
theorem upAt_succ : ∀ (up : Bool) (l : List UInt8) (k : Nat) (c : UInt8), l[k]? = some c → upAt up l (k + 1) = (c == 45)
  | _, [], _, _, h => by simp at h
  | up, x :: r, 0, c, h => by simp at h; subst h; exact upAt_zero _ _
  | up, x :: r, k + 1, c, h => by
    have := upAt_succ (x == 45) r k c (by simpa using h)
    exact this
theorem canonGo_at : ∀ (up : Bool) (l : List UInt8) (k : Nat) (c : UInt8), l[k]? = some c → (canonGo up l)[k]? = some (canonC (upAt up l k) c)
  | _, [], _, _, h => by simp at h
  | up, x :: r, 0, c, h => by simp at h; subst h; rfl
  | up, x :: r, k + 1, c, h => by
    have := canonGo_at (x == 45) r k c (by simpa using h)
    simpa [canonGo, upAt] using this
/-- Half way: the first k bytes are turned. -/
def half (l : List UInt8) (k : Nat) : List UInt8 := (canonL l).take k ++ l.drop k
theorem canonL_len (l : List UInt8) : (canonL l).length = l.length := canonGo_len _ _
theorem half_len (l : List UInt8) (k : Nat) : (half l k).length = l.length := by simp [half, canonL_len]; omega
theorem half_zero (l : List UInt8) : half l 0 = l := by simp [half]
theorem half_end (l : List UInt8) (k : Nat) (h : l.length ≤ k) : half l k = canonL l := by
  unfold half
  rw [List.drop_eq_nil_of_le h, List.take_of_length_le (by rw [canonL_len]; exact h), List.append_nil]
theorem half_at (l : List UInt8) (k : Nat) (c : UInt8) (h : l[k]? = some c) : (half l k)[k]? = some c := by
  have hk := (List.getElem?_eq_some_iff.1 h).1
  unfold half
  rw [List.getElem?_append_right (by simp [canonL_len]; omega)]
  simp [canonL_len]
  rw [show k + (k - min k l.length) = k by omega]
  exact h
theorem half_succ (l : List UInt8) (k : Nat) (c : UInt8) (h : l[k]? = some c) : half l (k + 1) = (half l k).set k (canonC (upAt true l k) c) := by
  have hk := (List.getElem?_eq_some_iff.1 h).1
  have hc := canonGo_at true l k c h
  unfold half
  have hl : ((canonL l).take k).length = k := by simp [canonL_len]; omega
  rw [List.set_append_right _ _ (by omega), hl, Nat.sub_self, List.drop_eq_getElem_cons hk, List.set_cons_zero]
  have hk2 : k < (canonL l).length := by rw [canonL_len]; exact hk
  rw [List.take_succ_eq_append_getElem hk2]
  have : (canonL l)[k] = canonC (upAt true l k) c := by
    have h1 : (canonL l)[k]? = some (canonL l)[k] := List.getElem?_eq_getElem hk2
    unfold canonL at hc h1 ⊢
    rw [hc] at h1
    exact (Option.some.inj h1).symm
  rw [this]
  simp
theorem half_same (l : List UInt8) (k : Nat) (c : UInt8) (h : l[k]? = some c) (hc : canonC (upAt true l k) c = c) : half l (k + 1) = half l k := by
  rw [half_succ l k c h, hc]
  have hk : k < (half l k).length := by rw [half_len]; exact (List.getElem?_eq_some_iff.1 h).1
  have := half_at l k c h
  rw [List.getElem?_eq_getElem hk] at this
  have e := Option.some.inj this
  rw [← e]
  exact List.set_getElem_self hk

/-- A row of bytes of the call's own that may be written. -/
def BRow (w : World) (g : Nat) (l : List UInt8) : Prop := ∃ (cur : Array Value) (fz : Nat × Nat), w.heap[g]? = some (.cells cur 5 fz) ∧ l.length ≤ fz.1 ∧ ∀ (j : Nat) (u : Value), (Lib.byteCells l)[j]? = some u → cur[j]? = some u
section
variable {w w' : World} {g : Nat} {l : List UInt8}
theorem BRow.lt (h : BRow w g l) : g < w.heap.size := by
  obtain ⟨cur, fz, hg, _⟩ := h
  exact (Array.getElem?_eq_some_iff.1 hg).1
theorem BRow.cell (h : BRow w g l) {k : Nat} {c : UInt8} (hk : l[k]? = some c) : w.cell? ⟨g, k, none⟩ = some (.int .u8 (c.toNat : Int)) := by
  obtain ⟨cur, fz, hg, _, hc⟩ := h
  rw [Lib.cell_of_heap hg]
  exact hc k _ (bc_get hk)
theorem BRow.free (h : BRow w g l) {k : Nat} (hk : k < l.length) : w.frozen? ⟨g, k, none⟩ = false := by
  obtain ⟨cur, ⟨lo, hi⟩, hg, hf, _⟩ := h
  have hf' : l.length ≤ lo := hf
  simp [World.frozen?, hg]
  omega
theorem BRow.set (h : BRow w g l) {k : Nat} (hk : k < l.length) (c : UInt8) {v : Value} (hv : v = .int .u8 (c.toNat : Int)) : BRow (w.setCell ⟨g, k, none⟩ v) g (l.set k c) := by
  obtain ⟨cur, fz, hg, hf, hc⟩ := h
  refine ⟨cur.setIfInBounds k v, fz, ?_, by rw [List.length_set]; exact hf, fun j u hu => ?_⟩
  · simp [World.setCell, Array.getElem?_modify, hg]
  · have hkc : k < cur.size := by
      have := hc k _ (bc_get (List.getElem?_eq_getElem hk))
      exact (Array.getElem?_eq_some_iff.1 this).1
    rw [Array.getElem?_setIfInBounds]
    split
    · rename_i e
      subst e
      simp only [Lib.byteCells, List.getElem?_map, List.getElem?_set, hk] at hu
      simp [hk] at hu
      rw [← hu, hv]
    · rename_i e
      refine hc j u ?_
      rw [← hu]
      simp only [Lib.byteCells, List.getElem?_map, List.getElem?_set]
      rw [if_neg e]
theorem BRow.rd (h : BRow w g l) : RdB w w.heap.size (some ⟨g, 0, none⟩) l.length l := by
  refine ⟨by rw [bc_len]; simp, fun hn => ⟨g, 0, rfl, h.lt, fun j u hu => ?_⟩⟩
  obtain ⟨cur, fz, hg, _, hc⟩ := h
  rw [Nat.zero_add, Lib.cell_of_heap hg]
  exact hc j u hu
theorem BRow.new (w : World) (s : ByteArray) (cap : Nat) : BRow (w.drew.alloc (.cells (bytesRow s cap) 5 ((bytesRow s cap).size, (bytesRow s cap).size + 1))) w.heap.size s.data.toList := by
  refine ⟨_, _, heap_alloc_new w.drew _, ?_, fun j u hu => ?_⟩
  · simp [bytesRow]
  · have hj : j < s.data.toList.length := by
      have := (List.getElem?_eq_some_iff.1 hu).1
      rwa [bc_len] at this
    simp only [Lib.byteCells, List.getElem?_map] at hu
    simp only [bytesRow]
    have hj' : j < s.data.size := by simpa using hj
    rw [Array.getElem?_append_left (by simpa using hj')]
    rw [← hu]
    simp
end
theorem sub32 {c : UInt8} (h : 97 ≤ c.toNat) : (((c - 32 : UInt8).toNat : Nat) : Int) = (c.toNat : Int) - 32 := by
  have h1 := c.toNat_lt
  rw [UInt8.toNat_sub]
  simp
  omega
theorem add32 {c : UInt8} (h : c.toNat ≤ 90) : (((c + 32 : UInt8).toNat : Nat) : Int) = (c.toNat : Int) + 32 := by
  rw [UInt8.toNat_add]
  simp
  omega

set_option maxHeartbeats 4000000 in
theorem canon_any (s : ByteArray) (w : World) (hs : s.size ≤ 2147483647) :
    Calls Tryd.prog 60 #[.string s] w fun e w' => e = .returned (.string ⟨(canonL s.data.toList).toArray⟩) ∧ Below w.heap.size w w' := by
  have hcv : (convert 9 31 (.string s)).run Tryd.prog w = _ := run_bytes_of_string w 9 31 5 s Tryd.underlying9 Tryd.underlying31 Tryd.underlying5
  obtain ⟨cap, hcap⟩ : ∃ x, grownCap w s.size 0 5 = x := ⟨_, rfl⟩
  have HC : Hid (s.size ≤ cap) := by show _ ≤ _; rw [← hcap]; exact grownCap_ge _ _ _ _
  rw [hcap] at hcv
  have HR := Lib.hid (BRow.new w s cap)
  have HB := Lib.hid (show Below w.heap.size w (w.drew.alloc (.cells (bytesRow s cap) 5 ((bytesRow s cap).size, (bytesRow s cap).size + 1))) from ((Below.refl _ w).drew).alloc (Nat.le_refl _) _)
  obtain ⟨w1, hw1⟩ : ∃ x, w.drew.alloc (.cells (bytesRow s cap) 5 ((bytesRow s cap).size, (bytesRow s cap).size + 1)) = x := ⟨_, rfl⟩
  rw [hw1] at hcv HR HB
  have HL : Hid (s.data.toList.length = s.size) := by show _ = _; simp
  clear hcap hw1
  go_enter Tryd.func60, Tryd.ntmps60
  go_wp2
  go_loopw [4, 11] (fun u i wr => ∃ k : Nat, k ≤ s.size ∧ i = .int .i64 k ∧ u = .bool (upAt true s.data.toList k) ∧ Hid (BRow wr w.heap.size (half s.data.toList k)) ∧ Hid (Below w.heap.size w wr)) (fun _ i _ => s.size - (intOf i).toNat)
  case atStart => exact ⟨0, Nat.zero_le _, rfl, by rw [upAt_zero], Lib.hid (by rw [half_zero]; exact HR.out), HB⟩
  case round =>
    obtain ⟨k, hk, rfl, rfl, HR2, HB2⟩ := hrel
    by_cases hlt : k < s.size
    · obtain ⟨x, hx⟩ : ∃ x, s.data.toList[k]? = some x := ⟨_, List.getElem?_eq_getElem (by rw [HL.out]; exact hlt)⟩
      have c1 := HR2.out.cell (half_at _ _ _ hx)
      have f1 := HR2.out.free (k := k) (by rw [half_len, HL.out]; exact hlt)
      have hxb := u8_lt x
      have HU : Hid (upAt true s.data.toList (k + 1) = decide ((x.toNat : Int) = 45)) := by
        show _ = _
        rw [upAt_succ true _ k x hx]
        by_cases e : x = 45
        · subst e; rfl
        · have e' : ¬ (x.toNat : Int) = 45 := fun h => e (u8_eq (n := 45) (by decide) h)
          rw [beq_eq_false_iff_ne.2 e, decide_eq_false e']
      have HU2 : Hid (upAt true s.data.toList (k + 1) = ((x.toNat : Int) == 45)) := by
        show _ = _
        rw [HU.out]
        by_cases e : (x.toNat : Int) = 45 <;> simp [e]
      obtain ⟨u, hu⟩ : ∃ u, upAt true s.data.toList k = u := ⟨_, rfl⟩
      have HN : Hid (half s.data.toList (k + 1) = (half s.data.toList k).set k (canonC u x)) := by
        show _ = _
        rw [half_succ _ _ _ hx, hu]
      have HNS : Hid (canonC u x = x → half s.data.toList (k + 1) = half s.data.toList k) := fun h => half_same _ _ _ hx (by rw [hu]; exact h)
      rw [hu]
      clear hu hx
      have hkl : k < (half s.data.toList k).length := by rw [half_len, HL.out]; exact hlt
      cases u with
      | true =>
        by_cases hc : 97 ≤ x.toNat ∧ x.toNat ≤ 122
        · have HX := Lib.hid (HR2.out.set hkl (x - 32) (v := .int .u8 ((x.toNat : Int) - 32)) (by rw [sub32 hc.1]))
          have HE : Hid (canonC true x = x - 32) := by show _ = _; simp [canonC, hc.1, hc.2]
          rw [← HE.out, ← HN.out] at HX
          have HY := Lib.hid (HB2.out.setCell (p := ⟨w.heap.size, k, none⟩) (Nat.le_refl _) (.int .u8 ((x.toNat : Int) - 32)))
          have h1 : (97 : Int) ≤ (x.toNat : Int) := by omega
          have h2 : (x.toNat : Int) ≤ 122 := by omega
          clear hc hkl HE HNS HN
          go_wp2
          go_roundw
          case rel => exact ⟨k + 1, by omega, by go_num, by rw [HU2.out], HX, HY⟩
          case measure => simp [intOf]; omega
        · have HE : Hid (half s.data.toList (k + 1) = half s.data.toList k) := HNS.out (by simp [canonC, hc])
          have HX : Hid (BRow wr w.heap.size (half s.data.toList (k + 1))) := by show BRow _ _ _; rw [HE.out]; exact HR2.out
          have h1 : ¬ (97 : Int) ≤ (x.toNat : Int) ∨ ((97 : Int) ≤ (x.toNat : Int) ∧ ¬ (x.toNat : Int) ≤ 122) := by omega
          clear hc hkl HE HNS HN
          rcases h1 with h1 | ⟨h1, h2⟩
          all_goals
            go_wp2
            go_roundw
            case rel => exact ⟨k + 1, by omega, by go_num, by rw [HU2.out], HX, HB2⟩
            case measure => simp [intOf]; omega
      | false =>
        by_cases hc : 65 ≤ x.toNat ∧ x.toNat ≤ 90
        · have HX := Lib.hid (HR2.out.set hkl (x + 32) (v := .int .u8 ((x.toNat : Int) + 32)) (by rw [add32 hc.2]))
          have HE : Hid (canonC false x = x + 32) := by show _ = _; simp [canonC, hc.1, hc.2]
          rw [← HE.out, ← HN.out] at HX
          have HY := Lib.hid (HB2.out.setCell (p := ⟨w.heap.size, k, none⟩) (Nat.le_refl _) (.int .u8 ((x.toNat : Int) + 32)))
          have h1 : (65 : Int) ≤ (x.toNat : Int) := by omega
          have h2 : (x.toNat : Int) ≤ 90 := by omega
          clear hc hkl HE HNS HN
          go_wp2
          go_roundw
          case rel => exact ⟨k + 1, by omega, by go_num, by rw [HU2.out], HX, HY⟩
          case measure => simp [intOf]; omega
        · have HE : Hid (half s.data.toList (k + 1) = half s.data.toList k) := HNS.out (by simp [canonC, hc])
          have HX : Hid (BRow wr w.heap.size (half s.data.toList (k + 1))) := by show BRow _ _ _; rw [HE.out]; exact HR2.out
          have h1 : ¬ (65 : Int) ≤ (x.toNat : Int) ∨ ((65 : Int) ≤ (x.toNat : Int) ∧ ¬ (x.toNat : Int) ≤ 90) := by omega
          clear hc hkl HE HNS HN
          rcases h1 with h1 | ⟨h1, h2⟩
          all_goals
            go_wp2
            go_roundw
            case rel => exact ⟨k + 1, by omega, by go_num, by rw [HU2.out], HX, HB2⟩
            case measure => simp [intOf]; omega
    · have hr := HR2.out
      rw [half_end _ k (by rw [HL.out]; omega)] at hr
      have hc2 := RdB.conv hr.rd (src := 31) (dst := 9) (e := 5) Tryd.underlying31 Tryd.underlying5 Tryd.underlying9 cap
      rw [canonL_len, HL.out] at hc2
      clear hr
      go_wp2
      go_ret
      exact ⟨rfl, HB2.out⟩

end Go.Proofs.YtklkgddldndmmaaDoor
