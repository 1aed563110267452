/- Texts of the proof, joined: HeadQ, Head, HeadW, CMapP, CMapA, CMapB. -/
import Derived.Test.YtklkgddldndmmaaDoorM04
import Derived.StringKeys
import Derived.Deep.RegionLaw
import Derived.Deep.CutRange
import Derived.Test.YtklkgddldndmmaaDoorM03
/- A header's map under way: what its operations give. -/
namespace Go.Proofs.YtklkgddldndmmaaDoor
open Go.RowKit
open Go.ChangeMaps

/-- The map under way. -/
def HMap (mb : Nat) (D : DataW Unit) (n : Nat) (W : World) : Prop := W.ownsMap Tryd.prog 9 encS mb n D

theorem hmap_lookup {mb n : Nat} {es : List (Lit × DataW Unit)} {key : ByteArray} {W : World} (h : HMap mb (.map es) n W) (hk : ∀ p ∈ es, p.1.sameKey (.string key.data.toList) = false) (hs : key.size ≤ maxLen) :
    (Instr.lookup 72 (.map (some mb)) (.string key) false).run Tryd.prog W = .ok (.slice none 0 0) W := by
  obtain ⟨v, ps, hrun, hv⟩ := World.ownsMap.lookup h (Maps.string_keyed Tryd.underlying9) Tryd.underlying72 (Tryd.zeroValue23 W) (zd := .nil) (zp := []) rfl (WideMaps.keyOf_string_mk Tryd.underlying9 hs)
  have hat : (DataW.map es).atKey (.string key.data.toList) (.nil : DataW Unit) = .nil := by
    unfold DataW.atKey
    have : es.find? (fun p => p.1.sameKey (.string key.data.toList)) = none := List.find?_eq_none.2 fun p hp => by rw [hk p hp]; simp
    simp only [this]
  rw [hat] at hv
  rw [encS_nil hv] at hrun
  exact hrun

/-- The world behind a store into the map. -/
noncomputable def putW (mb : Nat) (key : ByteArray) (v : Value) (W : World) : World :=
  match (Instr.mapUpdate 72 (.map (some mb)) (.string key) v).run Tryd.prog W with
  | .ok _ w' => w'
  | _ => W

theorem hmap_update {mb n g m c : Nat} {es : List (Lit × DataW Unit)} {key : ByteArray} {W : World} (h : HMap mb (.map es) n W) (h1 : ∀ p ∈ es, p.1.sameKey (.string key.data.toList) = false) (h2 : ∀ p ∈ es, (Lit.string key.data.toList).before p.1 = false) (hs : key.size ≤ maxLen) (hn : n < maxLen) :
    (Instr.mapUpdate 72 (.map (some mb)) (.string key) (.slice (some ⟨g, 0, none⟩) m c)).run Tryd.prog W = .ok () (putW mb key (.slice (some ⟨g, 0, none⟩) m c) W) ∧
    HMap mb (.map (es ++ [(.string key.data.toList, .agg [.lit (.int .i64 g), .lit (.int .i64 m), .lit (.int .i64 c)])])) (n + 1) (putW mb key (.slice (some ⟨g, 0, none⟩) m c) W) ∧
    W.grownBy (putW mb key (.slice (some ⟨g, 0, none⟩) m c) W) (some mb) := by
  obtain ⟨w', hrun, ho, hg⟩ := World.ownsMap.update h (Maps.string_keyed Tryd.underlying9) Tryd.underlying72 hn (val := .slice (some ⟨g, 0, none⟩) m c) (d := .agg [.lit (.int .i64 g), .lit (.int .i64 m), .lit (.int .i64 c)]) (ps := []) (WideMaps.keyOf_string_mk Tryd.underlying9 hs) rfl
  have hw : putW mb key (.slice (some ⟨g, 0, none⟩) m c) W = w' := by unfold putW; rw [hrun]
  rw [hw]
  rw [put_last es _ _ h1 h2] at ho
  exact ⟨hrun, ho, hg⟩

end Go.Proofs.YtklkgddldndmmaaDoor

/- The walk of impl.header. -/
namespace Go.Proofs.YtklkgddldndmmaaDoor
open Go.RowKit
set_option linter.unusedVariables false
set_option linter.unusedSimpArgs false

/-- A []Header that reads as a list of keys, each with its values. -/
def RdH (w : World) (B : Nat) (A : Option Addr) (n : Nat) (hs : List (ByteArray × List ByteArray)) : Prop :=
  hs.length = n ∧ (0 < n → ∃ b o, A = some ⟨b, o, none⟩ ∧ b < B ∧ ∀ (i : Nat) h, hs[i]? = some h → w.cell? ⟨b, o + i * 2, none⟩ = some (.string h.1) ∧
    ∃ Av nv cv, w.cell? ⟨b, o + i * 2 + 1, none⟩ = some (.slice Av nv cv) ∧ Rd w B 1 Av nv (h.2.map Value.string))

/-- 'append(nil, vals...)' of strings, as a step. -/
theorem step_append_nil9 {ops : Array Oper} {o : Oper} {a : Act} {K : Act → World → Prop} {Q : Exit → Act → World → Prop} {E : Prop} (mb n : Nat) (D : DataW Unit) (w W : World) (hgd : o.guard = none) (s x : Operand) (ho : o.op = .call { callee := .builtin .append, args := #[s, x], argTypes := #[23, 23] })
    (hB : Below w.heap.size w W) (hm : HMap mb D n W) (hs : a.eval s = .slice none 0 0) (B : Nat) (A : Option Addr) (m c : Nat) (ss : List ByteArray) (hx : a.eval x = .slice A m c) (hr : Rd w B 1 A m (ss.map Value.string)) (hBw : B ≤ w.heap.size) (hm0 : 0 < m) (hmm : m ≤ 1000000)
    (h : ∀ g c' W', Below w.heap.size w W' → w.heap.size ≤ g → (∀ j u, (ss.map Value.string)[j]? = some u → W'.cell? ⟨g, 0 + j, none⟩ = some u) → HMap mb D n W' → K (a.put o.dst (.slice (some ⟨g, 0, none⟩) m c')) W') : if Region.wanted o (yielded ops a.tmps) = true then Oper.wp Tryd.prog o a W K Q else E := by
  rw [if_pos (by simp [Region.wanted, hgd])]
  obtain ⟨i9, hi9, hb0, hb1, hb2⟩ := info_parts info9
  refine wp_append_any W s x 23 ho w.heap.size 9 i9 (.string ⟨#[]⟩) 1 16 Tryd.underlying23 hi9 hb0 hb1 hb2 rfl (by decide) _ 0 [] hs (World.ownsRow_nil _ _ _ _) w.heap.size A m c (ss.map Value.string) hx ((hr.more hBw).below hB) (by intro u hu; obtain ⟨_, _, rfl⟩ := List.mem_map.1 hu; rfl) (by unfold maxLen; omega) (by omega) hB.size ?_
  intro A' c' W' hown hgrow hlie
  rw [Nat.zero_add] at hown ⊢
  rw [List.nil_append] at hown
  obtain ⟨g, cap, hv, _, _⟩ := hown.form hm0
  injection hv with h1 _ _
  subst h1
  have hg : w.heap.size ≤ g := by
    rcases hown.2 with ⟨hv, _⟩ | ⟨g', cap, cur, hv, hg, _⟩
    · cases hv
    · cases hv
      exact hg
  refine h g c' W' (hB.grown hgrow hB.size (fun j hj => by cases hj)) hg (fun j u hu => ?_) (World.ownsMap.kept hm hgrow (by simp [Value.ownBlock]))
  have := hown.cells (g := g) rfl j u hu
  rwa [Addr.add_lit] at this

/-- What holds of the map and of the rows of values behind k keys. -/
structure HInv (W0 : World) (mb : Nat) (hs : List (ByteArray × List ByteArray)) (k : Nat) (gs : List (Nat × Nat)) (w : World) : Prop where
  below : Below W0.heap.size W0 w
  len : gs.length = k
  map : HMap mb (.map (ents (hs.take k) gs)) k w
  rows : ∀ (i : Nat) h g, hs[i]? = some h → gs[i]? = some g → ∀ j u, (h.2.map Value.string)[j]? = some u → w.cell? ⟨g.1, 0 + j, none⟩ = some u

theorem cell_lt' {w : World} {a : Addr} {v : Value} (h : w.cell? a = some v) : a.block < w.heap.size := by
  rcases Nat.lt_or_ge a.block w.heap.size with h' | h'
  · exact h'
  · simp [World.cell?, Array.getElem?_eq_none h'] at h
theorem HMap.below {mb n : Nat} {D : DataW Unit} {w w' : World} (h : HMap mb D n w) (hb : Below w.heap.size w w') : HMap mb D n w' := by
  have hlt := World.ownsMap.lt h
  obtain ⟨es, clock, hbk, F, hs, hD⟩ := h
  exact ⟨es, clock, (hb.block mb hlt).trans hbk, F, hs, hD⟩
section
variable {W0 w w' : World} {mb k : Nat} {hs : List (ByteArray × List ByteArray)} {gs : List (Nat × Nat)}
theorem HInv.keep (h : HInv W0 mb hs k gs w) (hb : Below w.heap.size w w') : HInv W0 mb hs k gs w' :=
  ⟨h.below.trans (hb.mono h.below.size), h.len, h.map.below hb, fun i x g hx hg j u hu => by
    have hc := h.rows i x g hx hg j u hu
    exact (hb.cell (cell_lt' hc)).trans hc⟩
theorem HInv.put (h : HInv W0 mb hs k gs w) {x : ByteArray × List ByteArray} (hx : hs[k]? = some x) (hasc : ∀ (i : Nat) y, i < k → hs[i]? = some y → y.1.data.toList < x.1.data.toList) (hsz : x.1.size ≤ maxLen) (hk : k < maxLen) {g c : Nat}
    (hrow : ∀ j u, (x.2.map Value.string)[j]? = some u → w.cell? ⟨g, 0 + j, none⟩ = some u) (hmb : W0.heap.size ≤ mb) :
    (Instr.mapUpdate 72 (.map (some mb)) (.string x.1) (.slice (some ⟨g, 0, none⟩) x.2.length c)).run Tryd.prog w = .ok () (putW mb x.1 (.slice (some ⟨g, 0, none⟩) x.2.length c) w) ∧
    HInv W0 mb hs (k + 1) (gs ++ [(g, c)]) (putW mb x.1 (.slice (some ⟨g, 0, none⟩) x.2.length c) w) := by
  have hkl : k < hs.length := (List.getElem?_eq_some_iff.1 hx).1
  have hkeys : ∀ p ∈ ents (hs.take k) gs, ∃ y : ByteArray × List ByteArray, p.1 = .string y.1.data.toList ∧ y.1.data.toList < x.1.data.toList := by
    intro p hp
    obtain ⟨y, hy, e⟩ := ents_mem hp
    obtain ⟨i, hi⟩ := List.getElem?_of_mem hy
    rw [List.getElem?_take] at hi
    split at hi
    · rename_i hik
      exact ⟨y, e, hasc i y hik hi⟩
    · cases hi
  obtain ⟨hrun, hm, hg⟩ := hmap_update (g := g) (m := x.2.length) (c := c) (key := x.1) h.map (fun p hp => by obtain ⟨y, e, hlt⟩ := hkeys p hp; rw [e]; exact (key_last hlt).2) (fun p hp => by obtain ⟨y, e, hlt⟩ := hkeys p hp; rw [e]; exact (key_last hlt).1) hsz hk
  have htk : hs.take (k + 1) = hs.take k ++ [x] := by
    rw [List.take_succ_eq_append_getElem hkl]
    rw [List.getElem?_eq_getElem hkl] at hx
    rw [Option.some.inj hx]
  have hcells : ∀ (a : Addr) v, w.cell? a = some v → (putW mb x.1 (.slice (some ⟨g, 0, none⟩) x.2.length c) w).cell? a = some v := by
    intro a v hc
    rw [← hc]
    refine World.cell?_of_block (hg.block a.block (cell_lt' hc) fun e => ?_)
    obtain ⟨es, clock, hbk, _⟩ := h.map
    have hab : a.block = mb := Option.some.inj e
    simp [World.cell?, hab, hbk] at hc
  refine ⟨hrun, h.below.grown hg h.below.size (fun j hj => by obtain rfl := Option.some.inj hj; exact hmb), by simp [h.len], ?_, ?_⟩
  · rw [htk, ents_snoc _ _ _ _ (by rw [List.length_take, h.len]; omega)]
    exact hm
  · intro i y g' hy hg' j u hu
    by_cases hik : i < k
    · rw [List.getElem?_append_left (by rw [h.len]; exact hik)] at hg'
      exact hcells _ _ (h.rows i y g' hy hg' j u hu)
    · have hik' : i = k := by
        have := (List.getElem?_eq_some_iff.1 hg').1
        simp [h.len] at this
        omega
      subst hik'
      rw [List.getElem?_append_right (by rw [h.len]; exact Nat.le_refl _)] at hg'
      simp [h.len] at hg'
      subst hg'
      rw [hx] at hy
      obtain rfl := Option.some.inj hy
      exact hcells _ _ (hrow j u hu)
end

end Go.Proofs.YtklkgddldndmmaaDoor

/- The walk of impl.header. -/
namespace Go.Proofs.YtklkgddldndmmaaDoor
open Go.RowKit
set_option linter.unusedVariables false
set_option linter.unusedSimpArgs false

/-- A header that may be walked: ascending keys, each with values. -/
structure Asc (hs : List (ByteArray × List ByteArray)) : Prop where
  asc : ∀ (i j : Nat) x y, i < j → hs[i]? = some x → hs[j]? = some y → x.1.data.toList < y.1.data.toList
  vals : ∀ h ∈ hs, 0 < h.2.length ∧ h.2.length ≤ 1000 ∧ h.1.size ≤ maxLen

set_option maxRecDepth 20000 in
set_option maxHeartbeats 4000000 in
theorem head_any (A : Option Addr) (n c : Nat) (hs : List (ByteArray × List ByteArray)) (W0 : World) (hn : n ≤ 1000) (hr : RdH W0 W0.heap.size A n hs) (ha : Asc hs) :
    Calls Tryd.prog 37 #[.slice A n c] W0 fun e w' => e = .returned (.map (some W0.heap.size)) ∧ ∃ gs, HInv W0 W0.heap.size hs n gs w' := by
  have HR := Lib.hid hr
  have HA := Lib.hid ha
  clear hr ha
  have hmm := @run_makeMap Tryd.prog
  go_enter Tryd.func37, Tryd.ntmps37
  go_wp2_with fail
  go_loopw [9] (fun i w => ∃ (k : Nat) (gs : List (Nat × Nat)), k ≤ n ∧ i = .int .i64 k ∧ Hid (HInv W0 W0.heap.size hs k gs w)) (fun i _ => n - (intOf i).toNat)
  case atStart => exact ⟨0, [], Nat.zero_le _, rfl, ⟨(Below.refl _ W0).alloc (Nat.le_refl _) _, rfl, by have h := World.ownsMap_made (H := Unit) W0 Tryd.prog 9 encS; exact h, fun i x g hx hg => by simp at hg⟩⟩
  case round =>
    obtain ⟨k, gs, hk, rfl, HI⟩ := hrel
    by_cases hlt : k < n
    · obtain ⟨b, o, rfl, hb, hcell⟩ := HR.out.2 (by omega)
      have hkl : k < hs.length := by have := HR.out.1; omega
      obtain ⟨x, hx⟩ : ∃ x, hs[k]? = some x := ⟨_, List.getElem?_eq_getElem hkl⟩
      obtain ⟨c1, Av, nv, cv, c2, hv⟩ := hcell k x hx
      have d1 := (HI.out.below.cell (p := ⟨b, o + k * 2, none⟩) hb).trans c1
      have d2 := (HI.out.below.cell (p := ⟨b, o + k * 2 + 1, none⟩) hb).trans c2
      clear hcell c1 c2
      have hvl := HA.out.vals x (List.mem_of_getElem? hx)
      have hnv : x.2.length = nv := by have := hv.1; simpa using this
      have hal := (Below.refl wr.heap.size wr).alloc (Nat.le_refl _) (.cells #[.string x.1, .slice Av nv cv] 81)
      have HIa := Lib.hid (HI.out.keep hal)
      have HV := Lib.hid ((hv.below HIa.out.below).more (B' := W0.heap.size) (Nat.le_refl _))
      have k1 : (wr.alloc (.cells #[.string x.1, .slice Av nv cv] 81)).cell? ⟨wr.heap.size, 0, none⟩ = some (.string x.1) := by rw [World.cell?_alloc_at (hn := rfl)]; rfl
      have k2 : (wr.alloc (.cells #[.string x.1, .slice Av nv cv] 81)).cell? ⟨wr.heap.size, 1, none⟩ = some (.slice Av nv cv) := by rw [World.cell?_alloc_at (hn := rfl)]; rfl
      go_wp2_with fail
      obtain ⟨wa, hwa⟩ : ∃ y, y = wr.alloc (.cells #[.string x.1, .slice Av nv cv] 81) := ⟨_, rfl⟩
      rw [← hwa] at HIa HV k1 k2 ⊢
      have hB0 : W0.heap.size ≤ wa.heap.size := HIa.out.below.size
      clear hwa hal
      have hkeys : ∀ p ∈ ents (hs.take k) gs, p.1.sameKey (.string x.1.data.toList) = false := by
        intro p hp
        obtain ⟨y, hy, e⟩ := ents_mem hp
        obtain ⟨i, hi⟩ := List.getElem?_of_mem hy
        rw [List.getElem?_take] at hi
        split at hi
        · rename_i hik
          rw [e]
          exact (key_last (HA.out.asc i k y x hik hi hx)).2
        · cases hi
      have hlk : (Instr.lookup 72 (.map (some W0.heap.size)) (.string x.1) false).run Tryd.prog wa.drew = .ok (.slice none 0 0) wa.drew := hmap_lookup (W := wa.drew) HIa.out.map hkeys hvl.2.2
      have hasc : ∀ (i : Nat) y, i < k → hs[i]? = some y → y.1.data.toList < x.1.data.toList := fun i y hi hy => HA.out.asc i k y x hi hy hx
      have HPut := Lib.hid (fun (W' : World) (g c' : Nat) (hB' : Below wa.heap.size wa W') (hc' : ∀ j u, (x.2.map Value.string)[j]? = some u → W'.cell? ⟨g, 0 + j, none⟩ = some u) => (HIa.out.keep hB').put (c := c') hx hasc hvl.2.2 (by unfold maxLen; omega) hc' (Nat.le_refl _))
      clear hkeys hasc
      go_region_law (refine step_append_nil9 W0.heap.size k (.map (ents (hs.take k) gs)) wa _ rfl (.tmp 19) (.tmp 21) rfl (by first | exact Below.refl _ _ | exact (Below.refl _ _).drew) HIa.out.map (by simp [Act.eval, Act.put]) W0.heap.size Av nv cv x.2 (by simp [Act.eval, Act.put]) HV.out hB0 (by omega) (by omega) ?_; intro g c' W' hB' hg' hc' hm'; have k1' := (hB'.cell (p := ⟨wr.heap.size, 0, none⟩) (cell_lt' k1)).trans k1; obtain ⟨e1, e2⟩ := HPut.out W' g c' hB' hc'; rw [hnv] at e1 e2; have E2 := Lib.hid e2; clear e2 hm' hc' hB')
      all_goals
        (try go_simp)
        go_wp2_with fail
        go_roundw
        case rel => exact ⟨k + 1, _, by omega, by go_num, E2⟩
        case measure => simp [intOf]; omega
    · have hkn : k = n := by omega
      subst hkn
      go_wp2
      go_ret
      exact ⟨rfl, gs, HI.out⟩

end Go.Proofs.YtklkgddldndmmaaDoor

/- A header's map ahead of CreatePart: its keys in order, its values; the text of its lines. -/
namespace Go.Proofs.YtklkgddldndmmaaDoor
open Go.RowKit
set_option linter.unusedVariables false
set_option linter.unusedSimpArgs false

/-! ### The text of a header -/
def colon : List UInt8 := [58, 32]
def lineT (k v : List UInt8) : List UInt8 := k ++ colon ++ v ++ crlf
def linesT (k : List UInt8) (vs : List ByteArray) : List UInt8 := vs.flatMap fun v => lineT k v.data.toList
def headT (hs : List (ByteArray × List ByteArray)) : List UInt8 := hs.flatMap fun h => linesT h.1.data.toList h.2

theorem linesT_snoc (k : List UInt8) (vs : List ByteArray) (v : ByteArray) : linesT k (vs ++ [v]) = linesT k vs ++ lineT k v.data.toList := by simp [linesT]
theorem headT_snoc (hs : List (ByteArray × List ByteArray)) (h : ByteArray × List ByteArray) : headT (hs ++ [h]) = headT hs ++ linesT h.1.data.toList h.2 := by simp [headT]
theorem headT_app (a b : List (ByteArray × List ByteArray)) : headT (a ++ b) = headT a ++ headT b := by simp [headT]
theorem linesT_app (k : List UInt8) (a b : List ByteArray) : linesT k (a ++ b) = linesT k a ++ linesT k b := by simp [linesT]
theorem headT_take (hs : List (ByteArray × List ByteArray)) (k : Nat) : (headT (hs.take k)).length ≤ (headT hs).length := by
  have h := congrArg (fun l => (headT l).length) (List.take_append_drop k hs)
  simp only [headT_app, List.length_append] at h
  omega
theorem linesT_take (x : List UInt8) (vs : List ByteArray) (k : Nat) : (linesT x (vs.take k)).length ≤ (linesT x vs).length := by
  have h := congrArg (fun l => (linesT x l).length) (List.take_append_drop k vs)
  simp only [linesT_app, List.length_append] at h
  omega
theorem take_at {α : Type} {l : List α} {k : Nat} {x : α} (h : l[k]? = some x) : l.take (k + 1) = l.take k ++ [x] := by
  rw [List.take_add_one, h]
  rfl
/-- What is written so far is no longer than the whole. -/
theorem part_len {hs : List (ByteArray × List ByteArray)} {k : Nat} {x : ByteArray × List ByteArray} (hx : hs[k]? = some x) (j : Nat) : (headT (hs.take k)).length + (linesT x.1.data.toList (x.2.take j)).length ≤ (headT hs).length := by
  have h1 := headT_take hs (k + 1)
  rw [take_at hx, headT_snoc, List.length_append] at h1
  have h2 := linesT_take x.1.data.toList x.2 j
  omega

/-! ### Its map -/
theorem atKey_ents : ∀ (hs : List (ByteArray × List ByteArray)) (gs : List (Nat × Nat)) (k : Nat) (x : ByteArray × List ByteArray) (g : Nat × Nat), hs.length = gs.length → hs[k]? = some x → gs[k]? = some g →
    (∀ (i : Nat) y, i < k → hs[i]? = some y → (Lit.string y.1.data.toList).sameKey (.string x.1.data.toList) = false) →
    (DataW.map (ents hs gs)).atKey (.string x.1.data.toList) .nil = .agg [.lit (.int .i64 g.1), .lit (.int .i64 x.2.length), .lit (.int .i64 g.2)]
  | [], _, _, _, _, _, h, _, _ => by simp at h
  | _ :: _, [], _, _, _, h, _, _, _ => by simp at h
  | h :: hs, g' :: gs, 0, x, g, hl, hx, hg, _ => by
    simp at hx hg
    subst hx hg
    unfold DataW.atKey ents
    have : (Lit.string h.1.data.toList).sameKey (.string h.1.data.toList) = true := by show (_ == _) = true; simp
    simp [this]
  | h :: hs, g' :: gs, k + 1, x, g, hl, hx, hg, hd => by
    have ih := atKey_ents hs gs k x g (by simpa using hl) (by simpa using hx) (by simpa using hg) (fun i y hi hy => hd (i + 1) y (by omega) (by simpa using hy))
    have h0 := hd 0 h (by omega) rfl
    unfold DataW.atKey at ih ⊢
    unfold ents
    simp only [List.find?_cons, h0]
    exact ih

theorem hmap_there {mb n k : Nat} {hs : List (ByteArray × List ByteArray)} {gs : List (Nat × Nat)} {x : ByteArray × List ByteArray} {g : Nat × Nat} {W : World} (h : HMap mb (.map (ents hs gs)) n W) (hl : hs.length = gs.length) (ha : Asc hs) (hx : hs[k]? = some x) (hg : gs[k]? = some g) :
    (Instr.lookup 96 (.map (some mb)) (.string x.1) false).run Tryd.prog W = .ok (.slice (some ⟨g.1, 0, none⟩) x.2.length g.2) W := by
  have hs' := (ha.vals x (List.mem_of_getElem? hx)).2.2
  obtain ⟨v, ps, hrun, hv⟩ := World.ownsMap.lookup h (Maps.string_keyed Tryd.underlying9) Tryd.underlying96 (Tryd.zeroValue23 W) (zd := .nil) (zp := []) rfl (WideMaps.keyOf_string_mk Tryd.underlying9 hs')
  rw [atKey_ents hs gs k x g hl hx hg (fun i y hi hy => (key_last (ha.asc i k y x hi hy hx)).2)] at hv
  rw [encS_inj hv] at hrun
  exact hrun

/-- The keys in their order: a row of strings. -/
def KeysAt (w : World) (A : Option Addr) (n : Nat) (hs : List (ByteArray × List ByteArray)) : Prop :=
  0 < n → ∃ g cur fz, A = some ⟨g, 0, none⟩ ∧ w.heap[g]? = some (.cells cur 9 fz) ∧ ∀ (i : Nat) h, hs[i]? = some h → w.cell? ⟨g, i, none⟩ = some (.string h.1)
theorem KeysAt.keep {w w' : World} {A : Option Addr} {n : Nat} {hs : List (ByteArray × List ByteArray)} {S : Nat → Prop} (h : KeysAt w A n hs) (hk : Kept S w w') (hS : ∀ g c fz, w.heap[g]? = some (.cells c 9 fz) → ¬ S g) : KeysAt w' A n hs := fun hn => by
  obtain ⟨g, cur, fz, rfl, hg, hc⟩ := h hn
  have hg' := hk g _ hg (hS g _ _ hg) (fun c fz e => by cases e)
  refine ⟨g, cur, fz, rfl, hg', fun i y hy => ?_⟩
  have := hc i y hy
  rw [← this]
  simp only [World.cell?, hg, hg']

theorem sorted_map {mb n : Nat} {hs : List (ByteArray × List ByteArray)} {gs : List (Nat × Nat)} (w : World) (h : HMap mb (.map (ents hs gs)) n w) (hl : hs.length = n) (hg : gs.length = n) (ha : Asc hs) (hn : n ≤ 1000) :
    Calls Tryd.prog 56 #[.func (.func 76) #[] #[.pointer (some ⟨w.heap.size, 0, none⟩)]] (w.alloc (.cells #[.map (some mb)] 96)) fun e w' => ∃ A c, e = .returned (.slice A n c) ∧ KeysAt w' A n hs ∧ Below w.heap.size w w' := by
  have hk := ents_keys hs gs (by omega)
  have hsz : Maps.size (DataW.map (ents hs gs)) = n := by
    have h1 := congrArg List.length hk
    simp only [List.length_map, hl] at h1
    rw [← h1]
    simp [Maps.size, strKeys]
  refine (callsIn_wide.1 (Tryd.slices_Sorted_keys_56_57 mb n (.map (ents hs gs)) encS w h (by rw [hsz]; unfold maxLen; omega) (by rw [hsz]; omega))).mono ?_
  rintro e w' ⟨v, ss, rfl, hp, hown, hnil, hb⟩
  rw [hk] at hp
  have hasc : (hs.map fun h => h.1.data.toList).Pairwise (· ≤ ·) := by
    rw [List.pairwise_iff_getElem]
    intro i j hi hj hij
    simp only [List.getElem_map]
    simp only [List.length_map] at hi hj
    exact List.le_of_lt (ha.asc i j hs[i] hs[j] hij (List.getElem?_eq_getElem hi) (List.getElem?_eq_getElem hj))
  rw [sorted_is hp hasc] at hown
  have hln : ss.length = n := by rw [hp.length_eq]; simpa using hl
  rw [hln] at hown
  have hB : Below w.heap.size w w' := ((Below.refl w.heap.size w).alloc (Nat.le_refl _) _).trans (hb.mono (by simp))
  rcases hown.2 with ⟨rfl, h0⟩ | ⟨g, cap, cur, rfl, h1, h2, h3, h4, h5, h6⟩
  · subst h0
    exact ⟨none, 0, rfl, fun hn => absurd hn (by omega), hB⟩
  · refine ⟨_, cap, rfl, fun hn => ⟨g, cur, _, rfl, h2, fun i y hy => ?_⟩, hB⟩
    have := hown.cells (g := g) rfl i (.string y.1) (by
      rw [List.getElem?_map, List.getElem?_map, hy]
      simp [encStr])
    rwa [Addr.add_lit, Nat.zero_add] at this

end Go.Proofs.YtklkgddldndmmaaDoor

/- What CreatePart needs of a header's map, and what holds while it writes the header's lines. -/
namespace Go.Proofs.YtklkgddldndmmaaDoor
open Go.RowKit
set_option linter.unusedVariables false
set_option linter.unusedSimpArgs false

/-- A header's map as CreatePart meets it. -/
structure HOk (mb : Nat) (hs : List (ByteArray × List ByteArray)) (n : Nat) (gs : List (Nat × Nat)) (w : World) : Prop where
  map : HMap mb (.map (ents hs gs)) n w
  len : hs.length = n ∧ gs.length = n
  rows : ∀ (i : Nat) h g, hs[i]? = some h → gs[i]? = some g → ∀ (j : Nat) v, h.2[j]? = some v → w.cell? ⟨g.1, j, none⟩ = some (.string v)

theorem HInv.ok {W0 w : World} {mb n : Nat} {hs : List (ByteArray × List ByteArray)} {gs : List (Nat × Nat)} (h : HInv W0 mb hs n gs w) (hl : hs.length = n) : HOk mb hs n gs w := by
  have hm := h.map
  rw [List.take_of_length_le (by omega)] at hm
  refine ⟨hm, ⟨hl, h.len⟩, fun i x g hx hg j v hv => ?_⟩
  have := h.rows i x g hx hg j (.string v) (by rw [List.getElem?_map, hv]; rfl)
  rwa [Nat.zero_add] at this
section
variable {mb n : Nat} {hs : List (ByteArray × List ByteArray)} {gs : List (Nat × Nat)} {w w' : World}
theorem HOk.below (h : HOk mb hs n gs w) (hb : Below w.heap.size w w') : HOk mb hs n gs w' :=
  ⟨h.map.below hb, h.len, fun i x g hx hg j v hv => by
    have hc := h.rows i x g hx hg j v hv
    exact (hb.cell (cell_lt' hc)).trans hc⟩
theorem HOk.ptSet (h : HOk mb hs n gs w) {p b : Nat} {cl : Bool} (hp : Pt w p b cl) (v : Value) : HOk mb hs n gs (w.setCell ⟨p, 1, none⟩ v) := by
  refine ⟨?_, h.len, fun i x g hx hg j u hu => ?_⟩
  · have hm := h.map
    unfold HMap at hm ⊢
    obtain ⟨es, clock, hbk, F, hs', hD⟩ := hm
    refine ⟨es, clock, ?_, F, hs', hD⟩
    rw [← hbk]
    show (w.heap.modify p _)[mb]? = _
    rw [Array.getElem?_modify]
    rw [if_neg]
    rintro rfl
    unfold Pt at hp
    rw [hbk] at hp
    cases hp
  · have hc := h.rows i x g hx hg j u hu
    rw [← hc]
    refine World.cell?_setCell_other w _ _ v fun e => ?_
    have e' : (⟨p, 1, none⟩ : Addr) = ⟨g.1, j, none⟩ := by first | exact e | exact e.symm
    rw [← e', hp.c1] at hc
    cases hc
end

/-- What holds while CreatePart writes the lines. -/
structure CInv (w1 : World) (tb : Nat) (t : List UInt8) (A : Option Addr) (n : Nat) (hs : List (ByteArray × List ByteArray)) (wr : World) : Prop where
  buf : Buf wr tb tb t
  below : Below tb w1 wr
  keys : KeysAt wr A n hs
theorem CInv.step {w1 wr w' : World} {tb n : Nat} {t t' : List UInt8} {A : Option Addr} {hs : List (ByteArray × List ByteArray)} (h : CInv w1 tb t A n hs wr) (h1 : Buf w' tb tb t') (h2 : Below tb wr w') (h3 : Kept (fun k => k = tb) wr w') : CInv w1 tb t' A n hs w' :=
  ⟨h1, h.below.trans h2, h.keys.keep h3 fun g c fz hg e => by
    obtain ⟨v, lr, hb⟩ := h.buf.block
    rw [e, hb] at hg
    injection hg with hg
    injection hg with _ hg
    cases hg⟩

theorem len_data (s : ByteArray) : s.data.toList.length = s.size := by simp
theorem keys_map (W : World) (mb : Nat) : Calls Tryd.prog 57 #[.map (some mb)] W fun e w' => e = .returned (.func (.func 76) #[] #[.pointer (some ⟨W.heap.size, 0, none⟩)]) ∧ w' = W.alloc (.cells #[.map (some mb)] 96) :=
  callsIn_wide.1 (Tryd.maps_Keys_57 (some mb) W)
end Go.Proofs.YtklkgddldndmmaaDoor

/- The walk of CreatePart at a header's map. -/
namespace Go.Proofs.YtklkgddldndmmaaDoor
open Go.RowKit
set_option linter.unusedVariables false
set_option linter.unusedSimpArgs false

set_option maxRecDepth 1000000 in
set_option maxHeartbeats 8000000 in
theorem create_map_first (B bb b mb n : Nat) (bd : ByteArray) (o : List UInt8) (hs : List (ByteArray × List ByteArray)) (gs : List (Nat × Nat)) (w : World) (ho : Buf w B bb o) (hw : Wr w b (.iface 55 (.pointer (some ⟨bb, 0, none⟩))) bd none) (hh : HOk mb hs n gs w) (ha : Asc hs) (hn : n ≤ 1000) (hl : (headT hs).length ≤ 200000) (hBb : B ≤ b) (hBw : B ≤ w.heap.size) (hbd : bd.size ≤ 1000) (hlim : o.length ≤ 140737488000000) :
    Calls Tryd.prog 31 #[.pointer (some ⟨b, 0, none⟩), .map (some mb)] w fun e w' => ∃ p', e = .returned (.tuple #[.iface 93 (.pointer (some ⟨p', 0, none⟩)), .nilIface]) ∧ Made B bb b (.iface 55 (.pointer (some ⟨bb, 0, none⟩))) bd (o ++ (dashes ++ bd.data.toList ++ crlf ++ headT hs ++ crlf)) w p' w' ∧ Kept (fun k => k = bb ∨ k = b) w w' := by
  have w2 := hw.c2
  obtain ⟨w1, rfl⟩ : ∃ x, x = w := ⟨_, rfl⟩
  have ho1 := ho
  have hwr1 := hw
  have hh1 := hh
  have hBw1 := hBw
  have wa2 : ∀ x, (w1.alloc x).cell? ⟨b, 2, none⟩ = some (.pointer none) := fun x => (World.cell?_alloc_lt w1 x _ hwr1.lt).trans hwr1.c2
  have wa1 : ∀ x, (w1.alloc x).cell? ⟨b, 1, none⟩ = some (.string bd) := fun x => (World.cell?_alloc_lt w1 x _ hwr1.lt).trans hwr1.c1
  have HT : Hid ((⟨#[45, 45]⟩ ++ bd ++ ⟨#[13, 10]⟩ : ByteArray).data.toList = dashes ++ bd.data.toList ++ crlf) := by show _ = _; rw [app_data, app_data]; rfl
  have HZ : Hid ((⟨#[45, 45]⟩ ++ bd ++ ⟨#[13, 10]⟩ : ByteArray).size = 4 + bd.size) := by show _ = _; rw [app_size, app_size]; show 2 + bd.size + 2 = _; omega
  have HPL : Hid ((dashes ++ bd.data.toList ++ crlf).length = 4 + bd.size) := by show _ = _; simp [dashes, crlf]; omega
  obtain ⟨pre, hpre⟩ : ∃ x, dashes ++ bd.data.toList ++ crlf = x := ⟨_, rfl⟩
  rw [hpre] at HT HPL
  have HPRE := Lib.hid hpre
  have HH := Lib.hid hh1
  have HA := Lib.hid ha
  have HL := Lib.hid hl
  clear hpre ho hw hh hh1 ha hl hBw
  go_enter Tryd.func31, Tryd.ntmps31

  go_wp2_with fail
  refine (ws_any w1.heap.size w1.heap.size [] _ _ (Lib.fresh_isBuffer 59 5 w1) (by simp) (by rw [HZ.out]; simp; omega)).mono ?_
  rintro e w3 ⟨rfl, hb3, hbel3, hk3⟩
  rw [HT.out, List.nil_append] at hb3
  have B3 : Below w1.heap.size w1 w3 := ((Below.refl _ w1).alloc (Nat.le_refl _) _).trans hbel3
  clear hbel3 hk3 wa1 wa2
  go_wp2_with fail
  refine (keys_map w3 mb).mono ?_
  rintro e w4 ⟨rfl, rfl⟩
  go_wp2_with fail
  refine (sorted_map w3 (HH.out.below B3).map HH.out.len.1 HH.out.len.2 HA.out hn).mono ?_
  rintro e w4 ⟨A, cK, rfl, hkeys, B4⟩
  have hI : CInv w1 w1.heap.size pre A n hs w4 := ⟨hb3.old B4, B3.trans (B4.mono B3.size), hkeys⟩
  have HI0 := Lib.hid hI
  clear hI hb3 B3 B4 hkeys
  go_wp2_with fail
  go_loopw [51] (fun i wr => ∃ k : Nat, k ≤ n ∧ i = .int .i64 k ∧ Hid (CInv w1 w1.heap.size (pre ++ headT (hs.take k)) A n hs wr)) (fun i _ => n - (intOf i).toNat)
  case atStart => exact ⟨0, Nat.zero_le _, rfl, Lib.hid (by have h := HI0.out; simpa [headT] using h)⟩
  case round =>
    obtain ⟨k, hk, rfl, HI⟩ := hrel
    by_cases hlt : k < n
    · obtain ⟨g, cur, fz, rfl, hgk, hck⟩ := HI.out.keys (by omega)
      have hkl : k < hs.length := by have := HH.out.len.1; omega
      have hkg : k < gs.length := by have := HH.out.len.2; omega
      obtain ⟨x, hx⟩ : ∃ x, hs[k]? = some x := ⟨_, List.getElem?_eq_getElem hkl⟩
      obtain ⟨g2, hg2⟩ : ∃ x, gs[k]? = some x := ⟨_, List.getElem?_eq_getElem hkg⟩
      have c1 := hck k x hx
      have hlk : (Instr.lookup 96 (.map (some mb)) (.string x.1) false).run Tryd.prog wr = .ok (.slice (some ⟨g2.1, 0, none⟩) x.2.length g2.2) wr :=
        hmap_there (HH.out.below HI.out.below).map (by rw [HH.out.len.1, HH.out.len.2]) HA.out hx hg2
      have hm1 := (HA.out.vals x (List.mem_of_getElem? hx)).2.1
      clear hgk hck
      go_wp2_with fail
      obtain ⟨wo, rfl⟩ : ∃ wo : World, wo = wr := ⟨_, rfl⟩
      clear hlk c1
      go_loopw [59] (fun i w2 => ∃ j : Nat, j ≤ x.2.length ∧ i = .int .i64 j ∧ Hid (CInv w1 w1.heap.size (pre ++ headT (hs.take k) ++ linesT x.1.data.toList (x.2.take j)) (some ⟨g, 0, none⟩) n hs w2)) (fun i _ => x.2.length - (intOf i).toNat)
      case atStart => exact ⟨0, Nat.zero_le _, rfl, Lib.hid (by have h := HI.out; simpa [linesT] using h)⟩
      case round =>
        obtain ⟨j, hj, rfl, HJ⟩ := hrel
        by_cases hlj : j < x.2.length
        · obtain ⟨v, hv⟩ : ∃ v, x.2[j]? = some v := ⟨_, List.getElem?_eq_getElem hlj⟩
          have c2 := (HH.out.below HJ.out.below).rows k x g2 hx hg2 j v hv
          have HPL1 := part_len hx j
          have HPL2 := part_len hx (j + 1)
          rw [take_at hv, linesT_snoc, List.length_append] at HPL2
          have HT2 : Hid ((x.1 ++ ⟨#[58, 32]⟩ ++ v ++ ⟨#[13, 10]⟩ : ByteArray).data.toList = lineT x.1.data.toList v.data.toList) := by show _ = _; rw [app_data, app_data, app_data]; rfl
          have hz2 : (x.1 ++ ⟨#[58, 32]⟩ ++ v ++ ⟨#[13, 10]⟩ : ByteArray).size = (lineT x.1.data.toList v.data.toList).length := by
            rw [← HT2.out, len_data]
          have HZ2 : Hid ((pre ++ headT (hs.take k) ++ linesT x.1.data.toList (x.2.take j)).length + (x.1 ++ ⟨#[58, 32]⟩ ++ v ++ ⟨#[13, 10]⟩ : ByteArray).size ≤ 140737488355328) := by
            have h1 := HPL.out
            have h2 := HL.out
            show _ ≤ _
            rw [hz2, List.length_append, List.length_append]
            omega
          have HN : Hid (pre ++ headT (hs.take k) ++ linesT x.1.data.toList (x.2.take j) ++ lineT x.1.data.toList v.data.toList = pre ++ headT (hs.take k) ++ linesT x.1.data.toList (x.2.take (j + 1))) := by
            show _ = _
            rw [take_at hv, linesT_snoc, List.append_assoc _ (linesT _ _)]
          have hlen : (lineT x.1.data.toList v.data.toList).length = x.1.size + v.size + 4 := by
            simp only [lineT, colon, crlf, List.length_append, len_data, List.length_cons, List.length_nil]; omega
          have hxs : x.1.size ≤ 200000 := by have h2 := HL.out; omega
          have hvs : v.size ≤ 200000 := by have h2 := HL.out; omega
          clear HPL1 HPL2 hz2 hv hlen
          go_wp2_with fail
          refine (ws_any w1.heap.size w1.heap.size _ _ wr HJ.out.buf HJ.out.below.size HZ2.out).mono ?_
          rintro e w5 ⟨rfl, h1, h2, h3⟩
          rw [HT2.out, HN.out] at h1
          have HJ2 := Lib.hid (HJ.out.step h1 h2 h3)
          clear h1 h2 h3
          go_wp2_with fail
          go_roundw
          case rel => exact ⟨j + 1, by omega, by go_num, HJ2⟩
          case measure => simp [intOf]; omega
        · have hje : j = x.2.length := by omega
          have HN : Hid (CInv w1 w1.heap.size (pre ++ headT (hs.take (k + 1))) (some ⟨g, 0, none⟩) n hs wr) := by
            have h := HJ.out
            rw [hje, List.take_length, List.append_assoc, ← headT_snoc, ← take_at hx] at h
            exact h
          clear hje
          go_wp2_with fail
          go_roundw
          case rel => exact ⟨k + 1, by omega, by go_num, HN⟩
          case measure => simp [intOf]; omega
    · have hke : k = n := by omega
      have hI := HI.out
      rw [hke, List.take_of_length_le (by rw [HH.out.len.1]; exact Nat.le_refl _)] at hI
      have hb4 := hI.buf
      have B4' := hI.below
      clear hI hke
      go_wp2_with fail
      refine (ws_any w1.heap.size w1.heap.size _ ⟨#[13, 10]⟩ wr hb4 B4'.size (by have h1 := HPL.out; have h2 := HL.out; rw [List.length_append]; show _ + 2 ≤ _; omega)).mono ?_
      rintro e w5 ⟨rfl, hb5, hbel5, hk5⟩
      have B5 := B4'.trans hbel5
      clear hbel5 hk5 hb4 B4'
      have hb5' : Buf w5 w1.heap.size w1.heap.size (pre ++ headT hs ++ crlf) := hb5
      have w0 := (hwr1.below B5 hwr1.lt).c0
      clear hb5
      go_wp2_with fail
      refine (copy_any B bb w1.heap.size w1.heap.size o _ w5 (ho1.old B5) hb5' (by simp [crlf]) (by have := ho1.lt; omega) hBw1 (by have h1 := HPL.out; have h2 := HL.out; rw [List.length_append, List.length_append, h1]; simp [crlf]; omega) (Nat.le_trans hBw1 B5.size)).mono ?_
      rintro e w6 ⟨rfl, M⟩
      have hw6 : Wr w6 b _ _ _ := M.kept.wr (hwr1.below B5 hwr1.lt) (by rintro (h | h); exact wr_ne_buf hwr1 ho1 h; exact absurd h (Nat.ne_of_lt hwr1.lt))
      have hM := made_end B5 M hw6 hBb (Nat.le_refl _) hBw1
      rw [← HPRE.out] at hM
      have HE := Lib.hid hM
      have x2 : ∀ x, (w6.alloc x).cell? ⟨b, 2, none⟩ = some (.pointer none) := fun x => (World.cell?_alloc_lt w6 x _ hw6.lt).trans hw6.c2
      have f2 : ∀ x, (w6.alloc x).frozen? ⟨b, 2, none⟩ = false := fun x => by
        have hal := (Below.refl w6.heap.size w6).alloc (Nat.le_refl _) x
        exact (hw6.below hal hw6.lt).f2
      have hlt6 := hw6.lt
      clear M w0 w2 hM 
      go_wp2_with fail
      go_ret2
      exact ⟨_, rfl, HE.out⟩

end Go.Proofs.YtklkgddldndmmaaDoor
