/- A header's map ahead of CreatePart: its keys in order, its values; the text of its lines. -/
import Derived.Test.YtklkgddldndmmaaDoorHeadW
namespace Go.Proofs.YtklkgddldndmmaaDoor
open Go.RowKit
set_option linter.unusedVariables false
set_option linter.unusedSimpArgs false

/-! ### The text of a header -/
def colon : List UInt8 := [58, 32]
def lineT (k v : List UInt8) : List UInt8 := k ++ colon ++ v ++ crlf
def linesT (k : List UInt8) (vs : List ByteArray) : List UInt8 := vs.flatMap fun v => lineT k v.data.toList
def headT (hs : List (ByteArray × List ByteArray)) : List UInt8 := hs.flatMap fun h => linesT h.1.data.toList h.2

theorem linesT_snoc (k : List UInt8) (vs : List ByteArray) (v : ByteArray) : linesT k (vs ++ [v]) = linesT k vs ++ lineT k v.data.toList := by simp [linesT]
theorem headT_snoc (hs : List (ByteArray × List ByteArray)) (h : ByteArray × List ByteArray) : headT (hs ++ [h]) = headT hs ++ linesT h.1.data.toList h.2 := by simp [headT]
theorem headT_app (a b : List (ByteArray × List ByteArray)) : headT (a ++ b) = headT a ++ headT b := by simp [headT]
theorem linesT_app (k : List UInt8) (a b : List ByteArray) : linesT k (a ++ b) = linesT k a ++ linesT k b := by simp [linesT]
theorem headT_take (hs : List (ByteArray × List ByteArray)) (k : Nat) : (headT (hs.take k)).length ≤ (headT hs).length := by
  have h := congrArg (fun l => (headT l).length) (List.take_append_drop k hs)
  simp only [headT_app, List.length_append] at h
  omega
theorem linesT_take (x : List UInt8) (vs : List ByteArray) (k : Nat) : (linesT x (vs.take k)).length ≤ (linesT x vs).length := by
  have h := congrArg (fun l => (linesT x l).length) (List.take_append_drop k vs)
  simp only [linesT_app, List.length_append] at h
  omega
theorem take_at {α : Type} {l : List α} {k : Nat} {x : α} (h : l[k]? = some x) : l.take (k + 1) = l.take k ++ [x] := by
  rw [List.take_add_one, h]
  rfl
/-- What is written so far is no longer than the whole. -/
theorem part_len {hs : List (ByteArray × List ByteArray)} {k : Nat} {x : ByteArray × List ByteArray} (hx : hs[k]? = some x) (j : Nat) : (headT (hs.take k)).length + (linesT x.1.data.toList (x.2.take j)).length ≤ (headT hs).length := by
  have h1 := headT_take hs (k + 1)
  rw [take_at hx, headT_snoc, List.length_append] at h1
  have h2 := linesT_take x.1.data.toList x.2 j
  omega

/-! ### Its map -/
theorem atKey_ents : ∀ (hs : List (ByteArray × List ByteArray)) (gs : List (Nat × Nat)) (k : Nat) (x : ByteArray × List ByteArray) (g : Nat × Nat), hs.length = gs.length → hs[k]? = some x → gs[k]? = some g →
    (∀ (i : Nat) y, i < k → hs[i]? = some y → (Lit.string y.1.data.toList).sameKey (.string x.1.data.toList) = false) →
    (DataW.map (ents hs gs)).atKey (.string x.1.data.toList) .nil = .agg [.lit (.int .i64 g.1), .lit (.int .i64 x.2.length), .lit (.int .i64 g.2)]
  | [], _, _, _, _, _, h, _, _ => by simp at h
  | _ :: _, [], _, _, _, h, _, _, _ => by simp at h
  | h :: hs, g' :: gs, 0, x, g, hl, hx, hg, _ => by
    simp at hx hg
    subst hx hg
    unfold DataW.atKey ents
    have : (Lit.string h.1.data.toList).sameKey (.string h.1.data.toList) = true := by show (_ == _) = true; simp
    simp [this]
  | h :: hs, g' :: gs, k + 1, x, g, hl, hx, hg, hd => by
    have ih := atKey_ents hs gs k x g (by simpa using hl) (by simpa using hx) (by simpa using hg) (fun i y hi hy => hd (i + 1) y (by omega) (by simpa using hy))
    have h0 := hd 0 h (by omega) rfl
    unfold DataW.atKey at ih ⊢
    unfold ents
    simp only [List.find?_cons, h0]
    exact ih

theorem hmap_there {mb n k : Nat} {hs : List (ByteArray × List ByteArray)} {gs : List (Nat × Nat)} {x : ByteArray × List ByteArray} {g : Nat × Nat} {W : World} (h : HMap mb (.map (ents hs gs)) n W) (hl : hs.length = gs.length) (ha : Asc hs) (hx : hs[k]? = some x) (hg : gs[k]? = some g) :
    (Instr.lookup 96 (.map (some mb)) (.string x.1) false).run Tryd.prog W = .ok (.slice (some ⟨g.1, 0, none⟩) x.2.length g.2) W := by
  have hs' := (ha.vals x (List.mem_of_getElem? hx)).2.2
  obtain ⟨v, ps, hrun, hv⟩ := World.ownsMap.lookup h (Maps.string_keyed Tryd.underlying9) Tryd.underlying96 (Tryd.zeroValue23 W) (zd := .nil) (zp := []) rfl (WideMaps.keyOf_string_mk Tryd.underlying9 hs')
  rw [atKey_ents hs gs k x g hl hx hg (fun i y hi hy => (key_last (ha.asc i k y x hi hy hx)).2)] at hv
  rw [encS_inj hv] at hrun
  exact hrun

/-- The keys in their order: a row of strings. -/
def KeysAt (w : World) (A : Option Addr) (n : Nat) (hs : List (ByteArray × List ByteArray)) : Prop :=
  0 < n → ∃ g cur fz, A = some ⟨g, 0, none⟩ ∧ w.heap[g]? = some (.cells cur 9 fz) ∧ ∀ (i : Nat) h, hs[i]? = some h → w.cell? ⟨g, i, none⟩ = some (.string h.1)
theorem KeysAt.keep {w w' : World} {A : Option Addr} {n : Nat} {hs : List (ByteArray × List ByteArray)} {S : Nat → Prop} (h : KeysAt w A n hs) (hk : Kept S w w') (hS : ∀ g c fz, w.heap[g]? = some (.cells c 9 fz) → ¬ S g) : KeysAt w' A n hs := fun hn => by
  obtain ⟨g, cur, fz, rfl, hg, hc⟩ := h hn
  have hg' := hk g _ hg (hS g _ _ hg) (fun c fz e => by cases e)
  refine ⟨g, cur, fz, rfl, hg', fun i y hy => ?_⟩
  have := hc i y hy
  rw [← this]
  simp only [World.cell?, hg, hg']

theorem sorted_map {mb n : Nat} {hs : List (ByteArray × List ByteArray)} {gs : List (Nat × Nat)} (w : World) (h : HMap mb (.map (ents hs gs)) n w) (hl : hs.length = n) (hg : gs.length = n) (ha : Asc hs) (hn : n ≤ 1000) :
    Calls Tryd.prog 56 #[.func (.func 76) #[] #[.pointer (some ⟨w.heap.size, 0, none⟩)]] (w.alloc (.cells #[.map (some mb)] 96)) fun e w' => ∃ A c, e = .returned (.slice A n c) ∧ KeysAt w' A n hs ∧ Below w.heap.size w w' := by
  have hk := ents_keys hs gs (by omega)
  have hsz : Maps.size (DataW.map (ents hs gs)) = n := by
    have h1 := congrArg List.length hk
    simp only [List.length_map, hl] at h1
    rw [← h1]
    simp [Maps.size, strKeys]
  refine (callsIn_wide.1 (Tryd.slices_Sorted_keys_56_57 mb n (.map (ents hs gs)) encS w h (by rw [hsz]; unfold maxLen; omega) (by rw [hsz]; omega))).mono ?_
  rintro e w' ⟨v, ss, rfl, hp, hown, hnil, hb⟩
  rw [hk] at hp
  have hasc : (hs.map fun h => h.1.data.toList).Pairwise (· ≤ ·) := by
    rw [List.pairwise_iff_getElem]
    intro i j hi hj hij
    simp only [List.getElem_map]
    simp only [List.length_map] at hi hj
    exact List.le_of_lt (ha.asc i j hs[i] hs[j] hij (List.getElem?_eq_getElem hi) (List.getElem?_eq_getElem hj))
  rw [sorted_is hp hasc] at hown
  have hln : ss.length = n := by rw [hp.length_eq]; simpa using hl
  rw [hln] at hown
  have hB : Below w.heap.size w w' := ((Below.refl w.heap.size w).alloc (Nat.le_refl _) _).trans (hb.mono (by simp))
  rcases hown.2 with ⟨rfl, h0⟩ | ⟨g, cap, cur, rfl, h1, h2, h3, h4, h5, h6⟩
  · subst h0
    exact ⟨none, 0, rfl, fun hn => absurd hn (by omega), hB⟩
  · refine ⟨_, cap, rfl, fun hn => ⟨g, cur, _, rfl, h2, fun i y hy => ?_⟩, hB⟩
    have := hown.cells (g := g) rfl i (.string y.1) (by
      rw [List.getElem?_map, List.getElem?_map, hy]
      simp [encStr])
    rwa [Addr.add_lit, Nat.zero_add] at this

end Go.Proofs.YtklkgddldndmmaaDoor
