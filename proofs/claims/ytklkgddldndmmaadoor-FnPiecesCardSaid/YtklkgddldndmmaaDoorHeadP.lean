/- Plain laws behind a header's map. No program in sight. -/
import Derived.Maps.Own
import Derived.Sort.KeysCollected
namespace Go.Proofs.YtklkgddldndmmaaDoor
open Go

theorem insert_last {H : Type} (x : Lit × DataW H) : ∀ es : List (Lit × DataW H), (∀ p ∈ es, x.1.before p.1 = false) → DataW.insert x es = es ++ [x]
  | [], _ => rfl
  | y :: r, h => by
    unfold DataW.insert
    rw [h y (List.mem_cons_self ..)]
    simp only [Bool.false_eq_true, if_false, List.cons_append]
    rw [insert_last x r fun p hp => h p (List.mem_cons_of_mem _ hp)]
theorem put_last {H : Type} (es : List (Lit × DataW H)) (k : Lit) (d : DataW H) (h1 : ∀ p ∈ es, p.1.sameKey k = false) (h2 : ∀ p ∈ es, k.before p.1 = false) : (DataW.map es).put k d = .map (es ++ [(k, d)]) := by
  show DataW.map (DataW.insert (k, d) (es.filter fun p => !p.1.sameKey k)) = _
  have hf : es.filter (fun p => !p.1.sameKey k) = es := List.filter_eq_self.2 fun p hp => by rw [h1 p hp]; rfl
  rw [hf, insert_last (k, d) es h2]

/-- A slice value written down as a datum. -/
def encS {H : Type} : Value → Option (DataW H × List MemPlace)
  | .slice none 0 0 => some (.nil, [])
  | .slice (some ⟨g, 0, none⟩) n c => some (.agg [.lit (.int .i64 g), .lit (.int .i64 n), .lit (.int .i64 c)], [])
  | _ => none
theorem encS_inj {H : Type} {v : Value} {g n c : Nat} {ps : List MemPlace} (h : encS (H := H) v = some (.agg [.lit (.int .i64 g), .lit (.int .i64 n), .lit (.int .i64 c)], ps)) : v = .slice (some ⟨g, 0, none⟩) n c := by
  unfold encS at h
  split at h
  · simp at h
  · simp at h
    obtain ⟨⟨h1, h2, h3⟩, _⟩ := h
    obtain rfl := Int.ofNat.inj h1
    obtain rfl := Int.ofNat.inj h2
    obtain rfl := Int.ofNat.inj h3
    rfl
  · simp at h
theorem encS_nil {H : Type} {v : Value} {ps : List MemPlace} (h : encS (H := H) v = some (.nil, ps)) : v = .slice none 0 0 := by
  unfold encS at h
  split at h
  · rfl
  · simp at h
  · simp at h

/-- A list that is a rearrangement of an ascending one, sorted: the ascending one. -/
theorem sorted_is {ss ks : List (List UInt8)} (hp : ss.Perm ks) (hs : ks.Pairwise (· ≤ ·)) : ss.mergeSort (fun x y => decide (x ≤ y)) = ks := by
  have h1 : (ss.mergeSort (fun x y => decide (x ≤ y))).Pairwise (fun x y => decide (x ≤ y) = true) :=
    List.pairwise_mergeSort (fun a b c h1 h2 => by simp at h1 h2 ⊢; exact List.le_trans h1 h2) (fun a b => by simp; exact List.le_total a b) ss
  have h2 := (List.mergeSort_perm ss (fun x y => decide (x ≤ y))).trans hp
  refine List.Perm.eq_of_pairwise (le := (· ≤ ·)) (fun a b _ _ hab hba => List.le_antisymm hab hba) (h1.imp fun h => by simpa using h) hs h2

theorem before_lt : ∀ {a b : List UInt8}, bytesBefore a b = true → a < b
  | [], [], h => by simp [bytesBefore] at h
  | [], _ :: _, _ => by simp
  | _ :: _, [], h => by simp [bytesBefore] at h
  | x :: r, y :: t, h => by
    simp only [bytesBefore, Bool.or_eq_true, Bool.and_eq_true, decide_eq_true_eq, beq_iff_eq] at h
    rw [List.cons_lt_cons_iff]
    rcases h with h | ⟨h1, h2⟩
    · exact .inl h
    · exact .inr ⟨h1, before_lt h2⟩
/-- A greater key stands behind, and is another one. -/
theorem key_last {a b : List UInt8} (h : a < b) : (Lit.string b).before (.string a) = false ∧ (Lit.string a).sameKey (.string b) = false := by
  constructor
  · cases h2 : bytesBefore b a with
    | false => exact h2
    | true => exact absurd (before_lt h2) (List.lt_asymm h)
  · show (a == b) = false
    rw [beq_eq_false_iff_ne]
    rintro rfl
    exact List.lt_irrefl _ h

/-- The entries of a header's map: each key with the row of its values (block, capacity). -/
def ents : List (ByteArray × List ByteArray) → List (Nat × Nat) → List (Lit × DataW Unit)
  | h :: hs, g :: gs => (.string h.1.data.toList, .agg [.lit (.int .i64 g.1), .lit (.int .i64 h.2.length), .lit (.int .i64 g.2)]) :: ents hs gs
  | _, _ => []
theorem ents_snoc : ∀ (hs : List (ByteArray × List ByteArray)) (gs : List (Nat × Nat)) (h : ByteArray × List ByteArray) (g : Nat × Nat), hs.length = gs.length →
    ents (hs ++ [h]) (gs ++ [g]) = ents hs gs ++ [(.string h.1.data.toList, .agg [.lit (.int .i64 g.1), .lit (.int .i64 h.2.length), .lit (.int .i64 g.2)])]
  | [], [], _, _, _ => rfl
  | x :: hs, y :: gs, h, g, hl => by
    simp only [List.cons_append, ents]
    rw [ents_snoc hs gs h g (by simpa using hl)]
  | [], _ :: _, _, _, hl => by simp at hl
  | _ :: _, [], _, _, hl => by simp at hl
theorem ents_mem : ∀ {hs : List (ByteArray × List ByteArray)} {gs : List (Nat × Nat)} {p : Lit × DataW Unit}, p ∈ ents hs gs → ∃ h ∈ hs, p.1 = .string h.1.data.toList
  | [], _, _, hp => by simp [ents] at hp
  | _ :: _, [], _, hp => by simp [ents] at hp
  | h :: hs, g :: gs, p, hp => by
    simp only [ents, List.mem_cons] at hp
    rcases hp with rfl | hp
    · exact ⟨h, List.mem_cons_self .., rfl⟩
    · obtain ⟨h', hm, e⟩ := ents_mem hp
      exact ⟨h', List.mem_cons_of_mem _ hm, e⟩
theorem ents_keys : ∀ (hs : List (ByteArray × List ByteArray)) (gs : List (Nat × Nat)), hs.length = gs.length → strKeys (.map (ents hs gs)) = hs.map fun h => h.1.data.toList
  | [], [], _ => rfl
  | h :: hs, g :: gs, hl => by
    have := ents_keys hs gs (by simpa using hl)
    simp only [ents, strKeys, List.map_cons] at this ⊢
    rw [this]
    rfl
  | [], _ :: _, hl => by simp at hl
  | _ :: _, [], hl => by simp at hl

end Go.Proofs.YtklkgddldndmmaaDoor
