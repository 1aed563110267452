/- What the scan answers, in plain Lean. No program in sight. -/
import Derived.Test.YtfbjfcnkmhnimaaDoorPlain
import Derived.Lib.IndexMore
namespace Go.Proofs.YtfbjfcnkmhnimaaDoor
open Go
set_option linter.unusedVariables false
set_option linter.unusedSimpArgs false
open Go.Lib (hasPrefix)

theorem hp_iff (s p : List UInt8) : hasPrefix s p = true ↔ ∀ (k : Nat) c, p[k]? = some c → s[k]? = some c := by
  unfold hasPrefix
  rw [List.isPrefixOf_iff_prefix, List.prefix_iff_getElem?]
  constructor
  · intro h k c hc
    obtain ⟨hk, rfl⟩ := List.getElem?_eq_some_iff.1 hc
    exact h k hk
  · intro h k hk
    exact h k _ (List.getElem?_eq_getElem hk)
theorem occ_iff (s p : List UInt8) (i : Nat) : Lib.occAt s p i = true ↔ ∀ (k : Nat) c, p[k]? = some c → s[i + k]? = some c := by
  have := hp_iff (s.drop i) p
  simp only [List.getElem?_drop] at this
  exact this
theorem get_lt {l : List UInt8} {k : Nat} {c : UInt8} (h : l[k]? = some c) : k < l.length := (List.getElem?_eq_some_iff.1 h).1
theorem get_app {l m : List UInt8} {k : Nat} {c : UInt8} (h : l[k]? = some c) : (l ++ m)[k]? = some c := by rw [List.getElem?_append_left (get_lt h)]; exact h
theorem get_has {l : List UInt8} {k : Nat} (h : k < l.length) : ∃ c, l[k]? = some c := ⟨_, List.getElem?_eq_getElem h⟩
theorem get_back {l m : List UInt8} {k : Nat} {c : UInt8} (h : (l ++ m)[k]? = some c) (hk : k < l.length) : l[k]? = some c := by rwa [List.getElem?_append_left hk] at h
theorem get_dropT {p : List UInt8} {k : Nat} {c : UInt8} {x : UInt8} : (x :: p)[k + 1]? = some c ↔ p[k]? = some c := by simp

/-- The line break ahead of a delimiter, and the delimiter: a CR stands at its beginning alone. -/
structure Nl (nl d : List UInt8) : Prop where
  form : nl = 13 :: 10 :: d
  one : ∀ k : Nat, nl[k]? = some 13 → k = 0
namespace Nl
variable {nl d : List UInt8} (h : Nl nl d)
include h
theorem len : nl.length = d.length + 2 := by rw [h.form]; rfl
theorem zero : nl[0]? = some 13 := by rw [h.form]; rfl
theorem head : nl.headD 0 = 13 := by rw [h.form]; rfl
theorem inD {k : Nat} (hk : d[k]? = some 13) : False := by
  have := h.one (k + 2) (by rw [h.form]; simpa using hk)
  omega
end Nl

theorem okB_13 : okB 13 = false := by decide
theorem nl_of {b : List UInt8} (h : boundB b = true) : Nl (13 :: 10 :: 45 :: 45 :: b) (45 :: 45 :: b) := by
  refine ⟨rfl, fun k hk => ?_⟩
  unfold boundB at h
  simp only [Bool.and_eq_true, List.all_eq_true] at h
  match k, hk with
  | 0, _ => rfl
  | 1, hk => simp at hk
  | 2, hk => simp at hk
  | 3, hk => simp at hk
  | k + 4, hk =>
    have hk : b[k]? = some 13 := by simpa using hk
    have := h.1.1.1 13 (List.mem_of_getElem? hk)
    rw [okB_13] at this
    cases this

/-- An early instance of the delimiter takes no CR of a later place. -/
theorem occ_past {s nl d : List UInt8} (hnl : Nl nl d) {i j : Nat} (ho : Lib.occAt s nl j = true) (hij : j < i) (hi : i < j + nl.length) (h13 : s[i]? = some 13) : False := by
  rw [occ_iff] at ho
  obtain ⟨c, hc⟩ := get_has (l := nl) (k := i - j) (by omega)
  have h1 := ho _ _ hc
  rw [show j + (i - j) = i by omega, h13] at h1
  injection h1 with h1
  subst h1
  have := hnl.one _ hc
  omega

theorem hp_false {s p : List UInt8} (h : hasPrefix s p = false) : ¬ ∀ (k : Nat) c, p[k]? = some c → s[k]? = some c := by rw [← hp_iff, h]; simp
theorem occ_false {s p : List UInt8} {i : Nat} (h : Lib.occAt s p i = false) : ¬ ∀ (k : Nat) c, p[k]? = some c → s[i + k]? = some c := by rw [← occ_iff, h]; simp
theorem occ_room {s p : List UInt8} {i : Nat} (h : Lib.occAt s p i = true) (hp : 0 < p.length) : i + p.length ≤ s.length := by
  rw [occ_iff] at h
  obtain ⟨c, hc⟩ := get_has (l := p) (k := p.length - 1) (by omega)
  have := get_lt (h _ _ hc)
  omega
theorem occ_app {s m p : List UInt8} {i : Nat} (h : Lib.occAt s p i = true) : Lib.occAt (s ++ m) p i = true := by
  rw [occ_iff] at h ⊢
  exact fun k c hc => get_app (h k c hc)
theorem occ_back {s m p : List UInt8} {i : Nat} (h : Lib.occAt (s ++ m) p i = true) (hi : i + p.length ≤ s.length) : Lib.occAt s p i = true := by
  rw [occ_iff] at h ⊢
  exact fun k c hc => get_back (h k c hc) (by have := get_lt hc; omega)

theorem scan_end (body b after : List UInt8) (t0 e : Bool) (hb : boundB b = true) (hf : hasPrefix body (45 :: 45 :: b) = false) (hx : Lib.index body (10 :: 45 :: 45 :: b) < 0) (hm : mAfter after e = 1) :
    scanP (body ++ (13 :: 10 :: 45 :: 45 :: b) ++ after) (45 :: 45 :: b) (13 :: 10 :: 45 :: 45 :: b) t0 e = ((body.length : Int), 1) := by
  have hnl := nl_of hb
  generalize hd : (45 :: 45 :: b) = d at hnl hf hx ⊢
  generalize hn : (13 :: 10 :: d) = nl at hnl ⊢
  have hdl : 2 ≤ d.length := by rw [← hd]; simp
  have hlen := hnl.len
  have h13 : (body ++ nl ++ after)[body.length]? = some 13 := by
    apply get_app
    rw [List.getElem?_append_right (Nat.le_refl _), Nat.sub_self]
    exact hnl.zero
  have n1 : ¬ (t0 = true ∧ hasPrefix (body ++ nl ++ after) d = true) := by
    rintro ⟨_, h⟩
    rw [hp_iff] at h
    refine hp_false hf fun k c hc => ?_
    have h1 := h k c hc
    rw [List.append_assoc] at h1
    refine get_back h1 ?_
    by_cases hk : k < body.length
    · exact hk
    · exfalso
      obtain ⟨c2, hc2⟩ := get_has (l := d) (k := body.length) (by have := get_lt hc; omega)
      have h2 := h _ _ hc2
      rw [h13] at h2
      injection h2 with h2
      subst h2
      exact hnl.inD hc2
  have n2 : ¬ (t0 = true ∧ hasPrefix d (body ++ nl ++ after) = true) := by
    rintro ⟨_, h⟩
    rw [hp_iff] at h
    exact hnl.inD (h _ _ h13)
  unfold scanP
  rw [if_neg n1, if_neg n2]
  have hix : Lib.index (body ++ nl ++ after) nl = (body.length : Int) := by
    refine Lib.index_first (by simp) ?_ ?_
    · rw [occ_iff]
      intro k c hc
      apply get_app
      rw [List.getElem?_append_right (by omega)]
      rw [Nat.add_sub_cancel_left]
      exact hc
    · intro j hj
      cases ho : Lib.occAt (body ++ nl ++ after) nl j with
      | false => rfl
      | true =>
        exfalso
        by_cases hpast : body.length < j + nl.length
        · exact occ_past hnl ho hj hpast h13
        · rcases Lib.index_spec body (10 :: d) with ⟨_, hno⟩ | ⟨i, hi, _⟩
          · refine occ_false (hno (j + 1) (by omega)) fun k c hc => ?_
            have hc' : nl[k + 1]? = some c := by rw [hnl.form]; simpa using hc
            have h1 := (occ_iff _ _ _).1 ho _ _ hc'
            rw [List.append_assoc] at h1
            have := get_back h1 (by have := get_lt hc'; omega)
            rw [← this]
            congr 1
            omega
          · omega
  unfold scanT
  rw [hix, if_pos (by omega)]
  have hdrop : (body ++ nl ++ after).drop ((body.length : Int).toNat + nl.length) = after := by
    rw [Int.toNat_natCast, ← List.length_append, List.drop_left]
  rw [hdrop, hm]
  rfl

/-! ### What comes behind -/
theorem mAfter_more (r m : List UInt8) (e : Bool) (h : mAfter r false ≠ 0) : mAfter (r ++ m) e = mAfter r false := by
  unfold mAfter at h ⊢
  cases r with
  | nil => simp at h
  | cons c t =>
    simp only [List.cons_append] at h ⊢
    split
    · rfl
    · rename_i h1
      rw [if_neg h1] at h
      split
      · rename_i h2
        rw [if_pos h2] at h
        cases t with
        | nil => simp at h
        | cons d t => rfl
      · rfl

theorem pick_ge (i k m : Int) (hk : 0 ≤ k) : i ≤ (pick i k m).1 := by
  unfold pick
  repeat' split
  all_goals simp
  all_goals omega
/-- What is given, whatever more comes. -/
structure Safe (r : Int × Nat) (l : List UInt8) (t0 : Bool) (m : Int) : Prop where
  pos : 0 ≤ r.1
  le : r.1 ≤ l.length
  more : r.1 ≤ m
  last : r.2 = 1 → m = r.1
  cr : t0 = true ∨ inB l 13 = true ∨ r.1 = l.length

theorem cr_of {l : List UInt8} {k : Nat} (h : l[k]? = some 13) : inB l 13 = true := by
  unfold inB
  exact List.elem_eq_true_of_mem (List.mem_of_getElem? h)

theorem scanT_pos (l nl : List UInt8) (e : Bool) : 0 ≤ (scanT l nl e).1 := by
  unfold scanT
  split
  · rename_i h
    exact Int.le_trans h (pick_ge _ _ _ (by omega))
  · split
    · exact Int.le_refl _
    · split
      · rename_i h
        exact h.1
      · exact Int.natCast_nonneg _
theorem scanP_pos (l d nl : List UInt8) (t0 e : Bool) : 0 ≤ (scanP l d nl t0 e).1 := by
  unfold scanP
  split
  · exact pick_ge _ _ _ (by omega)
  · split
    · exact Int.le_refl _
    · exact scanT_pos _ _ _

theorem pick_one {i k m : Int} (h : (pick i k m).2 = 1) : m ≠ -1 ∧ m ≠ 0 := by
  unfold pick at h
  split at h
  · simp at h
  · split at h
    · simp at h
    · exact ⟨by assumption, by assumption⟩

theorem pick_safe {i k m : Int} {m2 : Int} (hm : m ≠ 0 → m2 = m) (hk : 0 ≤ k) : (pick i k m).1 ≤ (pick i k m2).1 ∧ ((pick i k m).2 = 1 → (pick i k m2).1 = (pick i k m).1) := by
  by_cases h0 : m = 0
  · subst h0
    have h1 : pick i k 0 = (i, 0) := by simp [pick]
    rw [h1]
    exact ⟨pick_ge _ _ _ hk, fun h => absurd h (by simp)⟩
  · rw [hm h0]
    exact ⟨Int.le_refl _, fun _ => rfl⟩
theorem pick_le {i k m : Int} (hk : 0 ≤ k) : (pick i k m).1 ≤ i + k := by
  unfold pick
  repeat' split
  all_goals simp
  all_goals omega

theorem drop_more (l m : List UInt8) {k : Nat} (h : k ≤ l.length) : (l ++ m).drop k = l.drop k ++ m := List.drop_append_of_le_length h

theorem hp_more {s m p : List UInt8} (h1 : hasPrefix s p = false) (h2 : hasPrefix p s = false) : hasPrefix (s ++ m) p = false := by
  cases h : hasPrefix (s ++ m) p with
  | false => rfl
  | true =>
    exfalso
    rw [hp_iff] at h
    by_cases hl : p.length ≤ s.length
    · exact hp_false h1 fun k c hc => get_back (h k c hc) (by have := get_lt hc; omega)
    · refine hp_false h2 fun k c hc => ?_
      obtain ⟨c2, hc2⟩ := get_has (l := p) (k := k) (by have := get_lt hc; omega)
      have h3 := get_back (h _ _ hc2) (get_lt hc)
      rw [h3] at hc
      injection hc with hc
      subst hc
      exact hc2
theorem hp_less {s m p : List UInt8} (h : hasPrefix p (s ++ m) = true) : hasPrefix p s = true := by
  rw [hp_iff] at h ⊢
  exact fun k c hc => h k c (get_app hc)

theorem tail_safe {buf m d nl : List UInt8} (hnl : Nl nl d) (t0 e : Bool) : Safe (scanT buf nl false) buf t0 (scanT (buf ++ m) nl e).1 := by
  have hlen := hnl.len
  unfold scanT
  rw [hnl.head]
  rcases Lib.index_spec buf nl with ⟨hx, hno⟩ | ⟨k, hx, hk, ho, hno⟩
  · rw [hx, if_neg (by decide)]
    by_cases hp : hasPrefix nl buf = true
    · rw [if_pos hp]
      refine ⟨Int.le_refl _, Int.natCast_nonneg _, ?_, fun h => absurd h (by decide), ?_⟩
      · have := scanT_pos (buf ++ m) nl e
        unfold scanT at this
        rwa [hnl.head] at this
      · right
        by_cases h0 : buf.length = 0
        · right; simp [h0]
        · left
          obtain ⟨c, hc⟩ := get_has (l := buf) (k := 0) (by omega)
          have h1 := (hp_iff _ _).1 hp _ _ hc
          rw [hnl.zero] at h1
          injection h1 with h1
          subst h1
          exact cr_of hc
    · have hp' : hasPrefix nl buf = false := by simpa using hp
      have hpm : ¬ hasPrefix nl (buf ++ m) = true := fun h => by rw [hp_less h] at hp'; cases hp'
      rw [if_neg hp, if_neg hpm]
      -- an instance behind the end of buf, or over it
      have hover : ∀ j : Nat, Lib.occAt (buf ++ m) nl j = true → j < buf.length → buf[j]? = some 13 ∧ lastI buf 13 = j ∧ hasPrefix nl (buf.drop j) = true := by
        intro j hj hjl
        have hj13 : buf[j]? = some 13 := by
          have := (occ_iff _ _ _).1 hj _ _ hnl.zero
          rw [Nat.add_zero] at this
          exact get_back this hjl
        have hend : buf.length < j + nl.length := by
          by_cases h : j + nl.length ≤ buf.length
          · have := hno j (by omega)
            rw [occ_back hj h] at this
            cases this
          · omega
        refine ⟨hj13, lastI_at hj13 ?_, ?_⟩
        · intro i hi h13
          exact occ_past hnl hj hi (by have := get_lt h13; omega) (get_app h13)
        · rw [hp_iff]
          intro k c hc
          rw [List.getElem?_drop] at hc
          have hl := get_lt hc
          obtain ⟨c2, hc2⟩ := get_has (l := nl) (k := k) (by omega)
          have h3 := get_back ((occ_iff _ _ _).1 hj _ _ hc2) hl
          rw [h3] at hc
          injection hc with hc
          subst hc
          exact hc2
      by_cases hc : 0 ≤ lastI buf 13 ∧ hasPrefix nl (buf.drop (lastI buf 13).toNat) = true
      · rw [if_pos hc]
        rcases lastI_cases buf 13 with ⟨h1, _⟩ | ⟨i, hi, hi13, hlast⟩
        · rw [h1] at hc; exact absurd hc.1 (by decide)
        · have hil := get_lt hi13
          rw [hi]
          refine ⟨Int.natCast_nonneg _, by simp; omega, ?_, fun h => absurd h (by simp), .inr (.inl (cr_of hi13))⟩
          rcases Lib.index_spec (buf ++ m) nl with ⟨hx2, hno2⟩ | ⟨j, hx2, hj, ho2, hno2⟩
          · rw [hx2, if_neg (by decide)]
            split
            · rename_i h
              rcases lastI_cases (buf ++ m) 13 with ⟨h1, h2⟩ | ⟨j, hj, hj13, hjl⟩
              · exact absurd (get_app hi13) (h2 i)
              · rw [hj]
                by_cases hlt : j < i
                · exact absurd (get_app hi13) (hjl i hlt)
                · simp; omega
            · simp; omega
          · rw [hx2, if_pos (by omega)]
            refine Int.le_trans ?_ (pick_ge _ _ _ (by omega))
            by_cases hji : j < i
            · exfalso
              obtain ⟨_, h2, _⟩ := hover j ho2 (by omega)
              rw [hi] at h2
              omega
            · simp; omega
      · rw [if_neg hc]
        refine ⟨Int.natCast_nonneg _, Int.le_refl _, ?_, fun h => absurd h (by simp), .inr (.inr rfl)⟩
        rcases Lib.index_spec (buf ++ m) nl with ⟨hx2, hno2⟩ | ⟨j, hx2, hj, ho2, hno2⟩
        · rw [hx2, if_neg (by decide)]
          split
          · rename_i h
            rcases lastI_cases (buf ++ m) 13 with ⟨h1, h2⟩ | ⟨j, hj, hj13, hjl⟩
            · rw [h1] at h; exact absurd h.1 (by decide)
            · rw [hj]
              by_cases hlt : j < buf.length
              · exfalso
                have hb13 := get_back hj13 hlt
                have hlb : lastI buf 13 = j := lastI_at hb13 fun i hi h13 => hjl i hi (get_app h13)
                apply hc
                rw [hlb]
                refine ⟨by omega, ?_⟩
                have h2 := h.2
                rw [hj, Int.toNat_natCast, drop_more _ _ (by omega)] at h2
                rw [Int.toNat_natCast]
                exact hp_less h2
              · simp; omega
          · simp
            omega
        · rw [hx2, if_pos (by omega)]
          refine Int.le_trans ?_ (pick_ge _ _ _ (by omega))
          by_cases hji : j < buf.length
          · exfalso
            obtain ⟨_, h2, h3⟩ := hover j ho2 hji
            apply hc
            rw [h2]
            exact ⟨by omega, by rw [Int.toNat_natCast]; exact h3⟩
          · simp; omega
  · have hroom := occ_room ho (by omega)
    have hx2 : Lib.index (buf ++ m) nl = k := by
      refine Lib.index_first (by simp; omega) (occ_app ho) fun j hj => ?_
      cases hoj : Lib.occAt (buf ++ m) nl j with
      | false => rfl
      | true =>
        have := hno j hj
        rw [occ_back hoj (by omega)] at this
        cases this
    rw [hx, hx2, if_pos (by omega), if_pos (by omega)]
    have hdm : (buf ++ m).drop ((k : Int).toNat + nl.length) = buf.drop ((k : Int).toNat + nl.length) ++ m := drop_more _ _ (by simp; omega)
    rw [hdm]
    have hsafe := pick_safe (i := (k : Int)) (k := (nl.length : Int)) (m := mAfter (buf.drop ((k : Int).toNat + nl.length)) false) (m2 := mAfter (buf.drop ((k : Int).toNat + nl.length) ++ m) e) (fun h => mAfter_more _ _ _ h) (by omega)
    refine ⟨?_, ?_, hsafe.1, hsafe.2, .inr (.inl ?_)⟩
    · exact Int.le_trans (by omega : (0 : Int) ≤ k) (pick_ge _ _ _ (by omega))
    · exact Int.le_trans (pick_le (by omega)) (by omega)
    · have := (occ_iff _ _ _).1 ho _ _ hnl.zero
      exact cr_of this

theorem scan_safe {buf m d nl : List UInt8} (hnl : Nl nl d) (t0 e : Bool) : Safe (scanP buf d nl t0 false) buf t0 (scanP (buf ++ m) d nl t0 e).1 := by
  by_cases h1 : t0 = true ∧ hasPrefix buf d = true
  · have hp := (hp_iff _ _).1 h1.2
    have hdl : d.length ≤ buf.length := by
      by_cases h : d.length = 0
      · omega
      · obtain ⟨c, hc⟩ := get_has (l := d) (k := d.length - 1) (by omega)
        have := get_lt (hp _ _ hc)
        omega
    have h2 : t0 = true ∧ hasPrefix (buf ++ m) d = true := ⟨h1.1, (hp_iff _ _).2 fun k c hc => get_app (hp k c hc)⟩
    unfold scanP
    rw [if_pos h1, if_pos h2, drop_more _ _ hdl]
    have hsafe := pick_safe (i := 0) (k := (d.length : Int)) (m := mAfter (buf.drop d.length) false) (m2 := mAfter (buf.drop d.length ++ m) e) (fun h => mAfter_more _ _ _ h) (by omega)
    refine ⟨pick_ge _ _ _ (by omega), ?_, hsafe.1, hsafe.2, .inl h1.1⟩
    exact Int.le_trans (pick_le (by omega)) (by omega)
  · by_cases h2 : t0 = true ∧ hasPrefix d buf = true
    · have hpos := scanP_pos (buf ++ m) d nl t0 e
      have : scanP buf d nl t0 false = (0, 2) := by unfold scanP; rw [if_neg h1, if_pos h2]
      rw [this]
      exact ⟨Int.le_refl _, Int.natCast_nonneg _, hpos, fun h => absurd h (by decide), .inl h2.1⟩
    · have n1 : ¬ (t0 = true ∧ hasPrefix (buf ++ m) d = true) := by
        rintro ⟨ht, h⟩
        rw [hp_more (by simpa [ht] using h1) (by simpa [ht] using h2)] at h
        cases h
      have n2 : ¬ (t0 = true ∧ hasPrefix d (buf ++ m) = true) := by
        rintro ⟨ht, h⟩
        exact h2 ⟨ht, hp_less h⟩
      have e1 : scanP buf d nl t0 false = scanT buf nl false := by unfold scanP; rw [if_neg h1, if_neg h2]
      have e2 : scanP (buf ++ m) d nl t0 e = scanT (buf ++ m) nl e := by unfold scanP; rw [if_neg n1, if_neg n2]
      rw [e1, e2]
      exact tail_safe hnl t0 e

end Go.Proofs.YtfbjfcnkmhnimaaDoor
