/- Texts of the proof, joined: InsD, Lines, CanP, CanH. -/
import Derived.Test.YtklkgddldndmmaaDoorM11
import Derived.Lib.SlBytesConst
/- The walk of slices.Insert of one header in the midst of a row of the call's own, where there is no room; all ways in one. -/
namespace Go.Proofs.YtklkgddldndmmaaDoor
open Go.RowKit
set_option linter.unusedVariables false
set_option linter.unusedSimpArgs false

theorem wpList_append_eq {P : Program} (w : World) {ops : Array Oper} {rest : List Oper} {o : Oper} {a : Act} {Q : Exit → Act → World → Prop} (hgd : o.guard = none) (d s : Operand) (t t' : TypeId)
    (ho : o.op = .call { callee := .builtin .append, args := #[d, s], argTypes := #[t, t'] }) (v u : Value) (hd : a.eval d = v) (hs : a.eval s = u) {v' : Value} {w' : World}
    (hr : (Builtin.append_ #[t, t'] o.type #[v, u]).run P w = .ok v' w') (h : wpList P ops Q rest (a.put o.dst v') w') : wpList P ops Q (o :: rest) a w :=
  wpList_plain hgd fun K hK => by
    unfold Oper.wp execOp
    simp only [ho, resolve, invoke, builtin, Sem.run_bind, Sem.run_pure, Result.andThen_ok, List.map_toArray, List.map_cons, List.map_nil, hd, hs, hr]
    exact hK _ _ h

theorem splice_grow {R xs new : List Value} {n i G : Nat} (hR : R.take (i * 2) = xs.take (i * 2)) (hl : R.length = G * 2) (hxl : xs.length = n * 2) (hi : i < n) (hG : n + 1 ≤ G) (hnew : new.length = 2) {c1 c2 : List Value}
    (h1 : c1 = R.take (i * 2) ++ new ++ R.drop (i * 2 + new.length)) (h2 : c2 = c1.take ((i + 1) * 2) ++ xs.drop (i * 2) ++ c1.drop ((i + 1) * 2 + (xs.drop (i * 2)).length)) :
    c1.length = G * 2 ∧ c2.length = G * 2 ∧ c2.take ((n + 1) * 2) = xs.take (i * 2) ++ new ++ xs.drop (i * 2) := by
  have hPl : (xs.take (i * 2)).length = i * 2 := by rw [List.length_take]; omega
  have hSl : (xs.drop (i * 2)).length = (n - i) * 2 := by rw [List.length_drop]; omega
  rw [hR] at h1
  have hl1 : c1.length = G * 2 := by
    rw [h1, List.length_append, List.length_append, hPl, hnew, List.length_drop, hl]
    omega
  have ht : c1.take ((i + 1) * 2) = xs.take (i * 2) ++ new := by
    rw [h1]
    exact List.take_left' (by rw [List.length_append, hPl, hnew]; omega)
  rw [ht] at h2
  refine ⟨hl1, ?_, ?_⟩
  · rw [h2]
    simp only [List.length_append, List.length_drop, List.length_take, hl1, hnew, hxl]
    omega
  · rw [h2]
    exact List.take_left' (by rw [List.length_append, List.length_append, hPl, hSl, hnew]; omega)

set_option maxRecDepth 100000 in
set_option maxHeartbeats 2000000 in
theorem ins_grow (base n c i vb g : Nat) (a b : Value) (xs : List Value) (cur : Array Value) (w : World) (hg : w.heap[g]? = some (.cells cur 81 (0, 0))) (hbase : base ≤ w.heap.size) (hcs : cur.size = c * 2) (hct : cur.toList.take (n * 2) = xs) (hx1 : ∀ u ∈ xs, u.oneCell' = true)
    (hi : i < n) (hnc : n ≤ c) (hr : c < n + 1) (hn : n ≤ 1000) (hb : w.heap[vb]? = some (.cells #[a, b] 81 (0, 0))) (hne : vb ≠ g) (h1 : a.oneCell' = true ∧ b.oneCell' = true) :
    Calls Tryd.prog 71 #[.slice (some ⟨g, 0, none⟩) n c, .int .i64 i, .slice (some ⟨vb, 0, none⟩) 1 1] w fun e w' => InsPost base (.slice (some ⟨g, 0, none⟩) n c) n xs i a b w e w' := by
  obtain ⟨i81, hi0, hz0, hzs, hzb⟩ := info_parts info81
  have hgl : g < w.heap.size := (Array.getElem?_eq_some_iff.1 hg).1
  have hvl : vb < w.heap.size := (Array.getElem?_eq_some_iff.1 hb).1
  have hz2 : ¬ ((i : Int) = (n : Int)) := by omega
  have hz2' : ((i : Int) == (n : Int)) = false := beq_not hz2
  have hz3 : (c : Int) < (n : Int) + 1 := by omega
  have hb0 : (0 : Int) ≤ (i : Int) := by omega
  have hb1 : (i : Int) ≤ (n : Int) := by omega
  have hb2 : (i : Int) ≤ (c : Int) := by omega
  have hci : ¬ (c = i) := by omega
  have hs2 : (Tryd.prog.info? 81).map (·.size) = some 2 := by rw [hi0]; simp [hzs]
  have hxl : xs.length = n * 2 := by rw [← hct, List.length_take]; simp [hcs]; omega
  have hdl : (xs.drop (i * 2)).length = (n - i) * 2 := by rw [List.length_drop]; omega
  have hcell : ∀ j v, xs[j]? = some v → w.cell? ⟨g, j, none⟩ = some v := fun j v hj => by
    rw [Lib.cell_of_heap hg, ← Array.getElem?_toList]
    rw [← hct, List.getElem?_take] at hj
    split at hj
    · exact hj
    · cases hj
  have hold : (Builtin.firstCells i81.size i (.slice (some ⟨g, 0, none⟩) i c)).run Tryd.prog w.drew = .ok (xs.take (i * 2)).toArray w.drew := by
    rw [hzs]
    exact run_firstCells_some w.drew 2 i ⟨g, 0, none⟩ i c (xs.take (i * 2)) (by rw [List.length_take]; omega) (fun j v hj => by
      rw [Addr.add_lit, Nat.zero_add]
      rw [List.getElem?_take] at hj
      split at hj
      · exact hcell j v hj
      · cases hj)
  have hkk : (n : Int) + 1 - (i : Int) = ((n + 1 - i : Nat) : Int) := by omega
  have hik : i + (n + 1 - i) = n + 1 := by omega
  obtain ⟨G, hG⟩ : ∃ G, G = grownCap w (n + 1) c 81 := ⟨_, rfl⟩
  obtain ⟨ROW, hROW⟩ : ∃ ROW : Array Value, ROW = (xs.take (i * 2)).toArray ++ Builtin.zeroCells (Value.agg #[.string ⟨#[]⟩, .slice none 0 0]).cells (n + 1 - i) ++ Builtin.zeroCells (Value.agg #[.string ⟨#[]⟩, .slice none 0 0]).cells (G - (n + 1)) := ⟨_, rfl⟩
  have hGn : n + 1 ≤ G := by rw [hG]; exact grownCap_ge w _ _ _
  have hG63 : G ≤ maxLen := by rw [hG]; exact grownCap_le_maxLen w (n + 1) c 81 (by unfold maxLen; omega)
  have hRl : ROW.toList.length = G * 2 := by
    have hp : ((xs.take (i * 2)).toArray).size = i * 2 := by simp [hxl]; omega
    rw [hROW, Array.length_toList, Array.size_append, Array.size_append, hp]
    simp [Builtin.zeroCells, Value.cells]
    omega
  have hRt : ROW.toList.take (i * 2) = xs.take (i * 2) := by
    rw [hROW]
    simp only [Array.toList_append, List.append_assoc]
    exact List.take_left' (by rw [List.length_take]; omega)
  have hrz : ∀ ty, (Builtin.append_ #[39, 3] ty #[.slice (some ⟨g, 0, none⟩) i c, .int .i64 ((n : Int) + 1 - (i : Int))]).run Tryd.prog w = .ok (.slice (some ⟨w.heap.size, 0, none⟩) (n + 1) G) (w.drew.alloc (.cells ROW 81)) := fun ty => by
    have h := Lib.run_append_grow_zeros w 39 3 ty 81 i81 _ .i64 .i64 Tryd.underlying39 Tryd.underlying3 hi0 hz0 (some ⟨g, 0, none⟩) i c (xs.take (i * 2)) hold (n + 1 - i) (by omega) (by omega) (by omega) (by omega) (by rw [hzb]; omega) (by rw [hzb, hik]; exact growslice_fits hr (by omega))
    rw [hik] at h
    rw [hkk, hROW, hG]
    exact h
  obtain ⟨C1, hC1⟩ : ∃ C1, C1 = ROW.toList.take (i * 2) ++ [a, b] ++ ROW.toList.drop (i * 2 + [a, b].length) := ⟨_, rfl⟩
  obtain ⟨C2, hC2⟩ : ∃ C2, C2 = C1.take ((i + 1) * 2) ++ xs.drop (i * 2) ++ C1.drop ((i + 1) * 2 + (xs.drop (i * 2)).length) := ⟨_, rfl⟩
  obtain ⟨hl1, hl2, hfin⟩ := splice_grow hRt hRl hxl hi hGn rfl hC1 hC2
  obtain ⟨H, hH⟩ : ∃ H, H = w.heap.size := ⟨_, rfl⟩
  obtain ⟨W1, hW1⟩ : ∃ W1, W1 = w.drew.alloc (.cells ROW 81) := ⟨_, rfl⟩
  rw [← hH, ← hW1] at hrz
  have hg1 : W1.heap[H]? = some (.cells ROW 81 (0, 0)) := by rw [hW1, hH]; exact heap_alloc_new w.drew _
  have hold1 : ∀ k, k < w.heap.size → W1.heap[k]? = w.heap[k]? := fun k hk => by rw [hW1]; exact Below.heap_alloc w.drew _ k hk
  have hcp1 : ∀ ty dc, (Builtin.copy_ #[39, 39] ty #[.slice (some ⟨H, i * 2, none⟩) (n + 1 - i) dc, .slice (some ⟨vb, 0, none⟩) 1 1]).run Tryd.prog W1 = .ok (goInt (Nat.min 1 (n + 1 - i))) (W1.setRow H C1.toArray) := fun ty dc => by
    have h := run_copy_row2 (P := Tryd.prog) W1 39 39 ty 81 H (i * 2) (n + 1 - i) dc ⟨vb, 0, none⟩ 1 1 ROW 81 [a, b] Tryd.underlying39 hs2 hg1 (by simp only [Nat.min_def]; split <;> simp <;> omega)
      (fun j v hj => by
        rw [Addr.add_lit, Nat.zero_add, Lib.cell_of_heap ((hold1 vb hvl).trans hb)]
        simpa using hj) (by have h := hRl; rw [Array.length_toList] at h; simp; omega) (by
        intro u hu
        simp only [List.mem_cons, List.not_mem_nil, or_false] at hu
        rcases hu with rfl | rfl
        · exact h1.1
        · exact h1.2)
    rw [hC1]
    exact h
  obtain ⟨W2, hW2⟩ : ∃ W2, W2 = W1.setRow H C1.toArray := ⟨_, rfl⟩
  have hg2 : W2.heap[H]? = some (.cells C1.toArray 81 (0, 0)) := by rw [hW2]; exact setRow_heap W1 H ROW _ 81 (0, 0) hg1
  have hold2 : ∀ k, k < w.heap.size → W2.heap[k]? = w.heap[k]? := fun k hk => by rw [hW2, setRow_other W1 H k _ (by omega)]; exact hold1 k hk
  have hcp2 : ∀ ty dc sc, (Builtin.copy_ #[39, 39] ty #[.slice (some ⟨H, (i + 1) * 2, none⟩) (n - i) dc, .slice (some ⟨g, i * 2, none⟩) (n - i) sc]).run Tryd.prog W2.drew = .ok (goInt (Nat.min (n - i) (n - i))) (W2.drew.setRow H C2.toArray) := fun ty dc sc => by
    have h := run_copy_row2 (P := Tryd.prog) W2.drew 39 39 ty 81 H ((i + 1) * 2) (n - i) dc ⟨g, i * 2, none⟩ (n - i) sc C1.toArray 81 (xs.drop (i * 2)) Tryd.underlying39 hs2 hg2 (by rw [hdl]; simp only [Nat.min_def]; split <;> omega)
      (fun j v hj => by
        rw [Addr.add_lit]
        rw [List.getElem?_drop] at hj
        have h := hcell _ v hj
        rw [← h]
        exact World.cell?_of_block (a := ⟨g, i * 2 + j, none⟩) (hold2 g hgl)) (by rw [hdl]; simp [hl1]; omega) (fun v hv => hx1 v (List.mem_of_mem_drop hv))
    rw [hC2]
    exact h
  have HFin := Lib.hid hfin
  have HG2 := Lib.hid hg2
  have HL2 := Lib.hid hl2
  have HGr := Lib.hid (show w.grownBy (W2.drew.setRow H C2.toArray) (some g) from ⟨by rw [hW2, hW1]; rfl, by rw [hW2, hW1]; rfl, by rw [hW2, hW1]; rfl, by rw [hW2, hW1]; simp [World.setRow], fun k hk _ => by rw [setRow_other W2.drew H k _ (by omega)]; exact hold2 k hk⟩)
  have HHs := Lib.hid hH
  have hbase' : base ≤ H := by omega
  rw [← hW2] at hcp1
  unfold maxLen at hG63
  have hGi : ¬ (G = i) := by omega
  have hGi1 : ¬ (G = i + 1) := by omega
  have hw1 : IntKind.i64.wrap ((i : Int) + 1) = (i : Int) + 1 := by rw [IntKind.wrap_i64]; omega
  have htn : ((i : Int) + 1).toNat = i + 1 := by omega
  have hb5 : (0 : Int) ≤ (i : Int) + 1 := by omega
  have hb6 : (i : Int) ≤ (n : Int) + 1 := by omega
  have hb7 : (i : Int) + 1 ≤ (n : Int) + 1 := by omega
  clear hC1 hC2 hfin hg1 hg2 hl1 hl2 hW1 hW2 hct hcs hxl hdl hcell hs2 hx1 hg hb hold hold1 hold2 hROW hRl hRt hH hG hkk
  go_enter Tryd.func71, Tryd.ntmps71
  go_wp2_with (first
    | (at_builtin; refine wpList_append_eq _ rfl (.tmp 34) (.tmp 39) 39 3 rfl _ _ rfl rfl (hrz _) ?_)
    | (at_builtin; refine wpList_copy_eq _ rfl (.tmp 43) (.tmp 44) 39 39 rfl _ _ rfl rfl (hcp1 _ _) ?_))
  go_region_law (refine step_copy_eq rfl (.tmp 50) (.tmp 53) 39 39 rfl _ _ (by simp [Act.eval, Act.put]; rfl) (by simp [Act.eval, Act.put]; rfl) (hcp2 _ _ _) ?_)
  go_wp2
  go_ret
  refine ⟨_, rfl, ⟨?_, .inr ⟨H, G, C2.toArray, rfl, hbase', ?_, hGn, hG63, ?_, ?_⟩⟩, HGr.out, .inr (by rw [← HHs.out]; rfl)⟩
  · rw [← HFin.out, List.length_take, HL2.out]
    omega
  · exact setRow_heap W2.drew H _ _ 81 (0, 0) HG2.out
  · simpa using HL2.out
  · exact HFin.out

/-- slices.Insert of one header into a row of the call's own, at every place. -/
theorem insert_any (base n i vb : Nat) (v : Value) (a b : Value) (xs : List Value) (w : World) (hown : w.ownsRow base 81 2 v n xs) (hx1 : ∀ u ∈ xs, u.oneCell' = true) (hi : i ≤ n) (hn : n ≤ 1000) (hb : w.heap[vb]? = some (.cells #[a, b] 81 (0, 0))) (hne : v.ownBlock ≠ some vb) (h1 : a.oneCell' = true ∧ b.oneCell' = true) (hbase : base ≤ w.heap.size) :
    Calls Tryd.prog 71 #[v, .int .i64 i, .slice (some ⟨vb, 0, none⟩) 1 1] w fun e w' => InsPost base v n xs i a b w e w' := by
  by_cases hin : i = n
  · subst hin
    obtain ⟨A, c, rfl⟩ := own_slice hown
    exact ins_end base i c vb A a b xs w hown hn hb h1 hbase
  · have hi' : i < n := by omega
    rcases hown.2 with ⟨rfl, h0⟩ | ⟨g, c, cur, rfl, hbg, hg, hnc, hcm, hcs, hct⟩
    · omega
    · have hne' : vb ≠ g := fun e => hne (by rw [e]; rfl)
      by_cases hr : n + 1 ≤ c
      · exact ins_shift base n c i vb g a b xs cur w hg hbg hcm hcs hct hx1 hi' hr hb hne' h1
      · exact ins_grow base n c i vb g a b xs cur w hg hbase hcs hct hx1 hi' hnc (by omega) hn hb hne' h1

end Go.Proofs.YtklkgddldndmmaaDoor

/- The walks of spec.line, strings.HasPrefix, delimiter: where Parse comes to them. -/
namespace Go.Proofs.YtklkgddldndmmaaDoor
open Go.RowKit
set_option linter.unusedVariables false
set_option linter.unusedSimpArgs false

theorem ext_full (s : ByteArray) : s.extract 0 s.size = s := by
  apply ByteArray.ext
  rw [ByteArray.data_extract]
  apply Array.ext'
  simp
  exact List.take_of_length_le (by simp)
theorem ext_none (s : ByteArray) : s.extract s.size s.size = ⟨#[]⟩ := by
  apply ByteArray.ext
  rw [ByteArray.data_extract]
  apply Array.ext'
  simp

theorem hp64_same (s : ByteArray) (w : World) (hs : s.size ≤ 2147483647) : Calls Tryd.prog 64 #[.string s, .string s] w fun e w' => e = .returned (.bool true) ∧ w = w' := by
  have h1 := ext_full s
  go_enter Tryd.func64, Tryd.ntmps64
  go_wp2
  go_ret
  exact ⟨by first | rfl | simp, rfl⟩
theorem hp64_short (s p : ByteArray) (w : World) (hs : s.size < p.size) : Calls Tryd.prog 64 #[.string s, .string p] w fun e w' => e = .returned (.bool false) ∧ w = w' := by
  have h1 : ¬ (p.size : Int) ≤ (s.size : Int) := by omega
  go_enter Tryd.func64, Tryd.ntmps64
  go_wp2
  go_ret
  exact ⟨rfl, rfl⟩
theorem hp44_same (s : ByteArray) (w : World) (hs : s.size ≤ 2147483647) : Calls Tryd.prog 44 #[.string s, .string s] w fun e w' => e = .returned (.bool true) ∧ w = w' := by
  go_enter Tryd.func44, Tryd.ntmps44
  go_wp2_with fail
  refine (hp64_same s _ hs).mono ?_
  rintro e w1 ⟨rfl, rfl⟩
  go_wp2
  go_ret
  exact ⟨rfl, rfl⟩
theorem cut65_same (s : ByteArray) (w : World) (hs : s.size ≤ 2147483647) : Calls Tryd.prog 65 #[.string s, .string s] w fun e w' => e = .returned (.tuple #[.string ⟨#[]⟩, .bool true]) ∧ w = w' := by
  have HC : ∀ w : World, Calls Tryd.prog 79 #[.string s, .string s] w fun e w' => e = .returned (.tuple #[.string ⟨#[]⟩, .bool true]) ∧ w = w' := fun w => by
    have h1 := ext_none s
    go_enter Tryd.func79, Tryd.ntmps79
    go_wp2_with fail
    refine (hp64_same s _ hs).mono ?_
    rintro e w1 ⟨rfl, rfl⟩
    go_wp2
    go_ret2
    exact ⟨rfl, rfl⟩
  have HC := Lib.hid HC
  go_enter Tryd.func65, Tryd.ntmps65
  go_wp2_with fail
  refine (HC.out _).mono ?_
  rintro e w1 ⟨rfl, rfl⟩
  go_wp2
  go_ret2
  exact ⟨rfl, rfl⟩
theorem cut65_short (s p : ByteArray) (w : World) (hs : s.size < p.size) : Calls Tryd.prog 65 #[.string s, .string p] w fun e w' => e = .returned (.tuple #[.string s, .bool false]) ∧ w = w' := by
  have HC : ∀ w : World, Calls Tryd.prog 79 #[.string s, .string p] w fun e w' => e = .returned (.tuple #[.string s, .bool false]) ∧ w = w' := fun w => by
    go_enter Tryd.func79, Tryd.ntmps79
    go_wp2_with fail
    refine (hp64_short s p _ hs).mono ?_
    rintro e w1 ⟨rfl, rfl⟩
    go_wp2
    go_ret2
    exact ⟨rfl, rfl⟩
  have HC := Lib.hid HC
  go_enter Tryd.func65, Tryd.ntmps65
  go_wp2_with fail
  refine (HC.out _).mono ?_
  rintro e w1 ⟨rfl, rfl⟩
  go_wp2
  go_ret2
  exact ⟨rfl, rfl⟩
theorem blanks_nil (w : World) : Calls Tryd.prog 66 #[.string ⟨#[]⟩] w fun e w' => e = .returned (.bool true) ∧ w = w' := by
  go_enter Tryd.func66, Tryd.ntmps66
  go_wp2
  go_loop [3] (fun i => i = .int .i64 0) (fun i => 0)
  case atStart => rfl
  case round =>
    obtain rfl := hrel
    go_wp2
    go_ret
    exact ⟨rfl, rfl⟩
theorem delim_same (s : ByteArray) (w : World) (hs : s.size ≤ 2147483647) : Calls Tryd.prog 45 #[.string s, .string s] w fun e w' => e = .returned (.bool true) ∧ w = w' := by
  go_enter Tryd.func45, Tryd.ntmps45
  go_wp2_with fail
  refine (cut65_same s _ hs).mono ?_
  rintro e w1 ⟨rfl, rfl⟩
  go_wp2_with fail
  refine (blanks_nil _).mono ?_
  rintro e w2 ⟨rfl, rfl⟩
  go_wp2
  go_ret
  exact ⟨rfl, rfl⟩
theorem delim_short (s p : ByteArray) (w : World) (hs : s.size < p.size) : Calls Tryd.prog 45 #[.string s, .string p] w fun e w' => e = .returned (.bool false) ∧ w = w' := by
  go_enter Tryd.func45, Tryd.ntmps45
  go_wp2_with fail
  refine (cut65_short s p _ hs).mono ?_
  rintro e w1 ⟨rfl, rfl⟩
  go_wp2
  go_ret
  exact ⟨rfl, rfl⟩

set_option maxRecDepth 100000 in
set_option maxHeartbeats 1000000 in
/-- line, where there is a line break. -/
theorem line_any (A : Option Addr) (n c B k : Nat) (l : List UInt8) (w : World) (hnc : n ≤ c) (hn : n ≤ 2305843009213693952) (hB : B ≤ w.heap.size) (hr : RdB w B A n l) (hx : Lib.index l [13, 10] = (k : Int)) (hk : k + 2 ≤ n) :
    Calls Tryd.prog 43 #[.slice A n c] w fun e w' => ∃ A' c', e = .returned (.tuple #[.string ⟨(l.take k).toArray⟩, .slice A' (n - (k + 2)) c', .bool true]) ∧ RdB w' B A' (n - (k + 2)) (l.drop (k + 2)) ∧ n - (k + 2) ≤ c' ∧ Below w.heap.size w w' := by
  obtain ⟨b, o, rfl, hb, _⟩ := hr.2 (by omega)
  have kc := fun (w : World) (C : Array Value) (n c : Nat) => Lib.run_convert_bytes_const (P := Tryd.prog) w 31 5 C n c Tryd.underlying31 Tryd.underlying5
  have hal := (Below.refl w.heap.size w).alloc (Nat.le_refl _) (.cells #[.int .u8 13, .int .u8 10] 5 (2, 3))
  have g1 := heap_alloc_new w (.cells #[.int .u8 13, .int .u8 10] 5 (2, 3))
  have hr1 : RdB (w.alloc (.cells #[.int .u8 13, .int .u8 10] 5 (2, 3))) (w.alloc (.cells #[.int .u8 13, .int .u8 10] 5 (2, 3))).heap.size (some ⟨w.heap.size, 0, none⟩) 2 [13, 10] :=
    ⟨rfl, fun _ => ⟨w.heap.size, 0, rfl, by simp, fun j u hu => by
      rw [Nat.zero_add, Lib.cell_of_heap g1]
      simpa [Lib.byteCells] using hu⟩⟩
  have hra := (hr.below (hal.mono hB)).more (B' := (w.alloc (.cells #[.int .u8 13, .int .u8 10] 5 (2, 3))).heap.size) (Nat.le_trans hB hal.size)
  have HF := Lib.hid (fi_b (d := 2) (k : Int) hnc hn (by omega) (by omega) hra hr1 hx)
  have hv : ∀ q, (convert 31 9 (.slice (some ⟨b, o, none⟩) k c)).run Tryd.prog ((w.alloc (.cells #[.int .u8 13, .int .u8 10] 5 (2, 3))).drewN q) = .ok (.string ⟨(l.take k).toArray⟩) ((w.alloc (.cells #[.int .u8 13, .int .u8 10] 5 (2, 3))).drewN q) := fun q =>
    RdB.conv (P := Tryd.prog) (Rd.drewN (RdB.take hra (k := k) (by omega)) q) (src := 31) (dst := 9) (e := 5) Tryd.underlying31 Tryd.underlying5 Tryd.underlying9 c
  have hcut := RdB.cut (hr.below (hal.mono hB)) (k := k + 2) (cap := c) hk hnc
  have HCut := Lib.hid hcut
  have HAl := Lib.hid hal
  have h0 : (0 : Int) ≤ (k : Int) := by omega
  have hz : ¬ (k : Int) < 0 := by omega
  have h1 : (k : Int) ≤ (c : Int) := by omega
  have h2 : (k : Int) + 2 ≤ (n : Int) := by omega
  have h3 : (0 : Int) ≤ (k : Int) + 2 := by omega
  have hw1 : IntKind.i64.wrap ((k : Int) + 2) = (k : Int) + 2 := by rw [IntKind.wrap_i64]; omega
  have htn : ((k : Int) + 2).toNat = k + 2 := by omega
  clear hr hra hr1 g1 hal hcut hx
  by_cases hck : c = k + 2
  · obtain rfl : n = k + 2 := by omega
    subst hck
    go_enter Tryd.func43, Tryd.ntmps43
    go_wp2_with fail
    refine HF.out.mono ?_
    rintro e w1 ⟨rfl, rfl⟩
    go_wp2_with fail
    go_quiet (fail)
    go_wp2
    go_ret3
    have h := HCut.out
    rw [if_pos trivial] at h
    exact ⟨_, 0, by simp, Rd.drewN h _, by omega, below_drewN HAl.out _⟩
  · go_enter Tryd.func43, Tryd.ntmps43
    go_wp2_with fail
    refine HF.out.mono ?_
    rintro e w1 ⟨rfl, rfl⟩
    go_wp2_with fail
    go_quiet (fail)
    go_wp2
    go_ret3
    have h := HCut.out
    rw [if_neg hck] at h
    exact ⟨_, _, rfl, Rd.drewN h _, by omega, below_drewN HAl.out _⟩

end Go.Proofs.YtklkgddldndmmaaDoor

/- A header with its keys in canonical form, in ascending order: the plain function, and the cells of such a list. -/
namespace Go.Proofs.YtklkgddldndmmaaDoor
open Go.RowKit
set_option linter.unusedVariables false
set_option linter.unusedSimpArgs false

def cKey (k : ByteArray) : ByteArray := ⟨(canonL k.data.toList).toArray⟩
def lessB (a b : ByteArray) : Bool := Op.bytesLess a.toList b.toList
/-- Where a key is put: ahead of the first that is not less. -/
def posH (out : HdrL) (k : ByteArray) : Nat := (out.takeWhile fun x => lessB x.1 k).length
def insAt (out : HdrL) (i : Nat) (h : ByteArray × List ByteArray) : HdrL := out.take i ++ [h] ++ out.drop i
def insH (out : HdrL) (h : ByteArray × List ByteArray) : HdrL := insAt out (posH out h.1) h
def canonH (hs : HdrL) : HdrL := hs.foldl (fun out h => insH out (cKey h.1, h.2)) []

theorem posH_le (out : HdrL) (k : ByteArray) : posH out k ≤ out.length := by
  unfold posH
  exact (List.takeWhile_sublist _).length_le
theorem posH_lt : ∀ (out : HdrL) (k : ByteArray) (j : Nat) (x : ByteArray × List ByteArray), j < posH out k → out[j]? = some x → lessB x.1 k = true
  | [], _, _, _, h, _ => by simp [posH] at h
  | y :: r, k, j, x, h, hx => by
    unfold posH at h
    by_cases hy : lessB y.1 k = true
    · rw [List.takeWhile_cons_of_pos (by simpa using hy)] at h
      match j, hx with
      | 0, hx =>
        obtain rfl := Option.some.inj hx
        exact hy
      | j + 1, hx => exact posH_lt r k j x (by unfold posH; simpa using h) hx
    · rw [List.takeWhile_cons_of_neg (by simpa using hy)] at h
      simp at h
theorem posH_at : ∀ (out : HdrL) (k : ByteArray) (x : ByteArray × List ByteArray), out[posH out k]? = some x → lessB x.1 k = false
  | [], _, _, h => by simp at h
  | y :: r, k, x, h => by
    unfold posH at h
    by_cases hy : lessB y.1 k = true
    · rw [List.takeWhile_cons_of_pos (by simpa using hy)] at h
      exact posH_at r k x (by unfold posH; simpa using h)
    · rw [List.takeWhile_cons_of_neg (by simpa using hy)] at h
      simp at h
      subst h
      simpa using hy
theorem insAt_len (out : HdrL) (i : Nat) (h : ByteArray × List ByteArray) (hi : i ≤ out.length) : (insAt out i h).length = out.length + 1 := by
  unfold insAt
  simp
  omega
theorem insH_len (out : HdrL) (h : ByteArray × List ByteArray) : (insH out h).length = out.length + 1 := insAt_len _ _ _ (posH_le _ _)
theorem canonH_snoc (hs : HdrL) (h : ByteArray × List ByteArray) : canonH (hs ++ [h]) = insH (canonH hs) (cKey h.1, h.2) := by
  unfold canonH
  rw [List.foldl_append]
  rfl
theorem fold_len : ∀ (hs : HdrL) (a : HdrL), (hs.foldl (fun out h => insH out (cKey h.1, h.2)) a).length = a.length + hs.length
  | [], a => rfl
  | h :: r, a => by
    rw [List.foldl_cons, fold_len r, insH_len, List.length_cons]
    omega
theorem canonH_len (hs : HdrL) : (canonH hs).length = hs.length := by
  unfold canonH
  rw [fold_len]
  simp
theorem cKey_size (k : ByteArray) : (cKey k).size = k.size := by
  unfold cKey
  rw [size_list, canonL_len, len_data]

/-- The cells of a []Header. -/
def HCells (w : World) (B : Nat) (hs : HdrL) (xs : List Value) : Prop :=
  xs.length = hs.length * 2 ∧ (∀ u ∈ xs, u.oneCell' = true) ∧ ∀ (i : Nat) h, hs[i]? = some h → xs[i * 2]? = some (.string h.1) ∧ ∃ Av nv cv, xs[i * 2 + 1]? = some (.slice Av nv cv) ∧ Rd w B 1 Av nv (h.2.map Value.string)
section
variable {w w' : World} {B B' : Nat} {hs : HdrL} {xs : List Value}
theorem HCells.below (h : HCells w B hs xs) (hb : Below B w w') : HCells w' B hs xs := ⟨h.1, h.2.1, fun i x hx => by
  obtain ⟨c0, Av, nv, cv, c1, hr⟩ := h.2.2 i x hx
  exact ⟨c0, Av, nv, cv, c1, hr.below hb⟩⟩
theorem HCells.more (h : HCells w B hs xs) (hB : B ≤ B') : HCells w B' hs xs := ⟨h.1, h.2.1, fun i x hx => by
  obtain ⟨c0, Av, nv, cv, c1, hr⟩ := h.2.2 i x hx
  exact ⟨c0, Av, nv, cv, c1, hr.more hB⟩⟩
theorem HCells.ins (h : HCells w B hs xs) {i : Nat} (hi : i ≤ hs.length) {x : ByteArray × List ByteArray} {Av : Option Addr} {nv cv : Nat} (hr : Rd w B 1 Av nv (x.2.map Value.string)) :
    HCells w B (insAt hs i x) (xs.take (i * 2) ++ [.string x.1, .slice Av nv cv] ++ xs.drop (i * 2)) := by
  have hl := h.1
  have ht : (xs.take (i * 2)).length = i * 2 := by rw [List.length_take]; omega
  have ht2 : (hs.take i).length = i := by rw [List.length_take]; omega
  refine ⟨?_, fun u hu => ?_, fun j y hy => ?_⟩
  · rw [insAt_len _ _ _ hi]
    simp only [List.length_append, List.length_cons, List.length_nil, List.length_drop, List.length_take]
    omega
  · rcases List.mem_append.1 hu with hu | hu
    · rcases List.mem_append.1 hu with hu | hu
      · exact h.2.1 u (List.mem_of_mem_take hu)
      · simp only [List.mem_cons, List.not_mem_nil, or_false] at hu
        rcases hu with rfl | rfl <;> rfl
    · exact h.2.1 u (List.mem_of_mem_drop hu)
  · unfold insAt at hy
    rw [List.append_assoc] at hy ⊢
    by_cases h1 : j < i
    · rw [List.getElem?_append_left (by omega), List.getElem?_take, if_pos h1] at hy
      obtain ⟨c0, A', n', c', c1, hr'⟩ := h.2.2 j y hy
      refine ⟨?_, A', n', c', ?_, hr'⟩
      · rw [List.getElem?_append_left (by omega), List.getElem?_take, if_pos (by omega)]; exact c0
      · rw [List.getElem?_append_left (by omega), List.getElem?_take, if_pos (by omega)]; exact c1
    · rw [List.getElem?_append_right (by omega), ht2] at hy
      by_cases h2 : j = i
      · subst h2
        rw [Nat.sub_self] at hy
        simp at hy
        subst hy
        refine ⟨?_, Av, nv, cv, ?_, hr⟩
        · rw [List.getElem?_append_right (by omega), ht, Nat.sub_self]; rfl
        · rw [List.getElem?_append_right (by omega), ht, show j * 2 + 1 - j * 2 = 1 by omega]; rfl
      · obtain ⟨d, rfl⟩ : ∃ d, j = i + (d + 1) := ⟨j - i - 1, by omega⟩
        rw [show i + (d + 1) - i = d + 1 by omega] at hy
        simp only [List.singleton_append, List.getElem?_cons_succ, List.getElem?_drop] at hy
        obtain ⟨c0, A', n', c', c1, hr'⟩ := h.2.2 (i + d) y hy
        refine ⟨?_, A', n', c', ?_, hr'⟩
        · rw [List.getElem?_append_right (by omega), ht, show (i + (d + 1)) * 2 - i * 2 = d * 2 + 1 + 1 by omega]
          simp only [List.cons_append, List.nil_append, List.getElem?_cons_succ, List.getElem?_drop]
          rw [show i * 2 + d * 2 = (i + d) * 2 by omega]
          exact c0
        · rw [List.getElem?_append_right (by omega), ht, show (i + (d + 1)) * 2 + 1 - i * 2 = d * 2 + 1 + 1 + 1 by omega]
          simp only [List.cons_append, List.nil_append, List.getElem?_cons_succ, List.getElem?_drop]
          rw [show i * 2 + (d * 2 + 1) = (i + d) * 2 + 1 by omega]
          exact c1
/-- A row of the call's own that reads as a []Header. -/
theorem HCells.rdh {base n c : Nat} {A : Option Addr} (h : HCells w B hs xs) (hown : w.ownsRow base 81 2 (.slice A n c) n xs) (hB : B ≤ w.heap.size) : RdH w w.heap.size A n hs := by
  have hl := h.1
  have hl2 := hown.1
  refine ⟨by omega, fun hn => ?_⟩
  obtain ⟨b, o, rfl, hb, hc⟩ := (Rd.of_own hown).2 hn
  refine ⟨b, o, rfl, hb, fun i x hx => ?_⟩
  obtain ⟨c0, Av, nv, cv, c1, hr⟩ := h.2.2 i x hx
  exact ⟨hc _ _ c0, Av, nv, cv, by rw [Nat.add_assoc]; exact hc _ _ c1, hr.more hB⟩
end

end Go.Proofs.YtklkgddldndmmaaDoor

/- The walk of CanonHead. -/
namespace Go.Proofs.YtklkgddldndmmaaDoor
open Go.RowKit
set_option linter.unusedVariables false
set_option linter.unusedSimpArgs false

/-- A []Header under way: a row made since w0 that reads as the list; its values lie below B. -/
def OutH (B : Nat) (w0 w : World) (v : Value) (hs : HdrL) : Prop := ∃ xs, w.ownsRow w0.heap.size 81 2 v hs.length xs ∧ HCells w B hs xs ∧ Below w0.heap.size w0 w
theorem OutH.nil (B : Nat) (w : World) : OutH B w w (.slice none 0 0) [] := ⟨[], World.ownsRow_nil _ _ _ _, ⟨rfl, fun u hu => by simp at hu, fun i x hx => by simp at hx⟩, Below.refl _ _⟩
theorem OutH.later {B : Nat} {w0 w w' : World} {v : Value} {hs : HdrL} (h : OutH B w0 w v hs) (hB : B ≤ w.heap.size) (hb : Below w.heap.size w w') : OutH B w0 w' v hs := by
  obtain ⟨xs, h1, h2, h3⟩ := h
  exact ⟨xs, own_carry h1 fun g hg => hb.block g (h1.lt g hg).2, h2.below (hb.mono hB), h3.trans (hb.mono h3.size)⟩
theorem OutH.slice {B : Nat} {w0 w : World} {v : Value} {hs : HdrL} (h : OutH B w0 w v hs) : ∃ A c, v = .slice A hs.length c := by
  obtain ⟨xs, h1, _⟩ := h
  exact own_slice h1
theorem OutH.key {B : Nat} {w0 w : World} {A : Option Addr} {n c : Nat} {hs : HdrL} (h : OutH B w0 w (.slice A n c) hs) (hn : hs.length = n) {j : Nat} {x : ByteArray × List ByteArray} (hx : hs[j]? = some x) : ∃ g, A = some ⟨g, 0, none⟩ ∧ w.cell? ⟨g, j * 2, none⟩ = some (.string x.1) := by
  obtain ⟨xs, h1, h2, h3⟩ := h
  have hj := (List.getElem?_eq_some_iff.1 hx).1
  obtain ⟨g, cap, hv, _⟩ := h1.form (by omega)
  injection hv with hA _ _
  subst hA
  refine ⟨g, rfl, ?_⟩
  have := h1.cells (g := g) rfl (j * 2) _ (h2.2.2 j x hx).1
  rwa [Addr.add_lit, Nat.zero_add] at this

theorem OutH.ne {B : Nat} {w0 w : World} {v : Value} {hs : HdrL} (h : OutH B w0 w v hs) : v.ownBlock ≠ some w.heap.size := fun e => by
  obtain ⟨xs, h1, _⟩ := h
  have := (h1.lt _ e).2
  omega
theorem insert_out {B i vb nv cv : Nat} {w0 w : World} {v : Value} {hs : HdrL} {kk : ByteArray} {vals : List ByteArray} {Av : Option Addr} (h : OutH B w0 w v hs) (hB : B ≤ w0.heap.size) (hi : i ≤ hs.length) (hn : hs.length ≤ 1000) (hvb : w.heap[vb]? = some (.cells #[.string kk, .slice Av nv cv] 81 (0, 0))) (hne : v.ownBlock ≠ some vb) (hr : Rd w B 1 Av nv (vals.map Value.string)) :
    Calls Tryd.prog 71 #[v, .int .i64 i, .slice (some ⟨vb, 0, none⟩) 1 1] w fun e w' => ∃ v', e = .returned v' ∧ OutH B w0 w' v' (insAt hs i (kk, vals)) := by
  obtain ⟨xs, h1, h2, h3⟩ := h
  refine (insert_any w0.heap.size hs.length i vb v _ _ xs w h1 h2.2.1 hi hn hvb hne ⟨rfl, rfl⟩ h3.size).mono ?_
  rintro e w' ⟨v', rfl, hown, hgrow, _⟩
  have hb : Below w0.heap.size w w' := (Below.refl w0.heap.size w).grown hgrow h3.size (fun j hj => (h1.lt j hj).1)
  refine ⟨v', rfl, _, ?_, (h2.ins (x := (kk, vals)) (cv := cv) hi hr).below (hb.mono hB), h3.trans hb⟩
  rw [insAt_len _ _ _ hi]
  exact hown

set_option maxRecDepth 100000 in
set_option maxHeartbeats 4000000 in
theorem canonHead_any (A : Option Addr) (n c B : Nat) (hs : HdrL) (w : World) (hn : n ≤ 1000) (hBw : B ≤ w.heap.size) (hks : ∀ h ∈ hs, h.1.size ≤ 2147483647) (hr : RdH w B A n hs) :
    Calls Tryd.prog 52 #[.slice A n c] w fun e w' => ∃ v, e = .returned v ∧ OutH B w w' v (canonH hs) := by
  have HR := Lib.hid hr
  have HK := Lib.hid hks
  clear hr hks
  go_enter Tryd.func52, Tryd.ntmps52
  go_wp2_with fail
  go_loopw [3, 10] (fun v i wr => ∃ k : Nat, k ≤ n ∧ i = .int .i64 k ∧ Hid (OutH B w wr v (canonH (hs.take k)))) (fun _ i _ => n - (intOf i).toNat)
  case atStart => exact ⟨0, Nat.zero_le _, rfl, Lib.hid (OutH.nil _ w)⟩
  case round =>
    obtain ⟨k, hk, rfl, HO⟩ := hrel
    by_cases hlt : k < n
    · obtain ⟨b, o, rfl, hb, hcl⟩ := HR.out.2 (by omega)
      obtain ⟨x, hx⟩ : ∃ x, hs[k]? = some x := ⟨_, List.getElem?_eq_getElem (by rw [HR.out.1]; exact hlt)⟩
      obtain ⟨c1, Av, nv, cv, c2, hva⟩ := hcl k x hx
      have hB : Below w.heap.size w wr := by obtain ⟨_, _, _, h⟩ := HO.out; exact h
      have d1 := (hB.cell (p := ⟨b, o + k * 2, none⟩) (Nat.lt_of_lt_of_le hb hBw)).trans c1
      have d2 := (hB.cell (p := ⟨b, o + k * 2 + 1, none⟩) (Nat.lt_of_lt_of_le hb hBw)).trans c2
      have hkx := HK.out x (List.mem_of_getElem? hx)
      have HVa := Lib.hid hva
      have HX := Lib.hid (take_at hx)
      have hal := (Below.refl wr.heap.size wr).alloc (Nat.le_refl _) (.cells #[.string x.1, .slice Av nv cv] 81)
      have g1 : (wr.alloc (.cells #[.string x.1, .slice Av nv cv] 81)).heap[wr.heap.size]? = some (.cells #[.string x.1, .slice Av nv cv] 81 (0, 0)) := heap_alloc_new wr _
      obtain ⟨wa, hwa⟩ : ∃ y, y = wr.alloc (.cells #[.string x.1, .slice Av nv cv] 81) := ⟨_, rfl⟩
      have HOa := Lib.hid (show OutH B w wa _ (canonH (hs.take k)) by rw [hwa]; exact HO.out.later (Nat.le_trans hBw hB.size) hal)
      have HBa := Lib.hid (show Below w.heap.size w wa by rw [hwa]; exact hB.trans (hal.mono hB.size))
      have hsa : wr.heap.size < wa.heap.size := by rw [hwa]; simp
      rw [← hwa] at g1
      have k1 : wa.cell? ⟨wr.heap.size, 0, none⟩ = some (.string x.1) := by rw [Lib.cell_of_heap g1]; rfl
      have k2 : wa.cell? ⟨wr.heap.size, 1, none⟩ = some (.slice Av nv cv) := by rw [Lib.cell_of_heap g1]; rfl
      have HLn : Hid ((canonH (hs.take k)).length = k) := by show _ = _; rw [canonH_len, List.length_take, HR.out.1]; omega
      clear hcl c1 c2 hva hx hal g1 hB HO
      go_wp2_with fail
      rw [← hwa]
      clear hwa d1 d2
      go_wp2_with fail
      refine (canon_any x.1 _ hkx).mono ?_
      rintro e w2 ⟨rfl, hb2⟩
      have HO2 := Lib.hid (HOa.out.later (Nat.le_trans hBw HBa.out.size) hb2)
      have HB2 := Lib.hid (HBa.out.trans (hb2.mono HBa.out.size))
      have k2' := (hb2.cell (p := ⟨wr.heap.size, 1, none⟩) hsa).trans k2
      have hs2 : wr.heap.size < w2.heap.size := Nat.lt_of_lt_of_le hsa hb2.size
      obtain ⟨Ao, co, hv⟩ := HO2.out.slice
      rw [HLn.out] at hv
      obtain ⟨q, hq⟩ : ∃ q, posH (canonH (hs.take k)) (cKey x.1) = q := ⟨_, rfl⟩
      have hqk : q ≤ k := by have h := posH_le (canonH (hs.take k)) (cKey x.1); rw [hq, HLn.out] at h; exact h
      have hck : (⟨(canonL x.1.data.toList).toArray⟩ : ByteArray) = cKey x.1 := rfl
      rw [hck]
      obtain ⟨kk, hkk⟩ : ∃ kk, cKey x.1 = kk := ⟨_, rfl⟩
      rw [hkk] at hq ⊢
      have HKK := Lib.hid hkk
      have HQ := Lib.hid hq
      clear hq hkk hck hb2 k1 k2 HOa hsa
      subst hv
      go_wp2_with fail
      go_loop [7] (fun i => ∃ j : Nat, j ≤ q ∧ i = .int .i64 j) (fun i => q - (intOf i).toNat)
      case atStart => exact ⟨0, Nat.zero_le _, rfl⟩
      case round =>
        obtain ⟨j, hj, rfl⟩ := hrel
        by_cases hjq : j < q
        · obtain ⟨y, hy⟩ : ∃ y, (canonH (hs.take k))[j]? = some y := ⟨_, List.getElem?_eq_getElem (by rw [HLn.out]; omega)⟩
          obtain ⟨g, rfl, hc⟩ := HO2.out.key HLn.out hy
          have hls : Op.bytesLess y.1.toList kk.toList = true := by
            have h := posH_lt _ kk j y (by rw [HQ.out]; exact hjq) hy
            exact h
          clear hy
          go_wp2_with fail
          go_round
          case rel => exact ⟨j + 1, by omega, by go_num⟩
          case measure => simp [intOf]; omega
        · obtain rfl : j = q := by omega
          have hal := (Below.refl w2.heap.size w2).alloc (Nat.le_refl _) (.cells #[.string kk, .slice Av nv cv] 81)
          have HI := Lib.hid (insert_out (HO2.out.later (Nat.le_trans hBw HB2.out.size) hal) hBw (i := j) (vb := w2.heap.size) (kk := kk) (vals := x.2) (Av := Av) (nv := nv) (cv := cv) (by rw [HLn.out]; exact hqk) (by rw [HLn.out]; omega) (heap_alloc_new w2 _) HO2.out.ne (HVa.out.below ((HB2.out.trans (hal.mono HB2.out.size)).mono hBw)))
          have HN : Hid (insAt (canonH (hs.take k)) j (kk, x.2) = canonH (hs.take (k + 1))) := by
            show _ = _
            rw [HX.out, canonH_snoc]
            show _ = insAt _ (posH _ (cKey x.1)) (cKey x.1, x.2)
            rw [HKK.out, HQ.out]
          by_cases hjk : j < k
          · obtain ⟨y, hy⟩ : ∃ y, (canonH (hs.take k))[j]? = some y := ⟨_, List.getElem?_eq_getElem (by rw [HLn.out]; omega)⟩
            obtain ⟨g, rfl, hc⟩ := HO2.out.key HLn.out hy
            have hls : Op.bytesLess y.1.toList kk.toList = false := by
              have h := posH_at _ kk y (by rw [HQ.out]; exact hy)
              exact h
            clear hy hal
            go_wp2_with fail
            refine HI.out.mono ?_
            rintro e w3 ⟨v3, rfl, hO3⟩
            rw [HN.out] at hO3
            have HO3 := Lib.hid hO3
            clear hO3
            go_wp2_with fail
            go_roundw
            case rel => exact ⟨k + 1, by omega, by go_num, HO3⟩
            case measure => simp [intOf]; omega
          · obtain rfl : j = k := by omega
            clear hal
            go_wp2_with fail
            refine HI.out.mono ?_
            rintro e w3 ⟨v3, rfl, hO3⟩
            rw [HN.out] at hO3
            have HO3 := Lib.hid hO3
            clear hO3
            go_wp2_with fail
            go_roundw
            case rel => exact ⟨j + 1, by omega, by go_num, HO3⟩
            case measure => simp [intOf]; omega
    · have hke : k = n := by omega
      have hO := HO.out
      have ht : hs.take k = hs := List.take_of_length_le (by rw [HR.out.1]; omega)
      rw [ht] at hO
      have HO2 := Lib.hid hO
      clear hO ht hke
      go_wp2
      go_ret
      exact ⟨_, rfl, HO2.out⟩

end Go.Proofs.YtklkgddldndmmaaDoor
