/- A row of bytes of the call's own that is appended to; the walks of HeadText, PartText and pad. -/
import Derived.Test.YtklkgddldndmmaaDoorGood
import Derived.Lib.AppendStr
import Derived.Deep.RegionLaw
namespace Go.Proofs.YtklkgddldndmmaaDoor
open Go.RowKit
set_option linter.unusedVariables false
set_option linter.unusedSimpArgs false

/-- The slice v, made since w0, reads as l; nothing that was there in w0 has turned. -/
structure OutRow (w0 w : World) (v : Value) (l : List UInt8) : Prop where
  own : w.ownsRow w0.heap.size 5 1 v l.length (Lib.byteCells l)
  below : Below w0.heap.size w0 w
theorem OutRow.nil (w : World) : OutRow w w (.slice none 0 0) [] := ⟨World.ownsRow_nil _ _ _ _, Below.refl _ _⟩
theorem OutRow.later {w0 w w' : World} {v : Value} {l : List UInt8} (h : OutRow w0 w v l) (hb : Below w.heap.size w w') : OutRow w0 w' v l :=
  ⟨own_carry h.own fun g hg => hb.block g (h.own.lt g hg).2, h.below.trans (hb.mono h.below.size)⟩
theorem OutRow.slice {w0 w : World} {v : Value} {l : List UInt8} (h : OutRow w0 w v l) : ∃ A c, v = .slice A l.length c := own_slice h.own
theorem OutRow.rd {w0 w : World} {A : Option Addr} {n c : Nat} {l : List UInt8} (h : OutRow w0 w (.slice A n c) l) : RdB w w.heap.size A n l ∧ l.length = n := by
  have hn : l.length = n := by
    obtain ⟨A', c', e⟩ := h.slice
    injection e with _ e _
    exact e.symm
  subst hn
  exact ⟨Rd.of_own h.own, rfl⟩
/-- Blocks that are no rows of bytes are as they were. -/
abbrev Still (w w' : World) : Prop := Kept (fun _ => False) w w'
theorem still_grown {w w' : World} {base n : Nat} {v : Value} {xs : List Value} (h : w.ownsRow base 5 1 v n xs) (hg : w.grownBy w' v.ownBlock) : Still w w' := fun k o hk _ h5 => by
  rw [hg.block k (Array.getElem?_eq_some_iff.1 hk).1, hk]
  intro e
  obtain ⟨cur, hc⟩ := own_block h e.symm
  rw [hk] at hc
  exact h5 _ _ (Option.some.inj hc)
theorem Still.cell {w w' : World} (h : Still w w') {g : Nat} {cs : Array Value} {t : TypeId} {fz : Nat × Nat} (hg : w.heap[g]? = some (.cells cs t fz)) (h5 : t ≠ 5) : w'.heap[g]? = some (.cells cs t fz) :=
  h g _ hg (fun x => x) (fun c f e => by injection e with _ e _; exact h5 e)

theorem wpList_out_string {w0 w : World} {ops : Array Oper} {rest : List Oper} {o : Oper} {a : Act} {Q : Exit → Act → World → Prop} (hgd : o.guard = none) (s x : Operand)
    (ho : o.op = .call { callee := .builtin .append, args := #[s, x], argTypes := #[31, 9] }) {v : Value} {l : List UInt8} (hs : a.eval s = v) (h : OutRow w0 w v l) (str : ByteArray) (hx : a.eval x = .string str)
    (hlen : l.length + str.size ≤ 140737488000000) (hK : ∀ v' w', OutRow w0 w' v' (l ++ str.data.toList) → Still w w' → wpList Tryd.prog ops Q rest (a.put o.dst v') w') : wpList Tryd.prog ops Q (o :: rest) a w := by
  obtain ⟨i0, hi, hz0, hz1, hz2⟩ := info5'
  refine Lib.wpList_append_own_string w hgd s x 31 9 ho w0.heap.size 5 i0 Tryd.underlying31 Tryd.underlying9 hi hz0 hz1 hz2 v l.length _ hs h.own str hx (by unfold maxLen; omega) (by omega) h.below.size ?_
  intro v' w' hown hgrow _
  refine hK v' w' ⟨?_, h.below.grown hgrow h.below.size (fun j hj => (h.own.lt j hj).1)⟩ (still_grown h.own hgrow)
  rw [Lib.strCells_eq, ← Lib.byteCells_append] at hown
  rw [List.length_append, len_data]
  exact hown

theorem wp_out_bytes {w0 w : World} {o : Oper} {a : Act} {K : Act → World → Prop} {Q : Exit → Act → World → Prop} (s x : Operand)
    (ho : o.op = .call { callee := .builtin .append, args := #[s, x], argTypes := #[31, 31] }) {v : Value} {l : List UInt8} (hs : a.eval s = v) (h : OutRow w0 w v l) (B : Nat) (A : Option Addr) (m c : Nat) (l2 : List UInt8) (hx : a.eval x = .slice A m c) (hr : RdB w B A m l2)
    (hlen : l.length + m ≤ 140737488000000) (hK : ∀ v' w', OutRow w0 w' v' (l ++ l2) → Still w w' → K (a.put o.dst v') w') : o.wp Tryd.prog a w K Q := by
  obtain ⟨i0, hi, hz0, hz1, hz2⟩ := info5'
  refine wp_append_any w s x 31 ho w0.heap.size 5 i0 (.int .u8 0) 1 1 Tryd.underlying31 hi hz0 hz1 hz2 rfl (by decide) v l.length _ hs h.own B A m c (Lib.byteCells l2) hx hr (bc_one l2) (by unfold maxLen; omega) (by omega) h.below.size ?_
  intro A' c' w' hown hgrow _
  refine hK _ w' ⟨?_, h.below.grown hgrow h.below.size (fun j hj => (h.own.lt j hj).1)⟩ (still_grown h.own hgrow)
  rw [← Lib.byteCells_append] at hown
  rw [List.length_append, hr.len]
  exact hown
theorem wpList_out_bytes {w0 w : World} {ops : Array Oper} {rest : List Oper} {o : Oper} {a : Act} {Q : Exit → Act → World → Prop} (hgd : o.guard = none) (s x : Operand)
    (ho : o.op = .call { callee := .builtin .append, args := #[s, x], argTypes := #[31, 31] }) {v : Value} {l : List UInt8} (hs : a.eval s = v) (h : OutRow w0 w v l) (B : Nat) (A : Option Addr) (m c : Nat) (l2 : List UInt8) (hx : a.eval x = .slice A m c) (hr : RdB w B A m l2)
    (hlen : l.length + m ≤ 140737488000000) (hK : ∀ v' w', OutRow w0 w' v' (l ++ l2) → Still w w' → wpList Tryd.prog ops Q rest (a.put o.dst v') w') : wpList Tryd.prog ops Q (o :: rest) a w :=
  wpList_plain hgd fun K hK' => wp_out_bytes s x ho hs h B A m c l2 hx hr hlen fun v' w' h1 h2 => hK' _ _ (hK v' w' h1 h2)
theorem step_out_bytes {w0 w : World} {ops : Array Oper} {o : Oper} {a : Act} {K : Act → World → Prop} {Q : Exit → Act → World → Prop} {E : Prop} (hgd : o.guard = none) (s x : Operand)
    (ho : o.op = .call { callee := .builtin .append, args := #[s, x], argTypes := #[31, 31] }) {v : Value} {l : List UInt8} (hs : a.eval s = v) (h : OutRow w0 w v l) (B : Nat) (A : Option Addr) (m c : Nat) (l2 : List UInt8) (hx : a.eval x = .slice A m c) (hr : RdB w B A m l2)
    (hlen : l.length + m ≤ 140737488000000) (hK : ∀ v' w', OutRow w0 w' v' (l ++ l2) → Still w w' → K (a.put o.dst v') w') : if Region.wanted o (yielded ops a.tmps) = true then Oper.wp Tryd.prog o a w K Q else E := by
  rw [if_pos (by simp [Region.wanted, hgd])]
  exact wp_out_bytes s x ho hs h B A m c l2 hx hr hlen hK

set_option maxRecDepth 100000 in
set_option maxHeartbeats 4000000 in
theorem headText_any (A : Option Addr) (n c : Nat) (hs : HdrL) (w : World) (hn : n ≤ 1000) (hr : RdH w w.heap.size A n hs) (hv : ∀ h ∈ hs, h.2.length ≤ 1000) (hl : (headT hs).length ≤ 200000) :
    Calls Tryd.prog 63 #[.slice A n c] w fun e w' => ∃ v, e = .returned v ∧ OutRow w w' v (headT hs ++ crlf) := by
  have HR := Lib.hid hr
  have HV := Lib.hid hv
  have HL := Lib.hid hl
  clear hr hv hl
  go_enter Tryd.func63, Tryd.ntmps63
  go_wp2_with fail
  go_loopw [3, 10] (fun v i wr => ∃ k : Nat, k ≤ n ∧ i = .int .i64 k ∧ Hid (OutRow w wr v (headT (hs.take k)))) (fun _ i _ => n - (intOf i).toNat)
  case atStart => exact ⟨0, Nat.zero_le _, rfl, OutRow.nil w⟩
  case round =>
    obtain ⟨k, hk, rfl, HO⟩ := hrel
    by_cases hlt : k < n
    · obtain ⟨b, o, rfl, hb, hcl⟩ := HR.out.2 (by omega)
      obtain ⟨x, hx⟩ : ∃ x, hs[k]? = some x := ⟨_, List.getElem?_eq_getElem (by rw [HR.out.1]; exact hlt)⟩
      obtain ⟨c1, Av, nv, cv, c2, hva⟩ := hcl k x hx
      have hB := HO.out.below
      have d1 := (hB.cell (p := ⟨b, o + k * 2, none⟩) hb).trans c1
      have d2 := (hB.cell (p := ⟨b, o + k * 2 + 1, none⟩) hb).trans c2
      have hnv : nv = x.2.length := by have h1 := hva.1; simpa using h1.symm
      have hnv2 : nv ≤ 1000 := by rw [hnv]; exact HV.out x (List.mem_of_getElem? hx)
      have HVa := Lib.hid hva
      have HNV := Lib.hid hnv
      have HX := Lib.hid hx
      have hal := (Below.refl wr.heap.size wr).alloc (Nat.le_refl _) (.cells #[.string x.1, .slice Av nv cv] 81)
      have g1 : (wr.alloc (.cells #[.string x.1, .slice Av nv cv] 81)).heap[wr.heap.size]? = some (.cells #[.string x.1, .slice Av nv cv] 81 (0, 0)) := heap_alloc_new wr _
      obtain ⟨wa, hwa⟩ : ∃ y, y = wr.alloc (.cells #[.string x.1, .slice Av nv cv] 81) := ⟨_, rfl⟩
      have HOa := Lib.hid (show OutRow w wa _ (headT (hs.take k)) by rw [hwa]; exact HO.out.later hal)
      rw [← hwa] at g1
      have k2 : wa.cell? ⟨wr.heap.size, 1, none⟩ = some (.slice Av nv cv) := by rw [Lib.cell_of_heap g1]; rfl
      have HG := Lib.hid g1
      clear hcl c1 c2 hva hnv hx hal g1 hB
      go_wp2_with fail
      rw [← hwa]
      clear hwa d1 d2 HO
      go_wp2_with fail
      obtain ⟨wo, rfl⟩ : ∃ wo : World, wo = wr := ⟨_, rfl⟩
      clear k2
      go_loopw [3, 17] (fun v i w2 => ∃ j : Nat, j ≤ nv ∧ i = .int .i64 j ∧ Hid (OutRow w w2 v (headT (hs.take k) ++ linesT x.1.data.toList (x.2.take j))) ∧ Hid (w2.heap[wo.heap.size]? = some (.cells #[.string x.1, .slice Av nv cv] 81 (0, 0)))) (fun _ i _ => nv - (intOf i).toNat)
      case atStart => exact ⟨0, Nat.zero_le _, rfl, Lib.hid (by simpa [linesT] using HOa.out), HG⟩
      case round =>
        obtain ⟨j, hj, rfl, HO2, HG2⟩ := hrel
        by_cases hlj : j < nv
        · obtain ⟨bv, ov, rfl, hbv, hcv⟩ := HVa.out.2 (by omega)
          obtain ⟨y, hy⟩ : ∃ y, x.2[j]? = some y := ⟨_, List.getElem?_eq_getElem (by rw [← HNV.out]; exact hlj)⟩
          have e1 := (HO2.out.below.cell (p := ⟨bv, ov + j, none⟩) hbv).trans (hcv j (.string y) (by rw [List.getElem?_map, hy]; rfl))
          have k1 : wr.cell? ⟨wo.heap.size, 0, none⟩ = some (.string x.1) := by rw [Lib.cell_of_heap HG2.out]; rfl
          have HPL1 := part_len HX.out j
          have HPL2 := part_len HX.out (j + 1)
          rw [take_at hy, linesT_snoc, List.length_append] at HPL2
          have hT2 : (x.1 ++ ⟨#[58, 32]⟩ ++ y ++ ⟨#[13, 10]⟩ : ByteArray).data.toList = lineT x.1.data.toList y.data.toList := by rw [app_data, app_data, app_data]; rfl
          have hz2 : (x.1 ++ ⟨#[58, 32]⟩ ++ y ++ ⟨#[13, 10]⟩ : ByteArray).size = (lineT x.1.data.toList y.data.toList).length := by rw [← hT2, len_data]
          have hlen : (lineT x.1.data.toList y.data.toList).length = x.1.size + y.size + 4 := by
            simp only [lineT, colon, crlf, List.length_append, len_data, List.length_cons, List.length_nil]; omega
          have hxs : x.1.size ≤ 200000 := by have h2 := HL.out; omega
          have hvs : y.size ≤ 200000 := by have h2 := HL.out; omega
          have HZ2 : Hid ((headT (hs.take k) ++ linesT x.1.data.toList (x.2.take j)).length + (x.1 ++ ⟨#[58, 32]⟩ ++ y ++ ⟨#[13, 10]⟩ : ByteArray).size ≤ 140737488000000) := by
            have h2 := HL.out
            show _ ≤ _
            rw [hz2, List.length_append]
            omega
          have HN : Hid (headT (hs.take k) ++ linesT x.1.data.toList (x.2.take j) ++ (x.1 ++ ⟨#[58, 32]⟩ ++ y ++ ⟨#[13, 10]⟩ : ByteArray).data.toList = headT (hs.take k) ++ linesT x.1.data.toList (x.2.take (j + 1))) := by
            show _ = _
            rw [hT2, take_at hy, linesT_snoc, List.append_assoc]
          clear HPL1 HPL2 hz2 hy hlen hT2 hcv
          go_wp2_with (at_builtin; refine wpList_out_string rfl (.tmp 21) (.tmp 27) rfl rfl HO2.out _ rfl HZ2.out ?_; intro v3 w3 hO3 hK3)
          rw [HN.out] at hO3
          have HO3 := Lib.hid hO3
          have HG3 := Lib.hid (hK3.cell HG2.out (by decide))
          clear hO3 hK3 k1
          go_wp2_with fail
          go_roundw
          case rel => exact ⟨j + 1, by omega, by go_num, HO3, HG3⟩
          case measure => simp [intOf]; omega
        · have hO3 := HO2.out
          have ht : x.2.take j = x.2 := List.take_of_length_le (by rw [← HNV.out]; omega)
          rw [ht, ← headT_snoc, ← take_at HX.out] at hO3
          clear ht
          have HO3 := Lib.hid hO3
          clear hO3
          go_wp2_with fail
          go_roundw
          case rel => exact ⟨k + 1, by omega, by go_num, HO3⟩
          case measure => simp [intOf]; omega
    · have hke : k = n := by omega
      have hO := HO.out
      rw [List.take_of_length_le (by rw [HR.out.1]; omega)] at hO
      have HO2 := Lib.hid hO
      clear hO
      have HZ : Hid ((headT hs).length + (⟨#[13, 10]⟩ : ByteArray).size ≤ 140737488000000) := by have h := HL.out; show _ + 2 ≤ _; omega
      go_wp2_with (at_builtin; refine wpList_out_string rfl (.tmp 31) (.const (.string ⟨#[13, 10]⟩)) rfl rfl HO2.out _ rfl HZ.out ?_; intro v3 w3 hO3 hK3)
      go_wp2
      go_ret
      exact ⟨_, rfl, hO3⟩

end Go.Proofs.YtklkgddldndmmaaDoor
