/- Texts of the proof, joined: ParseW, WrittenLaw, Laid. -/
import Derived.Test.YtklkgddldndmmaaDoorM13
import Derived.Test.YtklkgddldndmmaaDoorM15
import Derived.Test.YtklkgddldndmmaaDoorM11
import Derived.Test.YtklkgddldndmmaaDoorM01
import Derived.Test.YtklkgddldndmmaaDoorRows
import Derived.ProofKit
import Derived.Deep.DeepHandedRow
import Derived.Deep.DeepWitnessRowRef
import Derived.LaidLaws
import Derived.Stop.LaidErr
import Derived.OpenShut
/- The walk of spec.Parse over a text that was written. -/
namespace Go.Proofs.YtklkgddldndmmaaDoor
open Go.RowKit
set_option linter.unusedVariables false
set_option linter.unusedSimpArgs false

theorem wpList_out_part {w0 w : World} {ops : Array Oper} {rest : List Oper} {o : Oper} {a : Act} {Q : Exit → Act → World → Prop} (hgd : o.guard = none) (s x : Operand)
    (ho : o.op = .call { callee := .builtin .append, args := #[s, x], argTypes := #[28, 28] }) {v : Value} {ps : List PartL} (hs : a.eval s = v) (h : OutP w0 w v ps) (vb : Nat) (hx : a.eval x = .slice (some ⟨vb, 0, none⟩) 1 1)
    {Ah Ab : Option Addr} {nh ch nb cb : Nat} (hvb : w.heap[vb]? = some (.cells #[.slice Ah nh ch, .slice Ab nb cb] 41 (0, 0))) (p : PartL)
    (rh : RdHK w (fun k => k < w.heap.size ∧ some k ≠ v.ownBlock) Ah nh p.1) (rb : RdK w (fun k => k < w.heap.size ∧ some k ≠ v.ownBlock) 1 Ab nb (Lib.byteCells p.2)) (hlen : ps.length ≤ 2097152)
    (hK : ∀ v' w', OutP w0 w' v' (ps ++ [p]) → w.grownBy w' v.ownBlock → wpList Tryd.prog ops Q rest (a.put o.dst v') w') : wpList Tryd.prog ops Q (o :: rest) a w :=
  wpList_plain hgd fun K hK' => wp_out_part s x ho hs h vb hx hvb p rh rb hlen fun v' w' h1 h2 => hK' _ _ (hK v' w' h1 h2)

/-- The length of a slice. -/
def lenOf : Value → Nat
  | .slice _ n _ => n
  | _ => 0
/-- What holds at the head of Parse's second loop. -/
structure ParI (w wr : World) (A : Option Addr) (m c : Nat) (v : Value) (bd : List UInt8) (ps dn : List PartL) (q : PartL) (rest : List PartL) : Prop where
  cap : m ≤ c ∧ m ≤ 140737488000000
  src : RdB w w.heap.size A m (tailT bd q rest)
  out : OutP w wr v (dn.map canonP)
  all : ps = dn ++ q :: rest
/-- What stands behind the body and the delimiter's own bytes. -/
def nextT (bd : List UInt8) : List PartL → List UInt8
  | [] => [45, 45, 13, 10]
  | q :: r => [13, 10] ++ tailT bd q r
theorem tail_eq (bd : List UInt8) (q : PartL) (rest : List PartL) : tailT bd q rest = headTo (q.1, []) (bodyTo bd q (nextT bd rest)) := by cases rest <;> rfl
theorem bodyTo_len (bd : List UInt8) (q : PartL) (t : List UInt8) : (bodyTo bd q t).length = q.2.length + 4 + bd.length + t.length := by
  unfold bodyTo
  simp only [List.length_append, List.length_cons]
  omega
theorem first_end {a : List UInt8} (h : (13 : UInt8) ∉ a) (t : List UInt8) : Lib.index (a ++ [13, 10] ++ t) [13, 10] = (a.length : Int) := idx_first h
theorem delim_no {bd : List UInt8} (hb : boundB bd = true) : (13 : UInt8) ∉ [45, 45] ++ bd := fun h => by
  rcases List.mem_append.1 h with h | h
  · simp at h
  · exact bound_no hb (by decide) h
theorem close_no {bd : List UInt8} (hb : boundB bd = true) : (13 : UInt8) ∉ [45, 45] ++ bd ++ [45, 45] := fun h => by
  rcases List.mem_append.1 h with h | h
  · exact delim_no hb h
  · simp at h
/-- What the append of a part that was read finds. -/
theorem parse_ready {w wr w1 w3 : World} {vo : Value} {done : List PartL} {hs : HdrL} {l : List UInt8} {A Ab : Option Addr} {n c nb : Nat} {act ab : Option Nat} (hO : OutP w wr vo done) (hH : AddS wr w1 (.slice A n c) hs act ab) (hb : RdB w w.heap.size Ab nb l) (h3 : Below w1.heap.size w1 w3) :
    OutP w w3 vo done ∧ RdHK w3 (fun k => k < w3.heap.size ∧ some k ≠ vo.ownBlock) A n hs ∧ RdK w3 (fun k => k < w3.heap.size ∧ some k ≠ vo.ownBlock) 1 Ab nb (Lib.byteCells l) := by
  have hwr := hO.1
  have b1 := hH.below
  have b2 : Below wr.heap.size wr w3 := b1.trans (h3.mono b1.size)
  have b3 : Below w.heap.size w w3 := hwr.trans (b2.mono hwr.size)
  refine ⟨hO.later b2, ?_, ?_⟩
  · refine ((hH.rdhk (S := fun k => k < w1.heap.size ∧ some k ≠ vo.ownBlock) (fun k hk1 hk2 => ⟨hk2, fun e => ?_⟩)).2).keep (fun k hk => h3.block k hk.1) (fun k hk => ⟨Nat.lt_of_lt_of_le hk.1 h3.size, hk.2⟩)
    have := (hO.own e.symm).2
    omega
  · refine ⟨hb.1, fun h0 => ?_⟩
    obtain ⟨b, o, e, hlt, hc⟩ := hb.2 h0
    refine ⟨b, o, e, ⟨Nat.lt_of_lt_of_le hlt b3.size, fun e => ?_⟩, fun j u hu => (b3.cell (p := ⟨b, o + j, none⟩) hlt).trans (hc j u hu)⟩
    have := (hO.own e.symm).1
    omega

set_option maxRecDepth 100000 in
set_option maxHeartbeats 2000000 in
theorem parse_any (A : Option Addr) (n c : Nat) (p : PartL) (r : List PartL) (bd : ByteArray) (w : World) (hnc : n ≤ c) (hn : n ≤ 140737488000000) (hg : GoodP (p :: r) bd) (hfew : (p :: r).length ≤ 2097152) (hr : RdB w w.heap.size A n (writeT bd.data.toList (p :: r))) :
    Calls Tryd.prog 25 #[.slice A n c, .string bd] w fun e w' => ∃ v, e = .returned (.tuple #[v, .bool true]) ∧ OutP w w' v ((p :: r).map canonP) := by
  have hbs : bd.size ≤ 70 := by
    have h := hg.2
    unfold boundB at h
    rw [len_data] at h
    simp at h
    omega
  have HBq := Lib.hid (bound_q bd (by omega) true hg.2 w)
  rw [write_tail] at hr
  obtain ⟨d, hd⟩ : ∃ d : ByteArray, ⟨#[45, 45]⟩ ++ bd = d := ⟨_, rfl⟩
  have hdz : d.size = bd.size + 2 := by rw [← hd, app_size]; show 2 + bd.size = _; omega
  have hlen := hr.len
  have hl1 := line_any A n c w.heap.size ([45, 45] ++ bd.data.toList).length _ w hnc (by omega) (Nat.le_refl _) hr (first_end (delim_no hg.2) _) (by rw [List.length_append, List.length_append] at hlen; simp only [List.length_cons, List.length_nil] at hlen; omega)
  rw [(row_take _ _).1, (row_take _ _).2, delim_str, hd] at hl1
  have HL1 := Lib.hid hl1
  have HG := Lib.hid hg
  have HFw := Lib.hid hfew
  have HDs := Lib.hid (fun w : World => delim_same d w (by omega))
  have HPs := Lib.hid (fun w : World => hp44_same d w (by omega))
  have HN : Hid (n ≤ 140737488000000) := hn
  have hcc : ¬ 9223372036854775807 < 2 + bd.size := by omega
  have h998 : ¬ (998 : Int) < (d.size : Int) := by omega
  have HDz := Lib.hid hdz
  have HBs := Lib.hid hbs
  have HDd := Lib.hid hd
  clear hr hl1 hlen hg hfew hdz hn hnc hbs
  go_enter Tryd.func25, Tryd.ntmps25
  go_wp2_with fail
  refine HBq.out.mono ?_
  rintro e w0 ⟨rfl, hw0⟩
  subst hw0
  go_wp2_with fail
  go_loop [0] (fun s => s = .slice A n c) (fun _ => 0)
  case atStart => rfl
  case round =>
  obtain rfl := hrel
  go_wp2_with fail
  refine HL1.out.mono ?_
  rintro e w1 ⟨A1, c1, rfl, hr1, hd1, hb1⟩
  obtain ⟨m1, hm1⟩ : ∃ m, n - (([45, 45] ++ bd.data.toList).length + 2) = m := ⟨_, rfl⟩
  rw [hm1] at hr1 hd1 ⊢
  have HP0 := Lib.hid (show ParI w0 w1 A1 m1 c1 (.slice none 0 0) bd.data.toList (p :: r) [] p r from ⟨⟨hd1, by have h := HN.out; omega⟩, Rd.back hr1 hb1, (OutP.nil w0).later hb1, rfl⟩)
  clear hr1 hd1 hb1 hm1 HL1 HBq
  go_wp2_with fail
  refine (HPs.out _).mono ?_
  rintro e w2 ⟨rfl, rfl⟩
  go_wp2_with fail
  refine (HDs.out _).mono ?_
  rintro e w2 ⟨rfl, rfl⟩
  go_wp2_with fail
  go_loopw [0, 6] (fun src v wr => ∃ A m c dn q rest, src = .slice A m c ∧ Hid (ParI w0 wr A m c v bd.data.toList (p :: r) dn q rest)) (fun src _ _ => lenOf src)
  case atStart => exact ⟨_, _, _, _, _, _, rfl, HP0⟩
  case round =>
    obtain ⟨A, m, c, dn, q, rest, rfl, HI⟩ := hrel
    obtain ⟨hmc, hm⟩ := HI.out.cap
    have hgq := HG.out.1 q (by rw [HI.out.all]; simp)
    have hsrc := HI.out.src
    rw [tail_eq] at hsrc
    have hbw := HI.out.out.1
    have HH := Lib.hid (headR_any A m c w0.heap.size q.1 (bodyTo bd.data.toList q (nextT bd.data.toList rest)) wr hmc hm hbw.size hgq.1 (hsrc.below hbw))
    have HGq := Lib.hid hgq
    have HBw := Lib.hid hbw
    clear hsrc hgq hbw hmc hm
    go_wp2_with fail
    refine HH.out.mono ?_
    rintro e w3 ⟨vh, A2, m2, c2, rfl, hr2, hm2, hm3, act, ab, hA⟩
    obtain ⟨Ah, ch, hv⟩ := hA.slice
    rw [canonH_len] at hv
    subst hv
    have hlen := hr2.len
    rw [bodyTo_len, len_data] at hlen
    obtain ⟨z, hz⟩ : ∃ z, q.2.length = z := ⟨_, rfl⟩
    have hbt := body_take bd.data.toList q (nextT bd.data.toList rest)
    rw [hz] at hlen hbt
    obtain ⟨b2, o2, rfl, hlt2, _⟩ := hr2.2 (by omega)
    have hr0 := Rd.back hr2 HBw.out
    have HR2 := Lib.hid (fun (W : World) (hW : Below w0.heap.size w0 W) => Rd.below hr0 hW)
    have HB3 := Lib.hid (HBw.out.trans (hA.below.mono HBw.out.size))
    have HA := Lib.hid hA
    have hix : Lib.index (bodyTo bd.data.toList q (nextT bd.data.toList rest)) (13 :: 10 :: 45 :: 45 :: bd.data.toList) = ((z : Nat) : Int) := by
      rw [← hz]
      exact body_end HG.out.2 HGq.out.2 _
    have HIx := Lib.hid hix
    have HLn := Lib.hid hlen
    have HBt := Lib.hid hbt
    have HS2 : Hid ((⟨#[13, 10]⟩ ++ d : ByteArray).size = 2 + d.size) := by show _ = _; rw [app_size]; rfl
    have HD2 : Hid ((⟨#[13, 10]⟩ ++ d : ByteArray).data.toList = 13 :: 10 :: 45 :: 45 :: bd.data.toList) := by show _ = _; rw [← HDd.out, app_data, app_data]; rfl
    have hdz70 : d.size ≤ 72 := by have h1 := HDz.out; have h2 := HBs.out; omega
    have hc3 : ¬ 9223372036854775807 < 2 + d.size := by omega
    have hc4 : ¬ 9223372036854775807 < d.size + 2 := by omega
    have hzm : z + 4 ≤ m2 := by omega
    have hz0 : ¬ ((z : Nat) : Int) < 0 := by omega
    have hz1 : (0 : Int) ≤ ((z : Nat) : Int) := by omega
    have hz2 : ((z : Nat) : Int) ≤ (c2 : Int) := by omega
    have hz3 : ((z : Nat) : Int) ≤ (m2 : Int) := by omega
    have hz4 : (0 : Int) ≤ ((z : Nat) : Int) + 2 := by omega
    have hz5 : ((z : Nat) : Int) + 2 ≤ (m2 : Int) := by omega
    have hz6 : IntKind.i64.wrap (((z : Nat) : Int) + 2) = ((z : Nat) : Int) + 2 := by rw [IntKind.wrap_i64]; omega
    have hz7 : (((z : Nat) : Int) + 2).toNat = z + 2 := by omega
    have hz8 : ¬ c2 = z + 2 := by omega
    have hd2 : ¬ 9223372036854775807 < bd.size := by omega
    clear hr2 hr0 hA hix hlen hbt hz HH
    go_wp2_with (refine wpList_conv_any _ rfl (.tmp 56) 9 31 5 rfl Tryd.underlying9 Tryd.underlying31 Tryd.underlying5 _ rfl ?_; intro A4 c4 w4 hr4 hc4' hb4)
    rw [HS2.out] at hc4'
    rw [HS2.out, HD2.out] at hr4
    have HB4 := Lib.hid (HB3.out.trans (hb4.mono HB3.out.size))
    refine (fi_b (B := w4.heap.size) (d := c4) ((z : Nat) : Int) hm2 (by omega) (by omega) (by omega) ((HR2.out w4 HB4.out).more HB4.out.size) hr4 HIx.out).mono ?_
    rintro e w5 ⟨rfl, rfl⟩
    clear hr4
    go_wp2_with fail
    have htk := RdB.take (HR2.out w4 HB4.out) (k := z) (by omega)
    rw [HBt.out.1] at htk
    refine (free_q (B := w0.heap.size) true HGq.out.2 (by omega) (by omega) (by have h := HBs.out; omega) HB4.out.size htk).mono ?_
    rintro e w6 ⟨rfl, hb6⟩
    have HB6 := Lib.hid (hb4.trans (hb6.mono hb4.size))
    have htk0 := RdB.take (HR2.out w0 (Below.refl _ _)) (k := z) (by omega)
    rw [HBt.out.1] at htk0
    have HPR := Lib.hid (fun (w9 : World) (h9 : Below w3.heap.size w3 w9) => parse_ready HI.out.out HA.out htk0 h9)
    have HAl := Lib.hid (HB6.out.trans (((Below.refl w6.heap.size w6).alloc (Nat.le_refl _) (.cells #[.slice Ah q.1.length ch, .slice (some ⟨b2, o2, none⟩) z c2] 41)).mono HB6.out.size))
    have HFew : Hid ((dn.map canonP).length ≤ 2097152) := by
      show _ ≤ _
      have h := HFw.out
      rw [HI.out.all] at h
      simp at h
      rw [List.length_map]
      omega
    clear htk htk0 hb4 hb6
    go_wp2_with (first
      | (at_builtin; refine wpList_out_part (w0 := w0) rfl (.tmp 69) (.tmp 75) rfl rfl (HPR.out _ HAl.out).1 w6.heap.size rfl (heap_alloc_new _ _) (canonH q.1, q.2) (HPR.out _ HAl.out).2.1 (HPR.out _ HAl.out).2.2 HFew.out ?_; intro v7 w7 hO7 hK7; have HO7 := Lib.hid hO7; clear hO7 hK7))
    have HMm : Hid (m2 < m) := by
      show _ < _
      have h1 := HI.out.src.len
      have h2 := HLn.out
      rw [tail_eq] at h1
      unfold headTo at h1
      rw [List.length_append, List.length_append, bodyTo_len, len_data] at h1
      have h3 := RdB.len (HR2.out w0 (Below.refl _ _))
      rw [bodyTo_len, len_data] at h3
      simp only [List.length_cons, List.length_nil] at h1
      omega
    have hcut := RdB.cut (HR2.out w7 HO7.out.1) (k := z + 2) (cap := c2) (by omega) hm2
    rw [if_neg hz8, HBt.out.2] at hcut
    simp only [Option.map_some, Addr.add_lit] at hcut
    have HO8 := Lib.hid (fun (w8 : World) (h8 : Below w7.heap.size w7 w8) => HO7.out.later h8)
    cases rest with
    | nil =>
      have e : [45, 45] ++ bd.data.toList ++ nextT bd.data.toList [] = ([45, 45] ++ bd.data.toList ++ [45, 45]) ++ [13, 10] ++ [] := by simp [nextT]
      rw [e] at hcut
      have hl := line_any _ _ (c2 - (z + 2)) w0.heap.size ([45, 45] ++ bd.data.toList ++ [45, 45]).length _ w7 (by omega) (by omega) HO7.out.1.size hcut (first_end (close_no HG.out.2) _) (by have h := hcut.len; rw [List.length_append, List.length_append] at h; simp only [List.length_cons, List.length_nil] at h; omega)
      rw [(row_take _ _).1, close_str, HDd.out] at hl
      have HL := Lib.hid hl
      have HN2 : Hid (dn.map canonP ++ [(canonH q.1, q.2)] = (p :: r).map canonP) := by show _ = _; rw [HI.out.all, List.map_append]; rfl
      have HEs : Hid ((d ++ ⟨#[45, 45]⟩ : ByteArray).size ≤ 2147483647) := by show _ ≤ _; rw [app_size]; show _ + 2 ≤ _; omega
      clear hl hcut e
      refine HL.out.mono ?_
      rintro e w8 ⟨A8, c8, rfl, hr8, hc8, hb8⟩
      have HO9 := Lib.hid (HO8.out w8 hb8)
      clear hr8 hc8 hb8
      go_wp2_with fail
      refine (delim_same _ _ HEs.out).mono ?_
      rintro e w9 ⟨rfl, rfl⟩
      go_wp2
      go_ret2
      exact ⟨_, rfl, HN2.out ▸ HO9.out⟩
    | cons q2 r2 =>
      have e : [45, 45] ++ bd.data.toList ++ nextT bd.data.toList (q2 :: r2) = ([45, 45] ++ bd.data.toList) ++ [13, 10] ++ tailT bd.data.toList q2 r2 := by simp [nextT]
      rw [e] at hcut
      have hl := line_any _ _ (c2 - (z + 2)) w0.heap.size ([45, 45] ++ bd.data.toList).length _ w7 (by omega) (by omega) HO7.out.1.size hcut (first_end (delim_no HG.out.2) _) (by have h := hcut.len; rw [List.length_append, List.length_append] at h; simp only [List.length_cons, List.length_nil] at h; omega)
      rw [(row_take _ _).1, (row_take _ _).2, delim_str, HDd.out] at hl
      have HL := Lib.hid hl
      have HEs := Lib.hid (fun w : World => delim_short d (d ++ ⟨#[45, 45]⟩) w (by rw [app_size]; show _ < _ + 2; omega))
      clear hl hcut e
      refine HL.out.mono ?_
      rintro e w8 ⟨A8, c8, rfl, hr8, hc8, hb8⟩
      have HO9 := Lib.hid (HO8.out w8 hb8)
      obtain ⟨m8, hm8⟩ : ∃ x, m2 - (z + 2) - (([45, 45] ++ bd.data.toList).length + 2) = x := ⟨_, rfl⟩
      rw [hm8] at hr8 hc8 ⊢
      have hle8 : m8 ≤ m2 := by omega
      have HP8 := Lib.hid (show ParI w0 w8 A8 m8 c8 v7 bd.data.toList (p :: r) (dn ++ [q]) q2 r2 from ⟨⟨hc8, by omega⟩, Rd.back hr8 HO9.out.1, by rw [List.map_append]; exact HO9.out, by rw [HI.out.all]; simp⟩)
      clear hr8 hc8 hb8 hm8
      go_wp2_with fail
      refine (HEs.out _).mono ?_
      rintro e w9 ⟨rfl, rfl⟩
      go_wp2_with fail
      refine (HDs.out _).mono ?_
      rintro e w9 ⟨rfl, rfl⟩
      go_wp2_with fail
      go_roundw
      case rel => exact ⟨_, _, _, _, _, _, rfl, HP8⟩
      case measure => show m8 < m; have h := HMm.out; omega

end Go.Proofs.YtklkgddldndmmaaDoor

/- The walk of the law FnExactWritten. -/
namespace Go.Proofs.YtklkgddldndmmaaDoor
open Go.RowKit
set_option linter.unusedVariables false
set_option linter.unusedSimpArgs false

theorem OutP.slice {w0 w : World} {v : Value} {ps : List PartL} (h : OutP w0 w v ps) : ∃ A c, v = .slice A ps.length c := by
  obtain ⟨h0, xs, hown, hc⟩ := h
  exact own_slice hown
theorem canonH_vals : ∀ (n : Nat) (hs : HdrL), hs.length = n → ∀ x ∈ canonH hs, ∃ h ∈ hs, x.2 = h.2
  | 0, hs, hn, x, hx => by
    obtain rfl := List.eq_nil_of_length_eq_zero hn
    simp [canonH] at hx
  | n + 1, hs, hn, x, hx => by
    have hne : hs ≠ [] := by rintro rfl; simp at hn
    have e := (List.dropLast_concat_getLast hne).symm
    rw [e, canonH_snoc] at hx
    unfold insH insAt at hx
    have hin : x ∈ canonH hs.dropLast ∨ x.2 = (hs.getLast hne).2 := by
      rcases List.mem_append.1 hx with hx | hx
      · rcases List.mem_append.1 hx with hx | hx
        · exact .inl (List.mem_of_mem_take hx)
        · simp only [List.mem_singleton] at hx
          exact .inr (by rw [hx])
      · exact .inl (List.mem_of_mem_drop hx)
    rcases hin with hin | hin
    · obtain ⟨h, hm, he⟩ := canonH_vals n hs.dropLast (by rw [List.length_dropLast]; omega) x hin
      exact ⟨h, List.dropLast_subset _ hm, he⟩
    · exact ⟨_, List.getLast_mem hne, hin⟩
/-- Both sides are small enough to be compared. -/
theorem canon_small {ps : List PartL} {bd : ByteArray} (hg : GoodP ps bd) : ∀ p ∈ ps.map canonP, p.1.length ≤ 2147483647 ∧ ∀ h ∈ p.1, h.2.length ≤ 2147483647 := by
  intro p hp
  obtain ⟨q, hq, rfl⟩ := List.mem_map.1 hp
  have ho := (hg.1 q hq).1
  refine ⟨?_, fun h hh => ?_⟩
  · show (canonH q.1).length ≤ _
    rw [canonH_len]
    have := ho.len
    omega
  · obtain ⟨x, hx, he⟩ := canonH_vals _ q.1 rfl h hh
    rw [he]
    have h1 := ho.sum
    have h2 := sum_le (List.mem_map_of_mem (f := fun y : ByteArray × List ByteArray => y.2.length) hx)
    omega

set_option maxRecDepth 100000 in
set_option maxHeartbeats 2000000 in
theorem xwritten_main (A : Option Addr) (n c : Nat) (ps : List PartL) (bd : ByteArray) (w : World) (h1 : Args w A n c ps) (hbd : bd.size ≤ 16777216) (h10 : 0 < n) :
    Calls Tryd.prog 9 #[.slice A n c, .string bd] w fun e w' => e = .returned (.bool true) ∧ Below w.heap.size w w' := by
  have H1 := Lib.hid h1
  clear h1
  have q1 : ((n : Int) == 0) = false := beq_not (by omega)
  go_enter Tryd.func9, Tryd.ntmps9
  go_wp2_with fail
  refine H1.out.fits.mono ?_
  rintro e w1 ⟨⟨x, rfl, hx⟩, hb1⟩
  have HB1 := Lib.hid hb1
  cases x with
  | false =>
    clear hx hb1
    go_wp2
    go_ret
    exact ⟨rfl, HB1.out⟩
  | true =>
  have HF1 := Lib.hid (hx rfl)
  clear hx hb1
  go_wp2_with fail
  refine ((H1.out.below HB1.out).good HF1.out bd hbd).mono ?_
  rintro e w3 ⟨⟨x, rfl, hx⟩, hb3⟩
  have HB3 := Lib.hid (HB1.out.trans (hb3.mono HB1.out.size))
  cases x with
  | false =>
    clear hx hb3
    go_wp2
    go_ret
    exact ⟨rfl, HB3.out⟩
  | true =>
  have HG1 := Lib.hid (hx rfl)
  clear hx hb3
  obtain ⟨X, hX⟩ : ∃ x, writeT bd.data.toList ps = x := ⟨_, rfl⟩
  obtain ⟨nX, hnX⟩ : ∃ n, X.length = n := ⟨_, rfl⟩
  have HW1 := Lib.hid ((H1.out.below HB3.out).write HG1.out h10 (nB := 0) (nC := nX) hX (by omega))
  have HX := Lib.hid hX
  have HnX : Hid (nX ≤ 140737488000000) := by
    show _ ≤ _
    have h := bodyT_len HG1.out (m := 1048576) (n := 2097152) (fun p hp => (H1.out.all p hp).2.2) (by rw [H1.out.rd.1]; exact H1.out.few)
    have h2 := HG1.out.size
    rw [← hnX, ← hX]
    unfold writeT
    rw [List.length_append]
    have h3 : (closeT bd.data.toList).length = bd.size + 8 := by
      simp only [closeT, crlf, dashes, List.length_append, len_data, List.length_cons, List.length_nil]; omega
    omega
  clear hX hnX
  go_wp2_with fail
  refine HW1.out.mono ?_
  rintro e w5 ⟨gx, cx, rfl, hRx, hcx, hb5⟩
  rw [Nat.zero_add] at hRx hcx ⊢
  have HB5 := Lib.hid (HB3.out.trans (hb5.mono HB3.out.size))
  have hpa : Calls Tryd.prog 25 #[.slice (some ⟨gx, 0, none⟩) nX cx, .string bd] w5 fun e w' => ∃ v, e = .returned (.tuple #[v, .bool true]) ∧ OutP w5 w' v (ps.map canonP) := by
    have hlen := H1.out.rd.1
    cases ps with
    | nil => simp at hlen; omega
    | cons p r => exact parse_any _ nX cx p r bd w5 hcx HnX.out HG1.out (by have h := H1.out.few; omega) (by rw [HX.out]; exact hRx)
  have HPa := Lib.hid hpa
  clear hRx hb5 HW1 hcx hpa
  go_wp2_with fail
  refine HPa.out.mono ?_
  rintro e w6 ⟨v6, rfl, hO6⟩
  have hl : (ps.map canonP).length = n := by rw [List.length_map]; exact H1.out.rd.1
  have HLn := Lib.hid hl
  obtain ⟨A6, c6, h6⟩ := hO6.slice
  rw [hl] at h6
  subst h6
  clear hl
  have HO6 := Lib.hid hO6
  have HB6 := Lib.hid (HB5.out.trans (hO6.1.mono HB5.out.size))
  clear hO6 HPa
  have hO6' := HO6.out
  have HC := Lib.hid (canonParts_any A n c ps w6 H1.out.few (fun p hp => ⟨by have h := (HG1.out.1 p hp).1.len; omega, fun h hh => by have h2 := ((HG1.out.1 p hp).1.each h hh); have h3 := h2.more; obtain ⟨v, hv⟩ := List.exists_mem_of_length_pos h3; have h4 := (h2.vals v hv).2; omega⟩) (((H1.out.below HB6.out).rd).rdp))
  clear hO6'
  go_wp2_with fail
  refine HC.out.mono ?_
  rintro e w7 ⟨v7, rfl, hO7⟩
  obtain ⟨A7, c7, h7⟩ := hO7.slice
  rw [HLn.out] at h7
  subst h7
  have r6 := (HO6.out.later hO7.1).rdp HLn.out
  have r7 := hO7.rdp HLn.out
  have HS := Lib.hid (same26_any A6 A7 n c6 c7 (ps.map canonP) w7 (by have h := H1.out.few; omega) (canon_small HG1.out) r6 r7)
  have HB7 := Lib.hid (HB6.out.trans (hO7.1.mono HB6.out.size))
  clear hO7 r6 r7 HC
  go_wp2_with fail
  refine HS.out.mono ?_
  rintro e w8 ⟨rfl, hb8⟩
  go_wp2
  go_ret
  exact ⟨rfl, HB7.out.trans (hb8.mono HB7.out.size)⟩

set_option maxRecDepth 100000 in
set_option maxHeartbeats 4000000 in
theorem xwritten (A : Option Addr) (n c : Nat) (ps : List PartL) (bd : ByteArray) (w : World) (w0 : bd.size ≤ maxLen) (h1 : Args w A n c ps) :
    Calls Tryd.prog 9 #[.slice A n c, .string bd] w fun e w' => e = .returned (.bool true) ∧ Below w.heap.size w w' := by
  unfold maxLen at w0
  by_cases hm : bd.size ≤ 16777216 ∧ 0 < n
  · exact xwritten_main A n c ps bd w h1 hm.1 hm.2
  · have H1 := Lib.hid h1
    have h : 2147483647 < bd.size ∨ (bd.size ≤ 2147483647 ∧ 16777216 < bd.size) ∨ (bd.size ≤ 16777216 ∧ ((n : Int) == 0) = true) := by
      by_cases g1 : 2147483647 < bd.size
      · exact .inl g1
      by_cases g2 : 16777216 < bd.size
      · exact .inr (.inl ⟨by omega, g2⟩)
      exact .inr (.inr ⟨by omega, beq_of (by omega)⟩)
    clear h1 hm
    rcases h with h | ⟨h, h'⟩ | ⟨h, h'⟩
    all_goals
      go_enter Tryd.func9, Tryd.ntmps9
      go_wp2_with fail
      refine H1.out.fits.mono ?_
      rintro e w1 ⟨⟨x, rfl, hx⟩, hb1⟩
      have HB1 := Lib.hid hb1
      clear hx hb1
      cases x
      all_goals
        go_wp2
        go_ret
        exact ⟨rfl, HB1.out⟩

end Go.Proofs.YtklkgddldndmmaaDoor

/- What the listed package variables give a walk, and a start in which they lie as their initialisers lay them. -/
namespace Go.Proofs.YtklkgddldndmmaaDoor
open Go.RowKit
set_option maxRecDepth 100000

theorem own : ownKnob Tryd.prog.godebug = none := by kernel_rfl
theorem laidOut : laidOutB Tryd.prog = true := by kernel_rfl
theorem cells5 : Tryd.prog.cellsOf 5 = 1 := by kernel_rfl
theorem cells9 : Tryd.prog.cellsOf 9 = 1 := by kernel_rfl
theorem cells118 : Tryd.prog.cellsOf 118 = 1 := by kernel_rfl
theorem star : "*" ++ "errors.errorString" = "*errors.errorString" := by decide
theorem rowErr (u : TypeId) (hu : Tryd.prog.typeName? 3 u = some "*errors.errorString") : u = 116 :=
  typeName_ptr_named (nm := "errors.errorString") (by rw [star]; kernel_rfl) (by kernel_rfl) (by decide) u (by rw [star]; exact hu)
theorem g0 : Tryd.prog.globalNamed "bytes.ErrTooLarge" = some 0 := by kernel_rfl
theorem gt0 : (Tryd.prog.globals[0]?).map (·.type) = some 61 := by kernel_rfl
theorem g1 : Tryd.prog.globalNamed "io.errInvalidWrite" = some 1 := by kernel_rfl
theorem gt1 : (Tryd.prog.globals[1]?).map (·.type) = some 61 := by kernel_rfl
theorem g2 : Tryd.prog.globalNamed "io.ErrShortWrite" = some 2 := by kernel_rfl
theorem gt2 : (Tryd.prog.globals[2]?).map (·.type) = some 61 := by kernel_rfl
theorem g3 : Tryd.prog.globalNamed "io.EOF" = some 3 := by kernel_rfl
theorem gt3 : (Tryd.prog.globals[3]?).map (·.type) = some 61 := by kernel_rfl

/-- The package's variable (by its number) holds an error that lies at a. -/
def ErrIs (w : World) (g : Nat) (a : Addr) : Prop := w.cell? ⟨g, 0, none⟩ = some (.iface 116 (.pointer (some a))) ∧ ∃ c t, w.heap[a.block]? = some (.cells c t (0, 0))
def ErrAt (w : World) (g : Nat) : Prop := ∃ a, ErrIs w g a
theorem cell_lt {w : World} {a : Addr} {v : Value} (h : w.cell? a = some v) : a.block < w.heap.size := by
  rcases Nat.lt_or_ge a.block w.heap.size with h' | h'
  · exact h'
  · simp [World.cell?, Array.getElem?_eq_none h'] at h
theorem ErrIs.below {w w' : World} {g : Nat} {a : Addr} (h : ErrIs w g a) (hb : Below w.heap.size w w') : ErrIs w' g a := by
  obtain ⟨hc, c, t, ho⟩ := h
  refine ⟨(hb.cell (p := ⟨g, 0, none⟩) (cell_lt hc)).trans hc, c, t, ?_⟩
  rw [hb.block]
  · exact ho
  · rcases Nat.lt_or_ge a.block w.heap.size with h' | h'
    · exact h'
    · rw [Array.getElem?_eq_none h'] at ho; cases ho
theorem ErrAt.below {w w' : World} {g : Nat} (h : ErrAt w g) (hb : Below w.heap.size w w') : ErrAt w' g := by
  obtain ⟨a, h⟩ := h
  exact ⟨a, h.below hb⟩

/-- A list of sentinels, in the row's order, each with its text. -/
theorem head_err {n : String} {text : List UInt8} {r : List (String × DataW Unit)} {W : World} {g : Nat} (h : laidMet Tryd.prog ((n, .iface "*errors.errorString" (.ptr (.agg [.lit (.string text)]))) :: r) W)
    (hg : Tryd.prog.globalNamed n = some g) (ht : (Tryd.prog.globals[g]?).map (·.type) = some 61) : ∃ a s, ErrIs W g a ∧ W.cell? a = some (.string s) ∧ s.data.toList = text := by
  obtain ⟨ps, ⟨g0, t0, cs0, f0, p0, q0, hg0, ht0, hv0, hd0, _, e0⟩, _, hrows⟩ := h
  obtain rfl := Option.some.inj (hg.symm.trans hg0)
  obtain rfl := Option.some.inj (ht.symm.trans ht0)
  subst e0
  obtain ⟨l0⟩ := cs0
  have ok0 : ∀ u v, l0 = [.iface u v] → Value.okWide Tryd.prog W .any 0 u v := fun u v e => by
    subst e
    exact (hrows g 0 (by simp [MemPlace.row])).2 u v (by simpa using World.var?_cell hg0 hv0 0)
  obtain ⟨a, s, rfl, hc, hs, _, hp⟩ := errorString_of_trod Tryd.underlying61 rowErr Tryd.underlying116 Tryd.underlying118 rfl rfl Tryd.underlying9 cells118 cells9 hd0 ok0
  have hcell : W.cell? ⟨g, 0, none⟩ = some (.iface 116 (.pointer (some a))) := by simpa using World.var?_cell hg0 hv0 0
  refine ⟨a, s, ⟨hcell, ?_⟩, hc, hs⟩
  obtain ⟨b, o, sp⟩ := a
  obtain rfl : sp = none := World.cell?_spot hc
  exact (hrows b o (by rw [hp]; simp [MemPlace.row])).1

/-- A []byte that came in: the bytes that it reads as. -/
theorem open_bytes {H : Type} {enc : TypeId × Value → H} {P : Program} {W : World} {T E : TypeId} {a : Option Addr} {len cap : Nat} {d : DataW H} {p : List MemPlace} (ht : P.underlying T = some (.slice E)) (he : P.underlying E = some (.int .u8)) (hc : P.cellsOf E = 1)
    (h : DataW.Trod enc P W 0 (fun _ => true) true T (.slice a len cap) d p) : ∃ l, RdB W W.heap.size a len l ∧ len ≤ cap := by
  obtain ⟨fuel, hf⟩ := h
  rcases ChangeShapes.open_ints ht he hc hf with ⟨hcs, _⟩ | ⟨x, l, c, zs, hcs, _, hl, hm, hz, _, hcell, hwz⟩
  · simp [Value.cells] at hcs
    obtain ⟨rfl, rfl, rfl⟩ := hcs
    exact ⟨[], Rd.none_, Nat.le_refl _⟩
  · simp [Value.cells] at hcs
    obtain ⟨rfl, rfl, rfl⟩ := hcs
    refine ⟨Lib.bytesOf (zs.take len), ?_, hl⟩
    have hz' : zs.length = cap := by simpa using hz
    have hcl : ∀ j u, (Lib.byteCells (Lib.bytesOf (zs.take len)))[j]? = some u → W.cell? (x.add j) = some u := by
      intro j u hu
      have hj : j < len := by
        have := (List.getElem?_eq_some_iff.1 hu).1
        simp [Lib.byteCells, Lib.bytesOf] at this
        omega
      rw [hcell j (by omega)]
      have hw := hwz zs[j] (List.getElem_mem (by omega))
      have hb : 0 ≤ zs[j] ∧ zs[j] ≤ 255 := bounds_u8 hw
      simp [Lib.byteCells, Lib.bytesOf, hj, show j < zs.length by omega] at hu
      rw [← hu]
      simp [List.getD, show j < zs.length by omega]
      omega
    refine Rd.of_cells (by simp [Lib.byteCells, Lib.bytesOf]; omega) (by decide) (fun hn => ?_) hcl
    have h0 := hcell 0 (by omega)
    rw [add_zero] at h0
    exact cell_lt h0

/-- So many blocks has the settled world. -/
noncomputable def low : Nat := (World.holding Tryd.prog default ⟨#[], #[], []⟩).heap.size
/-- The settled world with a block more for each sentinel; the variables lead to them. -/
noncomputable def laidWorld (os : Os) : World :=
  let w0 := World.holding Tryd.prog os ⟨#[.cells #[.string ⟨#[98, 121, 116, 101, 115, 46, 66, 117, 102, 102, 101, 114, 58, 32, 116, 111, 111, 32, 108, 97, 114, 103, 101]⟩] 118, .cells #[.string ⟨#[105, 110, 118, 97, 108, 105, 100, 32, 119, 114, 105, 116, 101, 32, 114, 101, 115, 117, 108, 116]⟩] 118, .cells #[.string ⟨#[115, 104, 111, 114, 116, 32, 119, 114, 105, 116, 101]⟩] 118, .cells #[.string ⟨#[69, 79, 70]⟩] 118], #[], []⟩
  { w0 with heap := ((((w0.heap.modify 0 fun
      | .cells _ t frozen => .cells #[.iface 116 (.pointer (some ⟨low + 0, 0, none⟩))] t frozen
      | o => o).modify 1 fun
      | .cells _ t frozen => .cells #[.iface 116 (.pointer (some ⟨low + 1, 0, none⟩))] t frozen
      | o => o).modify 2 fun
      | .cells _ t frozen => .cells #[.iface 116 (.pointer (some ⟨low + 2, 0, none⟩))] t frozen
      | o => o).modify 3 fun
      | .cells _ t frozen => .cells #[.iface 116 (.pointer (some ⟨low + 3, 0, none⟩))] t frozen
      | o => o) }

end Go.Proofs.YtklkgddldndmmaaDoor
