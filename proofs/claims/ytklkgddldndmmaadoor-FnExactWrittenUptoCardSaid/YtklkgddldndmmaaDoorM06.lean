/- Texts of the proof, joined: CMapC, WriteA, Port. -/
import Derived.Test.YtklkgddldndmmaaDoorM05
import Derived.Test.YtklkgddldndmmaaDoorM04
import Derived.Test.YtklkgddldndmmaaDoorM03
import Derived.Lib.IndexLaws
import Derived.LoopTactic
/- The walk of CreatePart at a header's map, behind a part. -/
namespace Go.Proofs.YtklkgddldndmmaaDoor
open Go.RowKit
set_option linter.unusedVariables false
set_option linter.unusedSimpArgs false

set_option maxRecDepth 1000000 in
set_option maxHeartbeats 8000000 in
theorem create_map_next (B bb b p mb n : Nat) (cl : Bool) (bd : ByteArray) (o : List UInt8) (hs : List (ByteArray × List ByteArray)) (gs : List (Nat × Nat)) (w : World) (ho : Buf w B bb o) (hw : Wr w b (.iface 55 (.pointer (some ⟨bb, 0, none⟩))) bd (some ⟨p, 0, none⟩)) (hp : Pt w p b cl) (hh : HOk mb hs n gs w) (ha : Asc hs) (hn : n ≤ 1000) (hl : (headT hs).length ≤ 200000) (hBb : B ≤ b) (hBp : B ≤ p) (hBw : B ≤ w.heap.size) (hbd : bd.size ≤ 1000) (hlim : o.length ≤ 140737488000000) :
    Calls Tryd.prog 31 #[.pointer (some ⟨b, 0, none⟩), .map (some mb)] w fun e w' => ∃ p', e = .returned (.tuple #[.iface 93 (.pointer (some ⟨p', 0, none⟩)), .nilIface]) ∧ Made B bb b (.iface 55 (.pointer (some ⟨bb, 0, none⟩))) bd (o ++ (crlf ++ dashes ++ bd.data.toList ++ crlf ++ headT hs ++ crlf)) w p' w' ∧ Pt w' p b true ∧ Kept (fun k => k = bb ∨ k = b ∨ k = p) w w' := by
  have w2 := hw.c2
  have HCl := Lib.hid (close_any p b cl w hp)
  obtain ⟨w1, hw1⟩ : ∃ x, x = w.setCell ⟨p, 1, none⟩ (.bool true) := ⟨_, rfl⟩
  rw [← hw1] at HCl
  have ho1 : Buf w1 B bb o := by rw [hw1]; exact ho.ptSet hp 1 _
  have hwr1 : Wr w1 b (.iface 55 (.pointer (some ⟨bb, 0, none⟩))) bd (some ⟨p, 0, none⟩) := by rw [hw1]; exact hw.ptSet hp 1 _
  have hp1 : Pt w1 p b true := by rw [hw1]; exact hp.set true
  have hh1 : HOk mb hs n gs w1 := by rw [hw1]; exact hh.ptSet hp _
  have hsz1 : w1.heap.size = w.heap.size := by rw [hw1]; simp [World.setCell]
  have hb1 : Below B w w1 := by rw [hw1]; exact (Below.refl B w).setCell hBp _
  have hk1 : Kept (fun k => k = p) w w1 := by rw [hw1]; exact (Kept.refl (fun k => k = p) w).setCell (p := ⟨p, 1, none⟩) rfl _
  have hBw1 : B ≤ w1.heap.size := by omega
  have wa2 : ∀ x, (w1.alloc x).cell? ⟨b, 2, none⟩ = some (.pointer (some ⟨p, 0, none⟩)) := fun x => (World.cell?_alloc_lt w1 x _ hwr1.lt).trans hwr1.c2
  have wa1 : ∀ x, (w1.alloc x).cell? ⟨b, 1, none⟩ = some (.string bd) := fun x => (World.cell?_alloc_lt w1 x _ hwr1.lt).trans hwr1.c1
  have HW := Lib.hid hsz1
  have HT : Hid ((⟨#[13, 10, 45, 45]⟩ ++ bd ++ ⟨#[13, 10]⟩ : ByteArray).data.toList = crlf ++ dashes ++ bd.data.toList ++ crlf) := by show _ = _; rw [app_data, app_data]; rfl
  have HZ : Hid ((⟨#[13, 10, 45, 45]⟩ ++ bd ++ ⟨#[13, 10]⟩ : ByteArray).size = 6 + bd.size) := by show _ = _; rw [app_size, app_size]; show 4 + bd.size + 2 = _; omega
  have HPL : Hid ((crlf ++ dashes ++ bd.data.toList ++ crlf).length = 6 + bd.size) := by show _ = _; simp [dashes, crlf]; omega
  obtain ⟨pre, hpre⟩ : ∃ x, crlf ++ dashes ++ bd.data.toList ++ crlf = x := ⟨_, rfl⟩
  rw [hpre] at HT HPL
  have HPRE := Lib.hid hpre
  have HH := Lib.hid hh1
  have HA := Lib.hid ha
  have HL := Lib.hid hl
  clear hpre hw1 ho hw hp hsz1 hh hh1 ha hl
  go_enter Tryd.func31, Tryd.ntmps31
  go_wp2_with fail
  refine HCl.out.mono ?_
  rintro e w1' ⟨rfl, rfl⟩
  obtain ⟨w1, rfl⟩ : ∃ x, x = w1' := ⟨_, rfl⟩
  go_wp2_with fail
  refine (ws_any w1.heap.size w1.heap.size [] _ _ (Lib.fresh_isBuffer 59 5 w1) (by simp) (by rw [HZ.out]; simp; omega)).mono ?_
  rintro e w3 ⟨rfl, hb3, hbel3, hk3⟩
  rw [HT.out, List.nil_append] at hb3
  have B3 : Below w1.heap.size w1 w3 := ((Below.refl _ w1).alloc (Nat.le_refl _) _).trans hbel3
  clear hbel3 hk3 wa1 wa2
  go_wp2_with fail
  refine (keys_map w3 mb).mono ?_
  rintro e w4 ⟨rfl, rfl⟩
  go_wp2_with fail
  refine (sorted_map w3 (HH.out.below B3).map HH.out.len.1 HH.out.len.2 HA.out hn).mono ?_
  rintro e w4 ⟨A, cK, rfl, hkeys, B4⟩
  have hI : CInv w1 w1.heap.size pre A n hs w4 := ⟨hb3.old B4, B3.trans (B4.mono B3.size), hkeys⟩
  have HI0 := Lib.hid hI
  clear hI hb3 B3 B4 hkeys
  go_wp2_with fail
  go_loopw [51] (fun i wr => ∃ k : Nat, k ≤ n ∧ i = .int .i64 k ∧ Hid (CInv w1 w1.heap.size (pre ++ headT (hs.take k)) A n hs wr)) (fun i _ => n - (intOf i).toNat)
  case atStart => exact ⟨0, Nat.zero_le _, rfl, Lib.hid (by have h := HI0.out; simpa [headT] using h)⟩
  case round =>
    obtain ⟨k, hk, rfl, HI⟩ := hrel
    by_cases hlt : k < n
    · obtain ⟨g, cur, fz, rfl, hgk, hck⟩ := HI.out.keys (by omega)
      have hkl : k < hs.length := by have := HH.out.len.1; omega
      have hkg : k < gs.length := by have := HH.out.len.2; omega
      obtain ⟨x, hx⟩ : ∃ x, hs[k]? = some x := ⟨_, List.getElem?_eq_getElem hkl⟩
      obtain ⟨g2, hg2⟩ : ∃ x, gs[k]? = some x := ⟨_, List.getElem?_eq_getElem hkg⟩
      have c1 := hck k x hx
      have hlk : (Instr.lookup 96 (.map (some mb)) (.string x.1) false).run Tryd.prog wr = .ok (.slice (some ⟨g2.1, 0, none⟩) x.2.length g2.2) wr :=
        hmap_there (HH.out.below HI.out.below).map (by rw [HH.out.len.1, HH.out.len.2]) HA.out hx hg2
      have hm1 := (HA.out.vals x (List.mem_of_getElem? hx)).2.1
      clear hgk hck
      go_wp2_with fail
      obtain ⟨wo, rfl⟩ : ∃ wo : World, wo = wr := ⟨_, rfl⟩
      clear hlk c1
      go_loopw [59] (fun i w2 => ∃ j : Nat, j ≤ x.2.length ∧ i = .int .i64 j ∧ Hid (CInv w1 w1.heap.size (pre ++ headT (hs.take k) ++ linesT x.1.data.toList (x.2.take j)) (some ⟨g, 0, none⟩) n hs w2)) (fun i _ => x.2.length - (intOf i).toNat)
      case atStart => exact ⟨0, Nat.zero_le _, rfl, Lib.hid (by have h := HI.out; simpa [linesT] using h)⟩
      case round =>
        obtain ⟨j, hj, rfl, HJ⟩ := hrel
        by_cases hlj : j < x.2.length
        · obtain ⟨v, hv⟩ : ∃ v, x.2[j]? = some v := ⟨_, List.getElem?_eq_getElem hlj⟩
          have c2 := (HH.out.below HJ.out.below).rows k x g2 hx hg2 j v hv
          have HPL1 := part_len hx j
          have HPL2 := part_len hx (j + 1)
          rw [take_at hv, linesT_snoc, List.length_append] at HPL2
          have HT2 : Hid ((x.1 ++ ⟨#[58, 32]⟩ ++ v ++ ⟨#[13, 10]⟩ : ByteArray).data.toList = lineT x.1.data.toList v.data.toList) := by show _ = _; rw [app_data, app_data, app_data]; rfl
          have hz2 : (x.1 ++ ⟨#[58, 32]⟩ ++ v ++ ⟨#[13, 10]⟩ : ByteArray).size = (lineT x.1.data.toList v.data.toList).length := by
            rw [← HT2.out, len_data]
          have HZ2 : Hid ((pre ++ headT (hs.take k) ++ linesT x.1.data.toList (x.2.take j)).length + (x.1 ++ ⟨#[58, 32]⟩ ++ v ++ ⟨#[13, 10]⟩ : ByteArray).size ≤ 140737488355328) := by
            have h1 := HPL.out
            have h2 := HL.out
            show _ ≤ _
            rw [hz2, List.length_append, List.length_append]
            omega
          have HN : Hid (pre ++ headT (hs.take k) ++ linesT x.1.data.toList (x.2.take j) ++ lineT x.1.data.toList v.data.toList = pre ++ headT (hs.take k) ++ linesT x.1.data.toList (x.2.take (j + 1))) := by
            show _ = _
            rw [take_at hv, linesT_snoc, List.append_assoc _ (linesT _ _)]
          have hlen : (lineT x.1.data.toList v.data.toList).length = x.1.size + v.size + 4 := by
            simp only [lineT, colon, crlf, List.length_append, len_data, List.length_cons, List.length_nil]; omega
          have hxs : x.1.size ≤ 200000 := by have h2 := HL.out; omega
          have hvs : v.size ≤ 200000 := by have h2 := HL.out; omega
          clear HPL1 HPL2 hz2 hv hlen
          go_wp2_with fail
          refine (ws_any w1.heap.size w1.heap.size _ _ wr HJ.out.buf HJ.out.below.size HZ2.out).mono ?_
          rintro e w5 ⟨rfl, h1, h2, h3⟩
          rw [HT2.out, HN.out] at h1
          have HJ2 := Lib.hid (HJ.out.step h1 h2 h3)
          clear h1 h2 h3
          go_wp2_with fail
          go_roundw
          case rel => exact ⟨j + 1, by omega, by go_num, HJ2⟩
          case measure => simp [intOf]; omega
        · have hje : j = x.2.length := by omega
          have HN : Hid (CInv w1 w1.heap.size (pre ++ headT (hs.take (k + 1))) (some ⟨g, 0, none⟩) n hs wr) := by
            have h := HJ.out
            rw [hje, List.take_length, List.append_assoc, ← headT_snoc, ← take_at hx] at h
            exact h
          clear hje
          go_wp2_with fail
          go_roundw
          case rel => exact ⟨k + 1, by omega, by go_num, HN⟩
          case measure => simp [intOf]; omega
    · have hke : k = n := by omega
      have hI := HI.out
      rw [hke, List.take_of_length_le (by rw [HH.out.len.1]; exact Nat.le_refl _)] at hI
      have hb4 := hI.buf
      have B4' := hI.below
      clear hI hke
      go_wp2_with fail
      refine (ws_any w1.heap.size w1.heap.size _ ⟨#[13, 10]⟩ wr hb4 B4'.size (by have h1 := HPL.out; have h2 := HL.out; rw [List.length_append]; show _ + 2 ≤ _; omega)).mono ?_
      rintro e w5 ⟨rfl, hb5, hbel5, hk5⟩
      have B5 := B4'.trans hbel5
      clear hbel5 hk5 hb4 B4'
      have hb5' : Buf w5 w1.heap.size w1.heap.size (pre ++ headT hs ++ crlf) := hb5
      have w0 := (hwr1.below B5 hwr1.lt).c0
      clear hb5
      go_wp2_with fail
      refine (copy_any B bb w1.heap.size w1.heap.size o _ w5 (ho1.old B5) hb5' (by simp [crlf]) (by have := ho1.lt; omega) hBw1 (by have h1 := HPL.out; have h2 := HL.out; rw [List.length_append, List.length_append, h1]; simp [crlf]; omega) (Nat.le_trans hBw1 B5.size)).mono ?_
      rintro e w6 ⟨rfl, M⟩
      have hw6 : Wr w6 b _ _ _ := M.kept.wr (hwr1.below B5 hwr1.lt) (by rintro (h | h); exact wr_ne_buf hwr1 ho1 h; exact absurd h (Nat.ne_of_lt hwr1.lt))
      have hM := made_end B5 M hw6 hBb (Nat.le_refl _) hBw1
      have hpe := hM.2.pt hp1 (by rintro (h | h); exact pt_ne_buf hp1 ho1 h; exact pt_ne_wr hp1 hwr1 h)
      rw [← HPRE.out] at hM
      have HE := Lib.hid (And.intro hM hpe)
      have x2 : ∀ x, (w6.alloc x).cell? ⟨b, 2, none⟩ = some (.pointer (some ⟨p, 0, none⟩)) := fun x => (World.cell?_alloc_lt w6 x _ hw6.lt).trans hw6.c2
      have f2 : ∀ x, (w6.alloc x).frozen? ⟨b, 2, none⟩ = false := fun x => by
        have hal := (Below.refl w6.heap.size w6).alloc (Nat.le_refl _) x
        exact (hw6.below hal hw6.lt).f2
      have hlt6 := hw6.lt
      clear M w0 w2 hM hpe
      go_wp2_with fail
      go_ret2
      obtain ⟨⟨m, k'⟩, hpe⟩ := HE.out
      exact ⟨_, rfl, ⟨m.buf, m.wr, m.pt, by rw [← HW.out]; exact m.new, hb1.trans m.below⟩, hpe, (hk1.mono fun i h => .inr (.inr h)).trans (k'.mono fun i h => h.elim .inl fun h => .inr (.inl h))⟩

end Go.Proofs.YtklkgddldndmmaaDoor

/- What impl.Write writes, the state of a Writer between two parts, and CreatePart in that state. -/
namespace Go.Proofs.YtklkgddldndmmaaDoor
open Go.RowKit
set_option linter.unusedVariables false
set_option linter.unusedSimpArgs false

/-! ### The text of parts -/
abbrev HdrL := List (ByteArray × List ByteArray)
abbrev PartL := HdrL × List UInt8
def partT (p : PartL) : List UInt8 := headT p.1 ++ crlf ++ p.2
def sepT (k : Nat) : List UInt8 := if k = 0 then [] else crlf
def delimT (bd : List UInt8) : List UInt8 := dashes ++ bd ++ crlf
def closeT (bd : List UInt8) : List UInt8 := crlf ++ dashes ++ bd ++ dashes ++ crlf
/-- Parts behind k others. -/
def bodyFrom (bd : List UInt8) (k : Nat) : List PartL → List UInt8
  | [] => []
  | p :: r => sepT k ++ delimT bd ++ partT p ++ bodyFrom bd (k + 1) r
def bodyT (bd : List UInt8) (ps : List PartL) : List UInt8 := bodyFrom bd 0 ps
def writeT (bd : List UInt8) (ps : List PartL) : List UInt8 := bodyT bd ps ++ closeT bd

theorem bodyFrom_snoc (bd : List UInt8) : ∀ (ps : List PartL) (k : Nat) (p : PartL), bodyFrom bd k (ps ++ [p]) = bodyFrom bd k ps ++ (sepT (k + ps.length) ++ delimT bd ++ partT p)
  | [], k, p => by simp [bodyFrom]
  | q :: r, k, p => by
    simp only [List.cons_append, bodyFrom, bodyFrom_snoc bd r (k + 1) p, List.length_cons]
    rw [show k + 1 + r.length = k + (r.length + 1) by omega]
    simp only [List.append_assoc]
theorem bodyT_snoc (bd : List UInt8) (ps : List PartL) (p : PartL) : bodyT bd (ps ++ [p]) = bodyT bd ps ++ (sepT ps.length ++ delimT bd ++ partT p) := by
  unfold bodyT
  rw [bodyFrom_snoc, Nat.zero_add]
theorem bodyFrom_app (bd : List UInt8) : ∀ (a b : List PartL) (k : Nat), bodyFrom bd k (a ++ b) = bodyFrom bd k a ++ bodyFrom bd (k + a.length) b
  | [], b, k => by simp [bodyFrom]
  | q :: r, b, k => by
    simp only [List.cons_append, bodyFrom, bodyFrom_app bd r b (k + 1), List.length_cons]
    rw [show k + 1 + r.length = k + (r.length + 1) by omega]
    simp only [List.append_assoc]
theorem bodyT_take (bd : List UInt8) (ps : List PartL) (k : Nat) : (bodyT bd (ps.take k)).length ≤ (bodyT bd ps).length := by
  have h := congrArg (fun l => (bodyT bd l).length) (List.take_append_drop k ps)
  unfold bodyT at h ⊢
  simp only [bodyFrom_app, List.length_append] at h
  omega
/-- So far is no longer than the whole. -/
theorem body_len (bd : List UInt8) {ps : List PartL} {k : Nat} {p : PartL} (hp : ps[k]? = some p) : (bodyT bd (ps.take k)).length + (headT p.1).length + p.2.length ≤ (bodyT bd ps).length := by
  have h1 := bodyT_take bd ps (k + 1)
  rw [take_at hp, bodyT_snoc, List.length_append] at h1
  simp only [List.length_append, partT] at h1
  omega

/-! ### What is read -/
theorem RdH.below {w w' : World} {B : Nat} {A : Option Addr} {n : Nat} {hs : HdrL} (h : RdH w B A n hs) (hb : Below B w w') : RdH w' B A n hs :=
  ⟨h.1, fun hn => by
    obtain ⟨b, o, e, hB, hc⟩ := h.2 hn
    refine ⟨b, o, e, hB, fun i x hx => ?_⟩
    obtain ⟨c1, Av, nv, cv, c2, hv⟩ := hc i x hx
    exact ⟨(hb.cell (p := ⟨b, o + i * 2, none⟩) hB).trans c1, Av, nv, cv, (hb.cell (p := ⟨b, o + i * 2 + 1, none⟩) hB).trans c2, hv.below hb⟩⟩
theorem RdH.more {w : World} {B B' : Nat} {A : Option Addr} {n : Nat} {hs : HdrL} (h : RdH w B A n hs) (hB : B ≤ B') : RdH w B' A n hs :=
  ⟨h.1, fun hn => by
    obtain ⟨b, o, e, hb, hc⟩ := h.2 hn
    refine ⟨b, o, e, by omega, fun i x hx => ?_⟩
    obtain ⟨c1, Av, nv, cv, c2, hv⟩ := hc i x hx
    exact ⟨c1, Av, nv, cv, c2, hv.more hB⟩⟩

/-- A []Part that reads as a list of parts. -/
def RdP (w : World) (B : Nat) (A : Option Addr) (n : Nat) (ps : List PartL) : Prop :=
  ps.length = n ∧ (0 < n → ∃ b o, A = some ⟨b, o, none⟩ ∧ b < B ∧ ∀ (i : Nat) p, ps[i]? = some p → ∃ Ah nh ch Ab nb cb, w.cell? ⟨b, o + i * 2, none⟩ = some (.slice Ah nh ch) ∧ w.cell? ⟨b, o + i * 2 + 1, none⟩ = some (.slice Ab nb cb) ∧ RdH w B Ah nh p.1 ∧ RdB w B Ab nb p.2)
theorem RdP.below {w w' : World} {B : Nat} {A : Option Addr} {n : Nat} {ps : List PartL} (h : RdP w B A n ps) (hb : Below B w w') : RdP w' B A n ps :=
  ⟨h.1, fun hn => by
    obtain ⟨b, o, e, hB, hc⟩ := h.2 hn
    refine ⟨b, o, e, hB, fun i x hx => ?_⟩
    obtain ⟨Ah, nh, ch, Ab, nb, cb, c1, c2, h1, h2⟩ := hc i x hx
    exact ⟨Ah, nh, ch, Ab, nb, cb, (hb.cell (p := ⟨b, o + i * 2, none⟩) hB).trans c1, (hb.cell (p := ⟨b, o + i * 2 + 1, none⟩) hB).trans c2, h1.below hb, h2.below hb⟩⟩
theorem RdP.more {w : World} {B B' : Nat} {A : Option Addr} {n : Nat} {ps : List PartL} (h : RdP w B A n ps) (hB : B ≤ B') : RdP w B' A n ps :=
  ⟨h.1, fun hn => by
    obtain ⟨b, o, e, hb, hc⟩ := h.2 hn
    refine ⟨b, o, e, by omega, fun i x hx => ?_⟩
    obtain ⟨Ah, nh, ch, Ab, nb, cb, c1, c2, h1, h2⟩ := hc i x hx
    exact ⟨Ah, nh, ch, Ab, nb, cb, c1, c2, h1.more hB, h2.more hB⟩⟩

/-- Parts that may be walked. -/
structure Fit (p : PartL) : Prop where
  asc : Asc p.1
  len : p.1.length ≤ 1000
  txt : (headT p.1).length ≤ 200000

/-! ### A Writer between two parts -/
structure WSt (B bb b : Nat) (bd : ByteArray) (k : Nat) (o : List UInt8) (M : Nat) (w : World) : Prop where
  buf : Buf w B bb o
  low : B ≤ b ∧ bb < M ∧ b < M
  wr : (k = 0 ∧ Wr w b (.iface 55 (.pointer (some ⟨bb, 0, none⟩))) bd none) ∨ (0 < k ∧ ∃ p, Wr w b (.iface 55 (.pointer (some ⟨bb, 0, none⟩))) bd (some ⟨p, 0, none⟩) ∧ Pt w p b false ∧ B ≤ p ∧ p < M)

theorem WSt.below {B bb b : Nat} {bd : ByteArray} {k : Nat} {o : List UInt8} {M : Nat} {w w' : World} (h : WSt B bb b bd k o M w) (hb : Below w.heap.size w w') : WSt B bb b bd k o M w' := by
  refine ⟨h.buf.old hb, h.low, ?_⟩
  rcases h.wr with ⟨h0, hw⟩ | ⟨h0, p, hw, hp, hB, hM⟩
  · exact .inl ⟨h0, hw.below hb hw.lt⟩
  · exact .inr ⟨h0, p, hw.below hb hw.lt, (hb.block p hp.lt).trans hp, hB, hM⟩

/-- CreatePart leads to a part p'; nothing that stood from M on has turned. -/
structure Next (B bb b : Nat) (bd : ByteArray) (o : List UInt8) (M : Nat) (w : World) (p' : Nat) (w' : World) : Prop where
  made : Made B bb b (.iface 55 (.pointer (some ⟨bb, 0, none⟩))) bd o w p' w'
  kept : Kept (fun k => k < M) w w'

theorem create_any {B bb b : Nat} {bd : ByteArray} {k : Nat} {o : List UInt8} {M mb n : Nat} {hs : HdrL} {gs : List (Nat × Nat)} {w : World} (h : WSt B bb b bd k o M w) (hh : HOk mb hs n gs w) (ha : Asc hs) (hn : n ≤ 1000) (hl : (headT hs).length ≤ 200000) (hBw : B ≤ w.heap.size) (hbd : bd.size ≤ 1000) (hlim : o.length ≤ 140737488000000) :
    Calls Tryd.prog 31 #[.pointer (some ⟨b, 0, none⟩), .map (some mb)] w fun e w' => ∃ p', e = .returned (.tuple #[.iface 93 (.pointer (some ⟨p', 0, none⟩)), .nilIface]) ∧ Next B bb b bd (o ++ (sepT k ++ delimT bd.data.toList ++ headT hs ++ crlf)) M w p' w' := by
  rcases h.wr with ⟨rfl, hw⟩ | ⟨h0, p, hw, hp, hB, hM⟩
  · refine (create_map_first B bb b mb n bd o hs gs w h.buf hw hh ha hn hl h.low.1 hBw hbd hlim).mono ?_
    rintro e w' ⟨p', rfl, m, hk⟩
    refine ⟨p', rfl, ?_, hk.mono ?_⟩
    · rw [show sepT 0 = [] from rfl, List.nil_append]
      exact m
    · rintro i (rfl | rfl)
      · exact h.low.2.1
      · exact h.low.2.2
  · refine (create_map_next B bb b p mb n false bd o hs gs w h.buf hw hp hh ha hn hl h.low.1 hB hBw hbd hlim).mono ?_
    rintro e w' ⟨p', rfl, m, _, hk⟩
    refine ⟨p', rfl, ?_, hk.mono ?_⟩
    · rw [show sepT k = crlf by unfold sepT; rw [if_neg (by omega)]]
      unfold delimT
      simpa only [List.append_assoc] using m
    · rintro i (rfl | rfl | rfl)
      · exact h.low.2.1
      · exact h.low.2.2
      · exact hM

/-- Behind a Write of the part. -/
theorem Next.st {B bb b : Nat} {bd : ByteArray} {o : List UInt8} {M p' : Nat} {w w' w2 : World} (h : Next B bb b bd o M w p' w') (k : Nat) {l : List UInt8} (hBw : B ≤ w.heap.size) (hBb : B ≤ b) (hb2 : Buf w2 B bb l) (hk : Kept (fun k => k = bb) w' w2) {M' : Nat} (hM : w'.heap.size ≤ M') : WSt B bb b bd (k + 1) l M' w2 :=
  ⟨hb2, ⟨hBb, by have := h.made.buf.lt; omega, by have := h.made.wr.lt; omega⟩, .inr ⟨by omega, p', hk.wr h.made.wr (wr_ne_buf h.made.wr h.made.buf), hk.pt h.made.pt (pt_ne_buf h.made.pt h.made.buf), Nat.le_trans hBw h.made.new, by have := h.made.pt.lt; omega⟩⟩

theorem bytes_cap (B b : Nat) (l : List UInt8) (w : World) (h : Buf w B b l) (h0 : l ≠ []) :
    ∃ g c, (∀ n, Calls Tryd.prog 38 #[.pointer (some ⟨b, 0, none⟩)] (w.drewN n) fun e w' => e = .returned (.slice (some ⟨g, 0, none⟩) l.length c) ∧ ∃ q, w' = (w.drewN n).drewN q) ∧ RdB w w.heap.size (some ⟨g, 0, none⟩) l.length l ∧ l.length ≤ c := by
  obtain ⟨g, cap, lr, hb, _, _, hle, hcm, ⟨cur, hg⟩, hc⟩ := h.row h0
  unfold maxLen at hcm
  exact ⟨g, cap, fun n => bytes_core b g l.length cap _ (w.drewN n) hb hle (List.length_pos_iff.2 h0) (by omega), ⟨by rw [bc_len]; simp, fun _ => ⟨g, 0, rfl, (Array.getElem?_eq_some_iff.1 hg).1, hc⟩⟩, hle⟩

end Go.Proofs.YtklkgddldndmmaaDoor

/- The walks of the searches: Equal, HasPrefix, find, Free (turned from the seat of the first round). -/
namespace Go.Proofs.YtklkgddldndmmaaDoor
open Go.RowKit
set_option linter.unusedVariables false
set_option linter.unusedSimpArgs false

theorem equal_any (A1 A2 : Option Addr) (n c m d B : Nat) (l1 l2 : List UInt8) (w : World) (h1 : RdB w B A1 n l1) (h2 : RdB w B A2 m l2) :
    Calls Tryd.prog 78 #[.slice A1 n c, .slice A2 m d] w fun e w' => e = .returned (.bool (l1 == l2)) ∧ w = w' := by
  have c1 := h1.conv (P := Tryd.prog) (src := 31) (dst := 9) Tryd.underlying31 Tryd.underlying5 Tryd.underlying9 c
  have c2 := h2.conv (P := Tryd.prog) (src := 31) (dst := 9) Tryd.underlying31 Tryd.underlying5 Tryd.underlying9 d
  clear h1 h2
  go_enter Tryd.func78, Tryd.ntmps78
  go_wp2
  go_ret
  exact ⟨by simp, rfl⟩

theorem hasPrefix_any (A1 A2 : Option Addr) (n c m d B : Nat) (l1 l2 : List UInt8) (w : World) (hn : n ≤ c) (h1 : RdB w B A1 n l1) (h2 : RdB w B A2 m l2) :
    Calls Tryd.prog 62 #[.slice A1 n c, .slice A2 m d] w fun e w' => e = .returned (.bool (Lib.hasPrefix l1 l2)) ∧ w = w' := by
  have hl1 := h1.len
  have hl2 := h2.len
  by_cases hm : m ≤ n
  · have HE := Lib.hid (equal_any A1 A2 m c m d B (l1.take m) l2 w (h1.take hm) h2)
    have HR : Hid (Lib.hasPrefix l1 l2 = (l1.take m == l2)) := by
      show _ = _
      rw [← Lib.hasPrefix_of_take, hl2, hl1]
      simp [hm]
    have hz := map_add_zero' A1
    clear h1 h2 hl1 hl2
    go_enter Tryd.func62, Tryd.ntmps62
    go_wp2_with fail
    refine HE.out.mono ?_
    rintro e w1 ⟨rfl, rfl⟩
    go_wp2
    go_ret
    exact ⟨ret_bool HR.out.symm, rfl⟩
  · have HR : Hid (Lib.hasPrefix l1 l2 = false) := by
      show _ = _
      rw [← Lib.hasPrefix_of_take, hl2, hl1]
      simp [hm]
    clear h1 h2 hl1 hl2
    go_enter Tryd.func62, Tryd.ntmps62
    go_wp2
    go_ret
    exact ⟨ret_bool HR.out.symm, rfl⟩

theorem drop_at {l : List UInt8} {k : Nat} {c : UInt8} (h : l[k]? = some c) : l.drop k = c :: l.drop (k + 1) := by
  obtain ⟨hk, rfl⟩ := List.getElem?_eq_some_iff.1 h
  exact List.drop_eq_getElem_cons hk
theorem beq_of {a b : Int} (h : a = b) : (a == b) = true := by simpa using h
theorem beq_not {a b : Int} (h : ¬ a = b) : (a == b) = false := by simpa using h

theorem noocc_next {l p : List UInt8} {k : Nat} (h : Lib.NoOcc l p k) (h2 : Lib.hasPrefix (l.drop k) p = false) : Lib.NoOcc l p (k + 1) := h.succ h2

set_option maxHeartbeats 1000000 in
theorem find_any (A A2 : Option Addr) (n c m d B : Nat) (l p : List UInt8) (w : World) (hnc : n ≤ c) (hn : n ≤ 2305843009213693952) (hm : m ≤ 2305843009213693952) (h0 : 0 < m) (hr : RdB w B A n l) (hr2 : RdB w B A2 m p) :
    Calls Tryd.prog 48 #[.slice A n c, .slice A2 m d] w fun e w' => e = .returned (.int .i64 (Lib.index l p)) ∧ w = w' := by
  have hl := hr.len
  have hl2 := hr2.len
  have hpn : p ≠ [] := by rintro rfl; simp at hl2; omega
  have HL : Hid (l.length = n ∧ p.length = m ∧ p ≠ []) := ⟨hl, hl2, hpn⟩
  clear hl hl2 hpn
  go_enter Tryd.func48, Tryd.ntmps48
  go_wp2
  go_loop [5] (fun i => ∃ k : Nat, i = .int .i64 k ∧ Hid (Lib.NoOcc l p k) ∧ k ≤ n + 1) (fun i => n + 1 - (intOf i).toNat)
  case atStart => exact ⟨0, rfl, Lib.NoOcc.zero _ _, by omega⟩
  case round =>
    obtain ⟨k, rfl, HN, hk⟩ := hrel
    by_cases hlt : k + m ≤ n
    · have hb : (k : Int) + (m : Int) ≤ (n : Int) := by omega
      have hkc : (k : Int) ≤ (c : Int) := by omega
      have hkn : (k : Int) ≤ (n : Int) := by omega
      have hck : ¬ c = k := by omega
      obtain ⟨b, o, rfl, hbB, _⟩ := hr.2 (by omega)
      have HC := Lib.hid (show RdB w B (some ⟨b, o + k, none⟩) (n - k) (l.drop k) from by have := hr.cut (k := k) (cap := c) (by omega) hnc; rw [if_neg hck] at this; simpa [Addr.add_lit] using this)
      have HH := Lib.hid (fun w' => hasPrefix_any (some ⟨b, o + k, none⟩) A2 (n - k) (c - k) m d B (l.drop k) p w' (by omega))
      have HR2 := Lib.hid hr2
      have hr' := Lib.hid hr
      clear hr hr2
      by_cases hp : Lib.hasPrefix (l.drop k) p = true
      · have HP := Lib.hid hp
        have HX : Hid (Lib.index l p = k) := Lib.index_hit HN.out (by have := HL.out; omega) hp
        clear hp
        go_wp2_with fail
        refine (HH.out _ HC.out HR2.out).mono ?_
        rintro e w1 ⟨rfl, rfl⟩
        rw [HP.out]
        go_wp2
        go_ret
        exact ⟨ret_int HX.out.symm, rfl⟩
      · have HP := Lib.hid (show Lib.hasPrefix (l.drop k) p = false by simpa using hp)
        have HX : Hid (Lib.NoOcc l p (k + 1)) := noocc_next HN.out HP.out
        clear hp
        go_wp2_with fail
        refine (HH.out _ HC.out HR2.out).mono ?_
        rintro e w1 ⟨rfl, rfl⟩
        rw [HP.out]
        go_wp2
        go_round
        case rel => exact ⟨k + 1, by go_num, HX, by omega⟩
        case measure => simp [intOf]; omega
    · have HX : Hid (Lib.index l p = -1) := Lib.index_past HL.out.2.2 HN.out (by have := HL.out; omega)
      go_wp2
      go_ret
      exact ⟨ret_int HX.out.symm, rfl⟩

theorem hp_b {A1 A2 : Option Addr} {n c m d B : Nat} {l1 l2 : List UInt8} {w : World} (b : Bool) (hn : n ≤ c) (h1 : RdB w B A1 n l1) (h2 : RdB w B A2 m l2) (h : Lib.hasPrefix l1 l2 = b) :
    Calls Tryd.prog 62 #[.slice A1 n c, .slice A2 m d] w fun e w' => e = .returned (.bool b) ∧ w = w' :=
  (hasPrefix_any A1 A2 n c m d B l1 l2 w hn h1 h2).mono fun _ _ ⟨he, hw⟩ => ⟨by rw [he, h], hw⟩
theorem below_own {w w1 : World} {o : Obj} {e : TypeId} {size n : Nat} {v : Value} {xs : List Value} (hown : (w.alloc o).ownsRow w.heap.size e size v n xs) (hgrow : (w.alloc o).grownBy w1 v.ownBlock) : Below w.heap.size w w1 :=
  ((Below.refl _ w).alloc (Nat.le_refl _) o).grown hgrow (by simp) (fun j hj => (hown.lt j hj).1)

/-- In a body the delimiter does not stand at the beginning, nor behind a LF. -/
def freeB (l b : List UInt8) : Bool := !(Lib.hasPrefix l (45 :: 45 :: b)) && decide (Lib.index l (10 :: 45 :: 45 :: b) < 0)

theorem fi_b {A A2 : Option Addr} {n c m d B : Nat} {l p : List UInt8} {w : World} (k : Int) (hnc : n ≤ c) (hn : n ≤ 2305843009213693952) (hm : m ≤ 2305843009213693952) (h0 : 0 < m) (hr : RdB w B A n l) (hr2 : RdB w B A2 m p) (h : Lib.index l p = k) :
    Calls Tryd.prog 48 #[.slice A n c, .slice A2 m d] w fun e w' => e = .returned (.int .i64 k) ∧ w = w' :=
  (find_any A A2 n c m d B l p w hnc hn hm h0 hr hr2).mono fun _ _ ⟨he, hw⟩ => ⟨by rw [he, h], hw⟩

set_option maxHeartbeats 2000000 in
theorem free_any (A : Option Addr) (n c B : Nat) (bd : ByteArray) (l : List UInt8) (w : World) (hnc : n ≤ c) (hn : n ≤ 140737488000000) (hbd : bd.size ≤ 16777216) (hB : B ≤ w.heap.size) (hr : RdB w B A n l) :
    Calls Tryd.prog 36 #[.slice A n c, .string bd] w fun e' w' => e' = .returned (.bool (freeB l bd.data.toList)) ∧ Below w.heap.size w w' := by
  obtain ⟨i0, hi, hz0, hz1, hz2⟩ := info_parts info5
  have HD : Hid ((⟨#[45, 45]⟩ ++ bd : ByteArray).data.toList = 45 :: 45 :: bd.data.toList) := by show _ = _; rw [app_data]; rfl
  have HS1 : Hid ((⟨#[45, 45]⟩ ++ bd : ByteArray).size = 2 + bd.size) := by show _ = _; rw [app_size]; rfl
  have HR := Lib.hid hr
  clear hr
  by_cases hp : Lib.hasPrefix l (45 :: 45 :: bd.data.toList) = true
  · have HF : Hid (freeB l bd.data.toList = false) := by show _ = _; simp [freeB, hp]
    have HP := Lib.hid hp
    clear hp
    go_enter Tryd.func36, Tryd.ntmps36
    go_wp2_with (refine wpList_conv_any _ rfl (.tmp 7) 9 31 5 rfl Tryd.underlying9 Tryd.underlying31 Tryd.underlying5 _ rfl ?_; intro A2 c2 w2 hr2 hc2 hb2; have hsz2 := hb2.size)
    rw [HS1.out, HD.out] at hr2
    refine (hp_b true hnc ((HR.out.below (hb2.mono hB)).more (B' := w2.heap.size) (by omega)) hr2 HP.out).mono ?_
    rintro e w3 ⟨rfl, rfl⟩
    go_wp2
    go_ret
    exact ⟨ret_bool HF.out.symm, hb2⟩
  · have hp' : Lib.hasPrefix l (45 :: 45 :: bd.data.toList) = false := by simpa using hp
    have HP := Lib.hid hp'
    have hix : Lib.index l (10 :: 45 :: 45 :: bd.data.toList) = -1 ∨ 0 ≤ Lib.index l (10 :: 45 :: 45 :: bd.data.toList) := by
      have := Lib.index_ge l (10 :: 45 :: 45 :: bd.data.toList); omega
    obtain ⟨k, hk⟩ : ∃ k, Lib.index l (10 :: 45 :: 45 :: bd.data.toList) = k := ⟨_, rfl⟩
    rw [hk] at hix
    have HF : Hid (freeB l bd.data.toList = decide (k < 0)) := by show _ = _; simp [freeB, hp', hk]
    have HK := Lib.hid hk
    clear hp hp' hk
    go_enter Tryd.func36, Tryd.ntmps36
    go_wp2_with (refine wpList_conv_any _ rfl (.tmp 7) 9 31 5 rfl Tryd.underlying9 Tryd.underlying31 Tryd.underlying5 _ rfl ?_; intro A2 c2 w2 hr2 hc2 hb2; have hsz2 := hb2.size)
    rw [HS1.out, HD.out] at hr2
    refine (hp_b false hnc ((HR.out.below (hb2.mono hB)).more (B' := w2.heap.size) (by omega)) hr2 HP.out).mono ?_
    rintro e w3 ⟨rfl, rfl⟩
    have hown0 := World.ownsRow_lit (base := w2.heap.size) (e := 5) (size := 1) w2 #[.int .u8 10] 1 (Nat.le_refl _) (by decide) rfl
    go_wp2_with (at_builtin; refine wpList_append_want _ (.tmp 15) (.tmp 16) 31 rfl rfl w2.heap.size 5 i0 (.int .u8 0) 1 1 Tryd.underlying31 hi hz0 hz1 hz2 rfl (by decide) _ _ _ rfl hown0 w2.heap.size A2 (2 + bd.size) c2 (Lib.byteCells (45 :: 45 :: bd.data.toList)) rfl (hr2.alloc (Nat.le_refl _) _) (bc_one _) (by unfold maxLen; omega) (by omega) (by simp) ?_; intro A3 c3 w3 hown3 hgrow3 hlie3; have hb3 := below_own hown0 hgrow3; clear hgrow3 hlie3; have hsz3 := hb3.size)
    have r1 := ((HR.out.below (hb2.mono hB)).below (hb3.mono (by omega))).more (B' := w3.heap.size) (by omega)
    have r3 : RdB w3 w3.heap.size A3 (1 + (2 + bd.size)) (10 :: 45 :: 45 :: bd.data.toList) := Rd.of_own hown3
    refine (fi_b k hnc (by omega) (by omega) (by omega) r1 r3 HK.out).mono ?_
    rintro e w4 ⟨rfl, rfl⟩
    have hbb := hb2.trans (hb3.mono hsz2)
    go_wp2
    go_ret
    exact ⟨ret_bool HF.out.symm, hbb⟩


end Go.Proofs.YtklkgddldndmmaaDoor
