/- The walk of CreatePart at a header's map. -/
import Derived.Test.YtklkgddldndmmaaDoorCMapA
namespace Go.Proofs.YtklkgddldndmmaaDoor
open Go.RowKit
set_option linter.unusedVariables false
set_option linter.unusedSimpArgs false

set_option maxRecDepth 1000000 in
set_option maxHeartbeats 8000000 in
theorem create_map_first (B bb b mb n : Nat) (bd : ByteArray) (o : List UInt8) (hs : List (ByteArray × List ByteArray)) (gs : List (Nat × Nat)) (w : World) (ho : Buf w B bb o) (hw : Wr w b (.iface 55 (.pointer (some ⟨bb, 0, none⟩))) bd none) (hh : HOk mb hs n gs w) (ha : Asc hs) (hn : n ≤ 1000) (hl : (headT hs).length ≤ 200000) (hBb : B ≤ b) (hBw : B ≤ w.heap.size) (hbd : bd.size ≤ 1000) (hlim : o.length ≤ 140737488000000) :
    Calls Tryd.prog 31 #[.pointer (some ⟨b, 0, none⟩), .map (some mb)] w fun e w' => ∃ p', e = .returned (.tuple #[.iface 93 (.pointer (some ⟨p', 0, none⟩)), .nilIface]) ∧ Made B bb b (.iface 55 (.pointer (some ⟨bb, 0, none⟩))) bd (o ++ (dashes ++ bd.data.toList ++ crlf ++ headT hs ++ crlf)) w p' w' ∧ Kept (fun k => k = bb ∨ k = b) w w' := by
  have w2 := hw.c2
  obtain ⟨w1, rfl⟩ : ∃ x, x = w := ⟨_, rfl⟩
  have ho1 := ho
  have hwr1 := hw
  have hh1 := hh
  have hBw1 := hBw
  have wa2 : ∀ x, (w1.alloc x).cell? ⟨b, 2, none⟩ = some (.pointer none) := fun x => (World.cell?_alloc_lt w1 x _ hwr1.lt).trans hwr1.c2
  have wa1 : ∀ x, (w1.alloc x).cell? ⟨b, 1, none⟩ = some (.string bd) := fun x => (World.cell?_alloc_lt w1 x _ hwr1.lt).trans hwr1.c1
  have HT : Hid ((⟨#[45, 45]⟩ ++ bd ++ ⟨#[13, 10]⟩ : ByteArray).data.toList = dashes ++ bd.data.toList ++ crlf) := by show _ = _; rw [app_data, app_data]; rfl
  have HZ : Hid ((⟨#[45, 45]⟩ ++ bd ++ ⟨#[13, 10]⟩ : ByteArray).size = 4 + bd.size) := by show _ = _; rw [app_size, app_size]; show 2 + bd.size + 2 = _; omega
  have HPL : Hid ((dashes ++ bd.data.toList ++ crlf).length = 4 + bd.size) := by show _ = _; simp [dashes, crlf]; omega
  obtain ⟨pre, hpre⟩ : ∃ x, dashes ++ bd.data.toList ++ crlf = x := ⟨_, rfl⟩
  rw [hpre] at HT HPL
  have HPRE := Lib.hid hpre
  have HH := Lib.hid hh1
  have HA := Lib.hid ha
  have HL := Lib.hid hl
  clear hpre ho hw hh hh1 ha hl hBw
  go_enter Tryd.func31, Tryd.ntmps31

  go_wp2_with fail
  refine (ws_any w1.heap.size w1.heap.size [] _ _ (Lib.fresh_isBuffer 59 5 w1) (by simp) (by rw [HZ.out]; simp; omega)).mono ?_
  rintro e w3 ⟨rfl, hb3, hbel3, hk3⟩
  rw [HT.out, List.nil_append] at hb3
  have B3 : Below w1.heap.size w1 w3 := ((Below.refl _ w1).alloc (Nat.le_refl _) _).trans hbel3
  clear hbel3 hk3 wa1 wa2
  go_wp2_with fail
  refine (keys_map w3 mb).mono ?_
  rintro e w4 ⟨rfl, rfl⟩
  go_wp2_with fail
  refine (sorted_map w3 (HH.out.below B3).map HH.out.len.1 HH.out.len.2 HA.out hn).mono ?_
  rintro e w4 ⟨A, cK, rfl, hkeys, B4⟩
  have hI : CInv w1 w1.heap.size pre A n hs w4 := ⟨hb3.old B4, B3.trans (B4.mono B3.size), hkeys⟩
  have HI0 := Lib.hid hI
  clear hI hb3 B3 B4 hkeys
  go_wp2_with fail
  go_loopw [51] (fun i wr => ∃ k : Nat, k ≤ n ∧ i = .int .i64 k ∧ Hid (CInv w1 w1.heap.size (pre ++ headT (hs.take k)) A n hs wr)) (fun i _ => n - (intOf i).toNat)
  case atStart => exact ⟨0, Nat.zero_le _, rfl, Lib.hid (by have h := HI0.out; simpa [headT] using h)⟩
  case round =>
    obtain ⟨k, hk, rfl, HI⟩ := hrel
    by_cases hlt : k < n
    · obtain ⟨g, cur, fz, rfl, hgk, hck⟩ := HI.out.keys (by omega)
      have hkl : k < hs.length := by have := HH.out.len.1; omega
      have hkg : k < gs.length := by have := HH.out.len.2; omega
      obtain ⟨x, hx⟩ : ∃ x, hs[k]? = some x := ⟨_, List.getElem?_eq_getElem hkl⟩
      obtain ⟨g2, hg2⟩ : ∃ x, gs[k]? = some x := ⟨_, List.getElem?_eq_getElem hkg⟩
      have c1 := hck k x hx
      have hlk : (Instr.lookup 96 (.map (some mb)) (.string x.1) false).run Tryd.prog wr = .ok (.slice (some ⟨g2.1, 0, none⟩) x.2.length g2.2) wr :=
        hmap_there (HH.out.below HI.out.below).map (by rw [HH.out.len.1, HH.out.len.2]) HA.out hx hg2
      have hm1 := (HA.out.vals x (List.mem_of_getElem? hx)).2.1
      clear hgk hck
      go_wp2_with fail
      obtain ⟨wo, rfl⟩ : ∃ wo : World, wo = wr := ⟨_, rfl⟩
      clear hlk c1
      go_loopw [59] (fun i w2 => ∃ j : Nat, j ≤ x.2.length ∧ i = .int .i64 j ∧ Hid (CInv w1 w1.heap.size (pre ++ headT (hs.take k) ++ linesT x.1.data.toList (x.2.take j)) (some ⟨g, 0, none⟩) n hs w2)) (fun i _ => x.2.length - (intOf i).toNat)
      case atStart => exact ⟨0, Nat.zero_le _, rfl, Lib.hid (by have h := HI.out; simpa [linesT] using h)⟩
      case round =>
        obtain ⟨j, hj, rfl, HJ⟩ := hrel
        by_cases hlj : j < x.2.length
        · obtain ⟨v, hv⟩ : ∃ v, x.2[j]? = some v := ⟨_, List.getElem?_eq_getElem hlj⟩
          have c2 := (HH.out.below HJ.out.below).rows k x g2 hx hg2 j v hv
          have HPL1 := part_len hx j
          have HPL2 := part_len hx (j + 1)
          rw [take_at hv, linesT_snoc, List.length_append] at HPL2
          have HT2 : Hid ((x.1 ++ ⟨#[58, 32]⟩ ++ v ++ ⟨#[13, 10]⟩ : ByteArray).data.toList = lineT x.1.data.toList v.data.toList) := by show _ = _; rw [app_data, app_data, app_data]; rfl
          have hz2 : (x.1 ++ ⟨#[58, 32]⟩ ++ v ++ ⟨#[13, 10]⟩ : ByteArray).size = (lineT x.1.data.toList v.data.toList).length := by
            rw [← HT2.out, len_data]
          have HZ2 : Hid ((pre ++ headT (hs.take k) ++ linesT x.1.data.toList (x.2.take j)).length + (x.1 ++ ⟨#[58, 32]⟩ ++ v ++ ⟨#[13, 10]⟩ : ByteArray).size ≤ 140737488355328) := by
            have h1 := HPL.out
            have h2 := HL.out
            show _ ≤ _
            rw [hz2, List.length_append, List.length_append]
            omega
          have HN : Hid (pre ++ headT (hs.take k) ++ linesT x.1.data.toList (x.2.take j) ++ lineT x.1.data.toList v.data.toList = pre ++ headT (hs.take k) ++ linesT x.1.data.toList (x.2.take (j + 1))) := by
            show _ = _
            rw [take_at hv, linesT_snoc, List.append_assoc _ (linesT _ _)]
          have hlen : (lineT x.1.data.toList v.data.toList).length = x.1.size + v.size + 4 := by
            simp only [lineT, colon, crlf, List.length_append, len_data, List.length_cons, List.length_nil]; omega
          have hxs : x.1.size ≤ 200000 := by have h2 := HL.out; omega
          have hvs : v.size ≤ 200000 := by have h2 := HL.out; omega
          clear HPL1 HPL2 hz2 hv hlen
          go_wp2_with fail
          refine (ws_any w1.heap.size w1.heap.size _ _ wr HJ.out.buf HJ.out.below.size HZ2.out).mono ?_
          rintro e w5 ⟨rfl, h1, h2, h3⟩
          rw [HT2.out, HN.out] at h1
          have HJ2 := Lib.hid (HJ.out.step h1 h2 h3)
          clear h1 h2 h3
          go_wp2_with fail
          go_roundw
          case rel => exact ⟨j + 1, by omega, by go_num, HJ2⟩
          case measure => simp [intOf]; omega
        · have hje : j = x.2.length := by omega
          have HN : Hid (CInv w1 w1.heap.size (pre ++ headT (hs.take (k + 1))) (some ⟨g, 0, none⟩) n hs wr) := by
            have h := HJ.out
            rw [hje, List.take_length, List.append_assoc, ← headT_snoc, ← take_at hx] at h
            exact h
          clear hje
          go_wp2_with fail
          go_roundw
          case rel => exact ⟨k + 1, by omega, by go_num, HN⟩
          case measure => simp [intOf]; omega
    · have hke : k = n := by omega
      have hI := HI.out
      rw [hke, List.take_of_length_le (by rw [HH.out.len.1]; exact Nat.le_refl _)] at hI
      have hb4 := hI.buf
      have B4' := hI.below
      clear hI hke
      go_wp2_with fail
      refine (ws_any w1.heap.size w1.heap.size _ ⟨#[13, 10]⟩ wr hb4 B4'.size (by have h1 := HPL.out; have h2 := HL.out; rw [List.length_append]; show _ + 2 ≤ _; omega)).mono ?_
      rintro e w5 ⟨rfl, hb5, hbel5, hk5⟩
      have B5 := B4'.trans hbel5
      clear hbel5 hk5 hb4 B4'
      have hb5' : Buf w5 w1.heap.size w1.heap.size (pre ++ headT hs ++ crlf) := hb5
      have w0 := (hwr1.below B5 hwr1.lt).c0
      clear hb5
      go_wp2_with fail
      refine (copy_any B bb w1.heap.size w1.heap.size o _ w5 (ho1.old B5) hb5' (by simp [crlf]) (by have := ho1.lt; omega) hBw1 (by have h1 := HPL.out; have h2 := HL.out; rw [List.length_append, List.length_append, h1]; simp [crlf]; omega) (Nat.le_trans hBw1 B5.size)).mono ?_
      rintro e w6 ⟨rfl, M⟩
      have hw6 : Wr w6 b _ _ _ := M.kept.wr (hwr1.below B5 hwr1.lt) (by rintro (h | h); exact wr_ne_buf hwr1 ho1 h; exact absurd h (Nat.ne_of_lt hwr1.lt))
      have hM := made_end B5 M hw6 hBb (Nat.le_refl _) hBw1
      rw [← HPRE.out] at hM
      have HE := Lib.hid hM
      have x2 : ∀ x, (w6.alloc x).cell? ⟨b, 2, none⟩ = some (.pointer none) := fun x => (World.cell?_alloc_lt w6 x _ hw6.lt).trans hw6.c2
      have f2 : ∀ x, (w6.alloc x).frozen? ⟨b, 2, none⟩ = false := fun x => by
        have hal := (Below.refl w6.heap.size w6).alloc (Nat.le_refl _) x
        exact (hw6.below hal hw6.lt).f2
      have hlt6 := hw6.lt
      clear M w0 w2 hM 
      go_wp2_with fail
      go_ret2
      exact ⟨_, rfl, HE.out⟩

end Go.Proofs.YtklkgddldndmmaaDoor
