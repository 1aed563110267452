/- What impl.Write writes, the state of a Writer between two parts, and CreatePart in that state. -/
import Derived.Test.YtklkgddldndmmaaDoorCMapB
import Derived.Test.YtklkgddldndmmaaDoorCMapC
import Derived.Test.YtklkgddldndmmaaDoorOldA
namespace Go.Proofs.YtklkgddldndmmaaDoor
open Go.RowKit
set_option linter.unusedVariables false
set_option linter.unusedSimpArgs false

/-! ### The text of parts -/
abbrev HdrL := List (ByteArray × List ByteArray)
abbrev PartL := HdrL × List UInt8
def partT (p : PartL) : List UInt8 := headT p.1 ++ crlf ++ p.2
def sepT (k : Nat) : List UInt8 := if k = 0 then [] else crlf
def delimT (bd : List UInt8) : List UInt8 := dashes ++ bd ++ crlf
def closeT (bd : List UInt8) : List UInt8 := crlf ++ dashes ++ bd ++ dashes ++ crlf
/-- Parts behind k others. -/
def bodyFrom (bd : List UInt8) (k : Nat) : List PartL → List UInt8
  | [] => []
  | p :: r => sepT k ++ delimT bd ++ partT p ++ bodyFrom bd (k + 1) r
def bodyT (bd : List UInt8) (ps : List PartL) : List UInt8 := bodyFrom bd 0 ps
def writeT (bd : List UInt8) (ps : List PartL) : List UInt8 := bodyT bd ps ++ closeT bd

theorem bodyFrom_snoc (bd : List UInt8) : ∀ (ps : List PartL) (k : Nat) (p : PartL), bodyFrom bd k (ps ++ [p]) = bodyFrom bd k ps ++ (sepT (k + ps.length) ++ delimT bd ++ partT p)
  | [], k, p => by simp [bodyFrom]
  | q :: r, k, p => by
    simp only [List.cons_append, bodyFrom, bodyFrom_snoc bd r (k + 1) p, List.length_cons]
    rw [show k + 1 + r.length = k + (r.length + 1) by omega]
    simp only [List.append_assoc]
theorem bodyT_snoc (bd : List UInt8) (ps : List PartL) (p : PartL) : bodyT bd (ps ++ [p]) = bodyT bd ps ++ (sepT ps.length ++ delimT bd ++ partT p) := by
  unfold bodyT
  rw [bodyFrom_snoc, Nat.zero_add]
theorem bodyFrom_app (bd : List UInt8) : ∀ (a b : List PartL) (k : Nat), bodyFrom bd k (a ++ b) = bodyFrom bd k a ++ bodyFrom bd (k + a.length) b
  | [], b, k => by simp [bodyFrom]
  | q :: r, b, k => by
    simp only [List.cons_append, bodyFrom, bodyFrom_app bd r b (k + 1), List.length_cons]
    rw [show k + 1 + r.length = k + (r.length + 1) by omega]
    simp only [List.append_assoc]
theorem bodyT_take (bd : List UInt8) (ps : List PartL) (k : Nat) : (bodyT bd (ps.take k)).length ≤ (bodyT bd ps).length := by
  have h := congrArg (fun l => (bodyT bd l).length) (List.take_append_drop k ps)
  unfold bodyT at h ⊢
  simp only [bodyFrom_app, List.length_append] at h
  omega
/-- So far is no longer than the whole. -/
theorem body_len (bd : List UInt8) {ps : List PartL} {k : Nat} {p : PartL} (hp : ps[k]? = some p) : (bodyT bd (ps.take k)).length + (headT p.1).length + p.2.length ≤ (bodyT bd ps).length := by
  have h1 := bodyT_take bd ps (k + 1)
  rw [take_at hp, bodyT_snoc, List.length_append] at h1
  simp only [List.length_append, partT] at h1
  omega

/-! ### What is read -/
theorem RdH.below {w w' : World} {B : Nat} {A : Option Addr} {n : Nat} {hs : HdrL} (h : RdH w B A n hs) (hb : Below B w w') : RdH w' B A n hs :=
  ⟨h.1, fun hn => by
    obtain ⟨b, o, e, hB, hc⟩ := h.2 hn
    refine ⟨b, o, e, hB, fun i x hx => ?_⟩
    obtain ⟨c1, Av, nv, cv, c2, hv⟩ := hc i x hx
    exact ⟨(hb.cell (p := ⟨b, o + i * 2, none⟩) hB).trans c1, Av, nv, cv, (hb.cell (p := ⟨b, o + i * 2 + 1, none⟩) hB).trans c2, hv.below hb⟩⟩
theorem RdH.more {w : World} {B B' : Nat} {A : Option Addr} {n : Nat} {hs : HdrL} (h : RdH w B A n hs) (hB : B ≤ B') : RdH w B' A n hs :=
  ⟨h.1, fun hn => by
    obtain ⟨b, o, e, hb, hc⟩ := h.2 hn
    refine ⟨b, o, e, by omega, fun i x hx => ?_⟩
    obtain ⟨c1, Av, nv, cv, c2, hv⟩ := hc i x hx
    exact ⟨c1, Av, nv, cv, c2, hv.more hB⟩⟩

/-- A []Part that reads as a list of parts. -/
def RdP (w : World) (B : Nat) (A : Option Addr) (n : Nat) (ps : List PartL) : Prop :=
  ps.length = n ∧ (0 < n → ∃ b o, A = some ⟨b, o, none⟩ ∧ b < B ∧ ∀ (i : Nat) p, ps[i]? = some p → ∃ Ah nh ch Ab nb cb, w.cell? ⟨b, o + i * 2, none⟩ = some (.slice Ah nh ch) ∧ w.cell? ⟨b, o + i * 2 + 1, none⟩ = some (.slice Ab nb cb) ∧ RdH w B Ah nh p.1 ∧ RdB w B Ab nb p.2)
theorem RdP.below {w w' : World} {B : Nat} {A : Option Addr} {n : Nat} {ps : List PartL} (h : RdP w B A n ps) (hb : Below B w w') : RdP w' B A n ps :=
  ⟨h.1, fun hn => by
    obtain ⟨b, o, e, hB, hc⟩ := h.2 hn
    refine ⟨b, o, e, hB, fun i x hx => ?_⟩
    obtain ⟨Ah, nh, ch, Ab, nb, cb, c1, c2, h1, h2⟩ := hc i x hx
    exact ⟨Ah, nh, ch, Ab, nb, cb, (hb.cell (p := ⟨b, o + i * 2, none⟩) hB).trans c1, (hb.cell (p := ⟨b, o + i * 2 + 1, none⟩) hB).trans c2, h1.below hb, h2.below hb⟩⟩
theorem RdP.more {w : World} {B B' : Nat} {A : Option Addr} {n : Nat} {ps : List PartL} (h : RdP w B A n ps) (hB : B ≤ B') : RdP w B' A n ps :=
  ⟨h.1, fun hn => by
    obtain ⟨b, o, e, hb, hc⟩ := h.2 hn
    refine ⟨b, o, e, by omega, fun i x hx => ?_⟩
    obtain ⟨Ah, nh, ch, Ab, nb, cb, c1, c2, h1, h2⟩ := hc i x hx
    exact ⟨Ah, nh, ch, Ab, nb, cb, c1, c2, h1.more hB, h2.more hB⟩⟩

/-- Parts that may be walked. -/
structure Fit (p : PartL) : Prop where
  asc : Asc p.1
  len : p.1.length ≤ 1000
  txt : (headT p.1).length ≤ 200000

/-! ### A Writer between two parts -/
structure WSt (B bb b : Nat) (bd : ByteArray) (k : Nat) (o : List UInt8) (M : Nat) (w : World) : Prop where
  buf : Buf w B bb o
  low : B ≤ b ∧ bb < M ∧ b < M
  wr : (k = 0 ∧ Wr w b (.iface 55 (.pointer (some ⟨bb, 0, none⟩))) bd none) ∨ (0 < k ∧ ∃ p, Wr w b (.iface 55 (.pointer (some ⟨bb, 0, none⟩))) bd (some ⟨p, 0, none⟩) ∧ Pt w p b false ∧ B ≤ p ∧ p < M)

theorem WSt.below {B bb b : Nat} {bd : ByteArray} {k : Nat} {o : List UInt8} {M : Nat} {w w' : World} (h : WSt B bb b bd k o M w) (hb : Below w.heap.size w w') : WSt B bb b bd k o M w' := by
  refine ⟨h.buf.old hb, h.low, ?_⟩
  rcases h.wr with ⟨h0, hw⟩ | ⟨h0, p, hw, hp, hB, hM⟩
  · exact .inl ⟨h0, hw.below hb hw.lt⟩
  · exact .inr ⟨h0, p, hw.below hb hw.lt, (hb.block p hp.lt).trans hp, hB, hM⟩

/-- CreatePart leads to a part p'; nothing that stood from M on has turned. -/
structure Next (B bb b : Nat) (bd : ByteArray) (o : List UInt8) (M : Nat) (w : World) (p' : Nat) (w' : World) : Prop where
  made : Made B bb b (.iface 55 (.pointer (some ⟨bb, 0, none⟩))) bd o w p' w'
  kept : Kept (fun k => k < M) w w'

theorem create_any {B bb b : Nat} {bd : ByteArray} {k : Nat} {o : List UInt8} {M mb n : Nat} {hs : HdrL} {gs : List (Nat × Nat)} {w : World} (h : WSt B bb b bd k o M w) (hh : HOk mb hs n gs w) (ha : Asc hs) (hn : n ≤ 1000) (hl : (headT hs).length ≤ 200000) (hBw : B ≤ w.heap.size) (hbd : bd.size ≤ 1000) (hlim : o.length ≤ 140737488000000) :
    Calls Tryd.prog 31 #[.pointer (some ⟨b, 0, none⟩), .map (some mb)] w fun e w' => ∃ p', e = .returned (.tuple #[.iface 93 (.pointer (some ⟨p', 0, none⟩)), .nilIface]) ∧ Next B bb b bd (o ++ (sepT k ++ delimT bd.data.toList ++ headT hs ++ crlf)) M w p' w' := by
  rcases h.wr with ⟨rfl, hw⟩ | ⟨h0, p, hw, hp, hB, hM⟩
  · refine (create_map_first B bb b mb n bd o hs gs w h.buf hw hh ha hn hl h.low.1 hBw hbd hlim).mono ?_
    rintro e w' ⟨p', rfl, m, hk⟩
    refine ⟨p', rfl, ?_, hk.mono ?_⟩
    · rw [show sepT 0 = [] from rfl, List.nil_append]
      exact m
    · rintro i (rfl | rfl)
      · exact h.low.2.1
      · exact h.low.2.2
  · refine (create_map_next B bb b p mb n false bd o hs gs w h.buf hw hp hh ha hn hl h.low.1 hB hBw hbd hlim).mono ?_
    rintro e w' ⟨p', rfl, m, _, hk⟩
    refine ⟨p', rfl, ?_, hk.mono ?_⟩
    · rw [show sepT k = crlf by unfold sepT; rw [if_neg (by omega)]]
      unfold delimT
      simpa only [List.append_assoc] using m
    · rintro i (rfl | rfl | rfl)
      · exact h.low.2.1
      · exact h.low.2.2
      · exact hM

/-- Behind a Write of the part. -/
theorem Next.st {B bb b : Nat} {bd : ByteArray} {o : List UInt8} {M p' : Nat} {w w' w2 : World} (h : Next B bb b bd o M w p' w') (k : Nat) {l : List UInt8} (hBw : B ≤ w.heap.size) (hBb : B ≤ b) (hb2 : Buf w2 B bb l) (hk : Kept (fun k => k = bb) w' w2) {M' : Nat} (hM : w'.heap.size ≤ M') : WSt B bb b bd (k + 1) l M' w2 :=
  ⟨hb2, ⟨hBb, by have := h.made.buf.lt; omega, by have := h.made.wr.lt; omega⟩, .inr ⟨by omega, p', hk.wr h.made.wr (wr_ne_buf h.made.wr h.made.buf), hk.pt h.made.pt (pt_ne_buf h.made.pt h.made.buf), Nat.le_trans hBw h.made.new, by have := h.made.pt.lt; omega⟩⟩

theorem bytes_cap (B b : Nat) (l : List UInt8) (w : World) (h : Buf w B b l) (h0 : l ≠ []) :
    ∃ g c, (∀ n, Calls Tryd.prog 38 #[.pointer (some ⟨b, 0, none⟩)] (w.drewN n) fun e w' => e = .returned (.slice (some ⟨g, 0, none⟩) l.length c) ∧ ∃ q, w' = (w.drewN n).drewN q) ∧ RdB w w.heap.size (some ⟨g, 0, none⟩) l.length l ∧ l.length ≤ c := by
  obtain ⟨g, cap, lr, hb, _, _, hle, hcm, ⟨cur, hg⟩, hc⟩ := h.row h0
  unfold maxLen at hcm
  exact ⟨g, cap, fun n => bytes_core b g l.length cap _ (w.drewN n) hb hle (List.length_pos_iff.2 h0) (by omega), ⟨by rw [bc_len]; simp, fun _ => ⟨g, 0, rfl, (Array.getElem?_eq_some_iff.1 hg).1, hc⟩⟩, hle⟩

end Go.Proofs.YtklkgddldndmmaaDoor
