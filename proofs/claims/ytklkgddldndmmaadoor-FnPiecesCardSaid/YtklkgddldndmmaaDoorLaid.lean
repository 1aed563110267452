/- What the listed package variables give a walk, and a start in which they lie as their initialisers lay them. -/
import Derived.Test.YtklkgddldndmmaaDoorKit
import Derived.Test.YtklkgddldndmmaaDoorRows
import Derived.ProofKit
import Derived.Deep.DeepHandedRow
import Derived.Deep.DeepWitnessRowRef
import Derived.LaidLaws
import Derived.Stop.LaidErr
import Derived.OpenShut
namespace Go.Proofs.YtklkgddldndmmaaDoor
open Go.RowKit
set_option maxRecDepth 100000

theorem own : ownKnob Tryd.prog.godebug = none := by kernel_rfl
theorem laidOut : laidOutB Tryd.prog = true := by kernel_rfl
theorem cells5 : Tryd.prog.cellsOf 5 = 1 := by kernel_rfl
theorem cells9 : Tryd.prog.cellsOf 9 = 1 := by kernel_rfl
theorem cells118 : Tryd.prog.cellsOf 118 = 1 := by kernel_rfl
theorem star : "*" ++ "errors.errorString" = "*errors.errorString" := by decide
theorem rowErr (u : TypeId) (hu : Tryd.prog.typeName? 3 u = some "*errors.errorString") : u = 116 :=
  typeName_ptr_named (nm := "errors.errorString") (by rw [star]; kernel_rfl) (by kernel_rfl) (by decide) u (by rw [star]; exact hu)
theorem g0 : Tryd.prog.globalNamed "bytes.ErrTooLarge" = some 0 := by kernel_rfl
theorem gt0 : (Tryd.prog.globals[0]?).map (·.type) = some 61 := by kernel_rfl
theorem g1 : Tryd.prog.globalNamed "io.errInvalidWrite" = some 1 := by kernel_rfl
theorem gt1 : (Tryd.prog.globals[1]?).map (·.type) = some 61 := by kernel_rfl
theorem g2 : Tryd.prog.globalNamed "io.ErrShortWrite" = some 2 := by kernel_rfl
theorem gt2 : (Tryd.prog.globals[2]?).map (·.type) = some 61 := by kernel_rfl
theorem g3 : Tryd.prog.globalNamed "io.EOF" = some 3 := by kernel_rfl
theorem gt3 : (Tryd.prog.globals[3]?).map (·.type) = some 61 := by kernel_rfl

/-- The package's variable (by its number) holds an error that lies at a. -/
def ErrIs (w : World) (g : Nat) (a : Addr) : Prop := w.cell? ⟨g, 0, none⟩ = some (.iface 116 (.pointer (some a))) ∧ ∃ c t, w.heap[a.block]? = some (.cells c t (0, 0))
def ErrAt (w : World) (g : Nat) : Prop := ∃ a, ErrIs w g a
theorem cell_lt {w : World} {a : Addr} {v : Value} (h : w.cell? a = some v) : a.block < w.heap.size := by
  rcases Nat.lt_or_ge a.block w.heap.size with h' | h'
  · exact h'
  · simp [World.cell?, Array.getElem?_eq_none h'] at h
theorem ErrIs.below {w w' : World} {g : Nat} {a : Addr} (h : ErrIs w g a) (hb : Below w.heap.size w w') : ErrIs w' g a := by
  obtain ⟨hc, c, t, ho⟩ := h
  refine ⟨(hb.cell (p := ⟨g, 0, none⟩) (cell_lt hc)).trans hc, c, t, ?_⟩
  rw [hb.block]
  · exact ho
  · rcases Nat.lt_or_ge a.block w.heap.size with h' | h'
    · exact h'
    · rw [Array.getElem?_eq_none h'] at ho; cases ho
theorem ErrAt.below {w w' : World} {g : Nat} (h : ErrAt w g) (hb : Below w.heap.size w w') : ErrAt w' g := by
  obtain ⟨a, h⟩ := h
  exact ⟨a, h.below hb⟩

/-- A list of sentinels, in the row's order, each with its text. -/
theorem head_err {n : String} {text : List UInt8} {r : List (String × DataW Unit)} {W : World} {g : Nat} (h : laidMet Tryd.prog ((n, .iface "*errors.errorString" (.ptr (.agg [.lit (.string text)]))) :: r) W)
    (hg : Tryd.prog.globalNamed n = some g) (ht : (Tryd.prog.globals[g]?).map (·.type) = some 61) : ∃ a s, ErrIs W g a ∧ W.cell? a = some (.string s) ∧ s.data.toList = text := by
  obtain ⟨ps, ⟨g0, t0, cs0, f0, p0, q0, hg0, ht0, hv0, hd0, _, e0⟩, _, hrows⟩ := h
  obtain rfl := Option.some.inj (hg.symm.trans hg0)
  obtain rfl := Option.some.inj (ht.symm.trans ht0)
  subst e0
  obtain ⟨l0⟩ := cs0
  have ok0 : ∀ u v, l0 = [.iface u v] → Value.okWide Tryd.prog W .any 0 u v := fun u v e => by
    subst e
    exact (hrows g 0 (by simp [MemPlace.row])).2 u v (by simpa using World.var?_cell hg0 hv0 0)
  obtain ⟨a, s, rfl, hc, hs, _, hp⟩ := errorString_of_trod Tryd.underlying61 rowErr Tryd.underlying116 Tryd.underlying118 rfl rfl Tryd.underlying9 cells118 cells9 hd0 ok0
  have hcell : W.cell? ⟨g, 0, none⟩ = some (.iface 116 (.pointer (some a))) := by simpa using World.var?_cell hg0 hv0 0
  refine ⟨a, s, ⟨hcell, ?_⟩, hc, hs⟩
  obtain ⟨b, o, sp⟩ := a
  obtain rfl : sp = none := World.cell?_spot hc
  exact (hrows b o (by rw [hp]; simp [MemPlace.row])).1

/-- A []byte that came in: the bytes that it reads as. -/
theorem open_bytes {H : Type} {enc : TypeId × Value → H} {P : Program} {W : World} {T E : TypeId} {a : Option Addr} {len cap : Nat} {d : DataW H} {p : List MemPlace} (ht : P.underlying T = some (.slice E)) (he : P.underlying E = some (.int .u8)) (hc : P.cellsOf E = 1)
    (h : DataW.Trod enc P W 0 (fun _ => true) true T (.slice a len cap) d p) : ∃ l, RdB W W.heap.size a len l ∧ len ≤ cap := by
  obtain ⟨fuel, hf⟩ := h
  rcases ChangeShapes.open_ints ht he hc hf with ⟨hcs, _⟩ | ⟨x, l, c, zs, hcs, _, hl, hm, hz, _, hcell, hwz⟩
  · simp [Value.cells] at hcs
    obtain ⟨rfl, rfl, rfl⟩ := hcs
    exact ⟨[], Rd.none_, Nat.le_refl _⟩
  · simp [Value.cells] at hcs
    obtain ⟨rfl, rfl, rfl⟩ := hcs
    refine ⟨Lib.bytesOf (zs.take len), ?_, hl⟩
    have hz' : zs.length = cap := by simpa using hz
    have hcl : ∀ j u, (Lib.byteCells (Lib.bytesOf (zs.take len)))[j]? = some u → W.cell? (x.add j) = some u := by
      intro j u hu
      have hj : j < len := by
        have := (List.getElem?_eq_some_iff.1 hu).1
        simp [Lib.byteCells, Lib.bytesOf] at this
        omega
      rw [hcell j (by omega)]
      have hw := hwz zs[j] (List.getElem_mem (by omega))
      have hb : 0 ≤ zs[j] ∧ zs[j] ≤ 255 := bounds_u8 hw
      simp [Lib.byteCells, Lib.bytesOf, hj, show j < zs.length by omega] at hu
      rw [← hu]
      simp [List.getD, show j < zs.length by omega]
      omega
    refine Rd.of_cells (by simp [Lib.byteCells, Lib.bytesOf]; omega) (by decide) (fun hn => ?_) hcl
    have h0 := hcell 0 (by omega)
    rw [add_zero] at h0
    exact cell_lt h0

/-- So many blocks has the settled world. -/
noncomputable def low : Nat := (World.holding Tryd.prog default ⟨#[], #[], []⟩).heap.size
/-- The settled world with a block more for each sentinel; the variables lead to them. -/
noncomputable def laidWorld (os : Os) : World :=
  let w0 := World.holding Tryd.prog os ⟨#[.cells #[.string ⟨#[98, 121, 116, 101, 115, 46, 66, 117, 102, 102, 101, 114, 58, 32, 116, 111, 111, 32, 108, 97, 114, 103, 101]⟩] 118, .cells #[.string ⟨#[105, 110, 118, 97, 108, 105, 100, 32, 119, 114, 105, 116, 101, 32, 114, 101, 115, 117, 108, 116]⟩] 118, .cells #[.string ⟨#[115, 104, 111, 114, 116, 32, 119, 114, 105, 116, 101]⟩] 118, .cells #[.string ⟨#[69, 79, 70]⟩] 118], #[], []⟩
  { w0 with heap := ((((w0.heap.modify 0 fun
      | .cells _ t frozen => .cells #[.iface 116 (.pointer (some ⟨low + 0, 0, none⟩))] t frozen
      | o => o).modify 1 fun
      | .cells _ t frozen => .cells #[.iface 116 (.pointer (some ⟨low + 1, 0, none⟩))] t frozen
      | o => o).modify 2 fun
      | .cells _ t frozen => .cells #[.iface 116 (.pointer (some ⟨low + 2, 0, none⟩))] t frozen
      | o => o).modify 3 fun
      | .cells _ t frozen => .cells #[.iface 116 (.pointer (some ⟨low + 3, 0, none⟩))] t frozen
      | o => o) }

end Go.Proofs.YtklkgddldndmmaaDoor
