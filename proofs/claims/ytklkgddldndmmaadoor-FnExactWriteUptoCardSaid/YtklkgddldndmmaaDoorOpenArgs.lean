/- A list of parts that came in, where what is read is small: what the laws ask of it. -/
import Derived.Test.YtklkgddldndmmaaDoorOpen
import Derived.Test.YtklkgddldndmmaaDoorAppendLaw
namespace Go.Proofs.YtklkgddldndmmaaDoor
open Go.RowKit
/-- The parts that a reading gives. -/
noncomputable def partsOf (w : World) (A : Option Addr) (n c : Nat) : List PartL := Classical.epsilon fun ps => Args w A n c ps
theorem open_args {H : Type} {enc : TypeId × Value → H} {w : World} {fuel n c : Nat} {A : Option Addr} {d : DataW H} {p : List MemPlace} (hb : Rows.uptoBulk d ≤ 1048576) (h : DataW.trod enc Tryd.prog w 0 (fun _ => true) true fuel 28 (Value.slice A n c).cells.toList = some (d, p)) :
    Args w A n c (partsOf w A n c) ∧ n ≤ 1048576 := by
  obtain ⟨A', n', c', e, ps, h1, _, _, h4, h5⟩ := open_parts (v := .slice A n c) h
  injection e with e1 e2 e3
  subst e1 e2 e3
  have h5' : n ≤ Rows.uptoBulk d := h5
  refine ⟨Classical.epsilon_spec (p := fun ps => Args w A n c ps) ⟨ps, h1, by omega, fun p hp => ?_⟩, by omega⟩
  obtain ⟨g1, g2, g3⟩ := h4 p hp
  exact ⟨g1, g2, Nat.le_trans g3 hb⟩
end Go.Proofs.YtklkgddldndmmaaDoor
