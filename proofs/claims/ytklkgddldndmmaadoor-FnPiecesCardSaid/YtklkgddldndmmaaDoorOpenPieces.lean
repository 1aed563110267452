/- A header and pieces that came in. -/
import Derived.Test.YtklkgddldndmmaaDoorOpen
import Derived.Test.YtklkgddldndmmaaDoorPiecesLaw
namespace Go.Proofs.YtklkgddldndmmaaDoor
open Go.RowKit Go.ChangeShapes Go.WideShapes Go.Deep
set_option linter.unusedVariables false
section
variable {H : Type} {enc : TypeId × Value → H} {w : World} {fuel n c : Nat} {A : Option Addr} {d : DataW H} {p : List MemPlace}
theorem open_harg (h : DataW.trod enc Tryd.prog w 0 (fun _ => true) true fuel 39 (Value.slice A n c).cells.toList = some (d, p)) :
    ∃ hs : HdrL, RdH w w.heap.size A n hs ∧ n ≤ c ∧ c ≤ maxLen ∧ ∀ h ∈ hs, h.2.length ≤ maxLen := by
  obtain ⟨A', n', c', e, hs, h1, h2, h3, h4, _⟩ := open_hdrs (v := .slice A n c) h
  injection e with e1 e2 e3
  subst e1 e2 e3
  exact ⟨hs, h1, h2, h3, h4⟩
theorem open_larg (h : DataW.trod enc Tryd.prog w 0 (fun _ => true) true fuel 43 (Value.slice A n c).cells.toList = some (d, p)) :
    ∃ bs : List (List UInt8), RdL w w.heap.size A n bs ∧ n ≤ maxLen := by
  rcases open_slice Tryd.underlying43 h with ⟨hcs, hx⟩ | ⟨a, len, cap, m, n', D, Pl, hcs, hb, hl, hm, hmm, hx, hi⟩
  · simp [Value.cells] at hcs
    obtain ⟨rfl, rfl, rfl⟩ := hcs
    exact ⟨[], ⟨rfl, fun h => absurd h (by omega)⟩, Nat.zero_le _⟩
  · simp [Value.cells] at hcs
    obtain ⟨rfl, rfl, rfl⟩ := hcs
    obtain ⟨bs, hlen, hp⟩ := choose_list (α := List UInt8) (P := fun i l => ∃ Ab nb cb, w.cell? (a.add (i * 1 + 0)) = some (.slice Ab nb cb) ∧ RdB w w.heap.size Ab nb l) n (fun i hil => by
      obtain ⟨cs', hc, ht'⟩ := hi i (by rw [hmm]; simp; omega)
      rw [cells31] at hc
      obtain ⟨_, hcl, hat⟩ := World.cells?_some hc
      have hcell := hat 0 (by omega)
      obtain ⟨v, rfl⟩ : ∃ v, cs' = [v] := List.length_eq_one_iff.1 (by simpa using hcl)
      obtain ⟨Ab, nb, cb, rfl, l, h1, _⟩ := open_byts ht'
      refine ⟨l, Ab, nb, cb, ?_, h1⟩
      rw [← Go.Deep.add_add, hcell]
      rfl)
    refine ⟨bs, ⟨hlen, fun hn => ?_⟩, by omega⟩
    obtain ⟨x, hx⟩ : ∃ x, bs[0]? = some x := ⟨_, List.getElem?_eq_getElem (by omega)⟩
    obtain ⟨Ab, nb, cb, c0, _⟩ := hp 0 x hx
    have hsp := at_spot c0
    have hlt := cell_lt c0
    obtain ⟨b, o, s⟩ := a
    obtain rfl : s = none := hsp
    rw [block_add] at hlt
    refine ⟨b, o, rfl, hlt, fun i x hx => ?_⟩
    obtain ⟨Ab, nb, cb, c0, h1⟩ := hp i x hx
    rw [Addr.add_lit, Nat.mul_one, Nat.add_zero] at c0
    exact ⟨Ab, nb, cb, c0, h1⟩
end
end Go.Proofs.YtklkgddldndmmaaDoor
