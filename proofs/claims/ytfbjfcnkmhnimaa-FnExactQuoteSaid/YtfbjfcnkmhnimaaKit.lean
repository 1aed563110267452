/- Small lemmas on rows of bytes that a call has made: what 'string(b)' of one gives. No program in sight. -/
import Derived.WalkKit
import Derived.WalkSpells
import Derived.Laws.IdiomStrings
import Derived.Lib.BufferRead
import Derived.Maps.AppendAt
namespace Go.Proofs.Ytfbjfcnkmhnimaa
open Go.RowKit

theorem conv_own {P : Program} {w : World} {base : Nat} {src dst e : TypeId} {v : Value} {l : List UInt8} (hs : P.underlying src = some (.slice e)) (he : P.underlying e = some (.int .u8)) (hd : P.underlying dst = some .string)
    (hown : w.ownsRow base e 1 v l.length (Lib.byteCells l)) : (convert src dst v).run P w = .ok (.string ⟨l.toArray⟩) w := by
  rcases hown.2 with ⟨rfl, h0⟩ | ⟨g, cap, cur, rfl, h1, h2, h3, h4, h5, h6⟩
  · obtain rfl : l = [] := List.eq_nil_of_length_eq_zero h0
    exact Lib.run_convert_nil_bytes w src dst e 0 hs he hd
  · exact run_convert_bytes_back w src dst e ⟨g, 0, none⟩ cap l hs he hd (fun j hj => hown.cells (g := g) rfl j _ (by simp [Lib.byteCells, hj]))

theorem byteCells_one (l : List UInt8) : ∀ u ∈ Lib.byteCells l, u.oneCell' = true := by
  intro u hu
  obtain ⟨_, _, rfl⟩ := List.mem_map.1 hu
  rfl
theorem byteCells_snoc (l : List UInt8) (c : UInt8) : Lib.byteCells l ++ [.int .u8 (c.toNat : Int)] = Lib.byteCells (l ++ [c]) := by simp [Lib.byteCells]

end Go.Proofs.Ytfbjfcnkmhnimaa
