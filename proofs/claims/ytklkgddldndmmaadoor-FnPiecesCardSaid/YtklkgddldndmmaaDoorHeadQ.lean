/- A header's map under way: what its operations give. -/
import Derived.Test.YtklkgddldndmmaaDoorHeadP
import Derived.Test.YtklkgddldndmmaaDoorSets
import Derived.StringKeys
namespace Go.Proofs.YtklkgddldndmmaaDoor
open Go.RowKit
open Go.ChangeMaps

/-- The map under way. -/
def HMap (mb : Nat) (D : DataW Unit) (n : Nat) (W : World) : Prop := W.ownsMap Tryd.prog 9 encS mb n D

theorem hmap_lookup {mb n : Nat} {es : List (Lit × DataW Unit)} {key : ByteArray} {W : World} (h : HMap mb (.map es) n W) (hk : ∀ p ∈ es, p.1.sameKey (.string key.data.toList) = false) (hs : key.size ≤ maxLen) :
    (Instr.lookup 72 (.map (some mb)) (.string key) false).run Tryd.prog W = .ok (.slice none 0 0) W := by
  obtain ⟨v, ps, hrun, hv⟩ := World.ownsMap.lookup h (Maps.string_keyed Tryd.underlying9) Tryd.underlying72 (Tryd.zeroValue23 W) (zd := .nil) (zp := []) rfl (WideMaps.keyOf_string_mk Tryd.underlying9 hs)
  have hat : (DataW.map es).atKey (.string key.data.toList) (.nil : DataW Unit) = .nil := by
    unfold DataW.atKey
    have : es.find? (fun p => p.1.sameKey (.string key.data.toList)) = none := List.find?_eq_none.2 fun p hp => by rw [hk p hp]; simp
    simp only [this]
  rw [hat] at hv
  rw [encS_nil hv] at hrun
  exact hrun

/-- The world behind a store into the map. -/
noncomputable def putW (mb : Nat) (key : ByteArray) (v : Value) (W : World) : World :=
  match (Instr.mapUpdate 72 (.map (some mb)) (.string key) v).run Tryd.prog W with
  | .ok _ w' => w'
  | _ => W

theorem hmap_update {mb n g m c : Nat} {es : List (Lit × DataW Unit)} {key : ByteArray} {W : World} (h : HMap mb (.map es) n W) (h1 : ∀ p ∈ es, p.1.sameKey (.string key.data.toList) = false) (h2 : ∀ p ∈ es, (Lit.string key.data.toList).before p.1 = false) (hs : key.size ≤ maxLen) (hn : n < maxLen) :
    (Instr.mapUpdate 72 (.map (some mb)) (.string key) (.slice (some ⟨g, 0, none⟩) m c)).run Tryd.prog W = .ok () (putW mb key (.slice (some ⟨g, 0, none⟩) m c) W) ∧
    HMap mb (.map (es ++ [(.string key.data.toList, .agg [.lit (.int .i64 g), .lit (.int .i64 m), .lit (.int .i64 c)])])) (n + 1) (putW mb key (.slice (some ⟨g, 0, none⟩) m c) W) ∧
    W.grownBy (putW mb key (.slice (some ⟨g, 0, none⟩) m c) W) (some mb) := by
  obtain ⟨w', hrun, ho, hg⟩ := World.ownsMap.update h (Maps.string_keyed Tryd.underlying9) Tryd.underlying72 hn (val := .slice (some ⟨g, 0, none⟩) m c) (d := .agg [.lit (.int .i64 g), .lit (.int .i64 m), .lit (.int .i64 c)]) (ps := []) (WideMaps.keyOf_string_mk Tryd.underlying9 hs) rfl
  have hw : putW mb key (.slice (some ⟨g, 0, none⟩) m c) W = w' := by unfold putW; rw [hrun]
  rw [hw]
  rw [put_last es _ _ h1 h2] at ho
  exact ⟨hrun, ho, hg⟩

end Go.Proofs.YtklkgddldndmmaaDoor
