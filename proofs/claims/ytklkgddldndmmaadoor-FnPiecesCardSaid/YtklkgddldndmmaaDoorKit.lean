/- Lemmas on slices that read as lists of cells, and on rows that a call has made. No program in sight. -/
import Derived.WalkKit
import Derived.WalkSpells
import Derived.WalkLawsBesides
import Derived.Lib.Hide
import Derived.Laws.IdiomStrings
import Derived.Lib.BufferRead
import Derived.Maps.AppendAt
import Derived.Deep.AppendLies
import Derived.Deep.Draws
import Derived.RegionTactic
import Derived.ChangeAlike
import Derived.Deep.QuietTactic
import Derived.BigQuiet
import Derived.Deep.LoopGhost
import Derived.Deep.DeepFit
import Derived.Deep.DeepMust
import Derived.Laws.OwnMore
import Derived.Deep.AppendLies
import Derived.Lib.Strings
import Derived.Lib.Bytes
namespace Go.Proofs.YtklkgddldndmmaaDoor
open Go.RowKit

/-! ### Endings -/
theorem ret_int {k : IntKind} {a b : Int} (h : a = b) : Ending.returned (.int k a) = .returned (.int k b) := by rw [h]
theorem ret_bool {a b : Bool} (h : a = b) : Ending.returned (.bool a) = Ending.returned (.bool b) := by rw [h]
theorem ret_str {a b : List UInt8} (h : a = b) : Ending.returned (.string ⟨a.toArray⟩) = Ending.returned (.string ⟨b.toArray⟩) := by rw [h]

/-! ### Bytes -/
theorem u8_eq {c : UInt8} {n : Nat} (hn : n < 256) (h : (c.toNat : Int) = n) : c = UInt8.ofNat n := by
  apply UInt8.toNat_inj.1
  rw [UInt8.toNat_ofNat', Nat.mod_eq_of_lt (by simpa using hn)]
  omega
theorem u8_ne {c : UInt8} {n : Nat} (hn : n < 256) (h : ¬ (c.toNat : Int) = n) : c ≠ UInt8.ofNat n := by
  rintro rfl
  apply h
  rw [UInt8.toNat_ofNat', Nat.mod_eq_of_lt (by simpa using hn)]
theorem u8_lt (c : UInt8) : (c.toNat : Int) < 256 := by have := c.toNat_lt; omega
theorem bc_get {l : List UInt8} {k : Nat} {c : UInt8} (h : l[k]? = some c) : (Lib.byteCells l)[k]? = some (.int .u8 (c.toNat : Int)) := by simp [Lib.byteCells, h]
theorem bc_len (l : List UInt8) : (Lib.byteCells l).length = l.length := by simp [Lib.byteCells]
theorem bc_one (l : List UInt8) : ∀ u ∈ Lib.byteCells l, u.oneCell' = true := by
  intro u hu
  obtain ⟨_, _, rfl⟩ := List.mem_map.1 hu
  rfl
theorem bc_snoc (l : List UInt8) (c : UInt8) : Lib.byteCells l ++ [.int .u8 (c.toNat : Int)] = Lib.byteCells (l ++ [c]) := by simp [Lib.byteCells]
theorem bc_drop (l : List UInt8) (k : Nat) : (Lib.byteCells l).drop k = Lib.byteCells (l.drop k) := by simp [Lib.byteCells, List.map_drop]
theorem bc_take (l : List UInt8) (k : Nat) : (Lib.byteCells l).take k = Lib.byteCells (l.take k) := by simp [Lib.byteCells, List.map_take]
theorem size_list (l : List UInt8) : (⟨l.toArray⟩ : ByteArray).size = l.length := by simp [ByteArray.size]
theorem take_snoc (s : ByteArray) (k : Nat) (h : k < s.size) : s.data.toList.take (k + 1) = s.data.toList.take k ++ [s[k]] := by
  rw [List.take_succ_eq_append_getElem (by simpa using h)]; rfl
theorem take_snocL {α : Type} (l : List α) (k : Nat) (h : k < l.length) : l.take (k + 1) = l.take k ++ [l[k]] := by
  rw [List.take_succ_eq_append_getElem h]

/-! ### Addresses -/
theorem block_add (a : Addr) (n : Nat) : (a.add n).block = a.block := by unfold Addr.add; split <;> rfl
theorem add_twice (a : Addr) (i j : Nat) : (a.add i).add j = a.add (i + j) := by
  unfold Addr.add
  by_cases hi : i = 0 <;> by_cases hj : j = 0 <;> simp [hi, hj, Nat.add_assoc]
theorem add_zero (a : Addr) : a.add 0 = a := by cases a; simp [Addr.add]
theorem map_add_zero' (p : Option Addr) : Option.map (fun x : Addr => x.add 0) p = p := by cases p <;> simp [add_zero]

/-! ### A slice (its address, its number of elements of 'size' cells) that reads as the cells xs, below block B -/
def Rd (w : World) (B size : Nat) (A : Option Addr) (n : Nat) (xs : List Value) : Prop :=
  xs.length = n * size ∧ (0 < n → ∃ b o, A = some ⟨b, o, none⟩ ∧ b < B ∧ ∀ j u, xs[j]? = some u → w.cell? ⟨b, o + j, none⟩ = some u)

section
variable {w w' : World} {B B' size n : Nat} {A : Option Addr} {xs : List Value}
theorem Rd.none_ : Rd w B size A 0 [] := ⟨by simp, fun h => absurd h (by omega)⟩
theorem Rd.keep (h : Rd w B size A n xs) (hk : ∀ p : Addr, p.block < B → w'.cell? p = w.cell? p) : Rd w' B size A n xs :=
  ⟨h.1, fun hn => by
    obtain ⟨b, o, e, hb, hc⟩ := h.2 hn
    exact ⟨b, o, e, hb, fun j u hu => (hk _ hb).trans (hc j u hu)⟩⟩
theorem Rd.more (h : Rd w B size A n xs) (hB : B ≤ B') : Rd w B' size A n xs :=
  ⟨h.1, fun hn => by
    obtain ⟨b, o, e, hb, hc⟩ := h.2 hn
    exact ⟨b, o, e, by omega, hc⟩⟩
theorem Rd.below (h : Rd w B size A n xs) (hb : Below B w w') : Rd w' B size A n xs := h.keep fun _ hp => hb.cell hp
theorem Rd.drewN (h : Rd w B size A n xs) (k : Nat) : Rd (w.drewN k) B size A n xs := h
theorem Rd.alloc (h : Rd w B size A n xs) (hB : B ≤ w.heap.size) (o : Obj) : Rd (w.alloc o) B size A n xs := h.keep fun p hp => World.cell?_alloc_lt w o p (by omega)
theorem Rd.setCell (h : Rd w B size A n xs) {p : Addr} (hB : B ≤ p.block) (u : Value) : Rd (w.setCell p u) B size A n xs :=
  h.keep fun q hq => World.cell?_setCell_other w p q u (fun e => by subst e; omega)
theorem Rd.grown (h : Rd w B size A n xs) {row : Option Nat} (hg : w.grownBy w' row) (hB : B ≤ w.heap.size) (hr : ∀ g, row = some g → B ≤ g) : Rd w' B size A n xs :=
  h.keep fun p hp => World.cell?_of_block (hg.block p.block (by omega) (fun e => by have := hr _ e.symm; omega))
theorem Rd.cut (h : Rd w B size A n xs) {k cap : Nat} (hk : k ≤ n) (hc : n ≤ cap) :
    Rd w B size (if cap = k then A else A.map (·.add (k * size))) (n - k) (xs.drop (k * size)) := by
  refine ⟨by rw [List.length_drop, h.1, Nat.sub_mul], fun hn => ?_⟩
  obtain ⟨b, o, rfl, hb, hcell⟩ := h.2 (by omega)
  rw [if_neg (by omega)]
  refine ⟨b, o + k * size, ?_, hb, fun j u hu => ?_⟩
  · simp [Addr.add]
  · rw [Nat.add_assoc]
    exact hcell _ u (by rw [← hu, List.getElem?_drop])
theorem Rd.take (h : Rd w B size A n xs) {k : Nat} (hk : k ≤ n) : Rd w B size A k (xs.take (k * size)) := by
  refine ⟨by rw [List.length_take, h.1, Nat.min_eq_left (Nat.mul_le_mul_right _ hk)], fun hn => ?_⟩
  obtain ⟨b, o, rfl, hb, hcell⟩ := h.2 (by omega)
  refine ⟨b, o, rfl, hb, fun j u hu => hcell j u ?_⟩
  rw [List.getElem?_take] at hu
  split at hu
  · exact hu
  · cases hu
theorem Rd.of_own {base : Nat} {e : TypeId} {c : Nat} (h : w.ownsRow base e size (.slice A n c) n xs) : Rd w w.heap.size size A n xs := by
  refine ⟨h.1, fun hn => ?_⟩
  obtain ⟨g, cap, hv, _, hlt⟩ := h.form hn
  have hA : A = some ⟨g, 0, none⟩ := by injection hv
  subst hA
  refine ⟨g, 0, rfl, hlt, fun j u hu => ?_⟩
  have := h.cells (g := g) rfl j u hu
  rwa [Addr.add_lit] at this
/-- Out of the cells as they are opened: an address of whatever spot. -/
theorem Rd.of_cells {ad : Addr} (hl : xs.length = n * size) (hs : 0 < size) (hb : 0 < n → ad.block < B) (hc : ∀ j u, xs[j]? = some u → w.cell? (ad.add j) = some u) : Rd w B size (some ad) n xs := by
  refine ⟨hl, fun hn => ?_⟩
  have h0 : 0 < xs.length := by rw [hl]; exact Nat.mul_pos hn hs
  have h1 := hc 0 _ (List.getElem?_eq_getElem h0)
  obtain ⟨b, o, sp⟩ := ad
  rw [add_zero] at h1
  obtain rfl : sp = none := World.cell?_spot h1
  exact ⟨b, o, rfl, hb hn, fun j u hu => by have := hc j u hu; rwa [Addr.add_lit] at this⟩
end

/-- A slice of bytes that reads as the list l. -/
abbrev RdB (w : World) (B : Nat) (A : Option Addr) (n : Nat) (l : List UInt8) : Prop := Rd w B 1 A n (Lib.byteCells l)

theorem RdB.len {w : World} {B : Nat} {A : Option Addr} {n : Nat} {l : List UInt8} (h : RdB w B A n l) : l.length = n := by have := h.1; rw [bc_len] at this; omega
theorem RdB.at_ {w : World} {B : Nat} {A : Option Addr} {n k : Nat} {l : List UInt8} (h : RdB w B A n l) (hk : k < n) :
    ∃ b o c, A = some ⟨b, o, none⟩ ∧ b < B ∧ l[k]? = some c ∧ w.cell? ⟨b, o + k, none⟩ = some (.int .u8 (c.toNat : Int)) := by
  obtain ⟨b, o, e, hb, hc⟩ := h.2 (by omega)
  have hl := h.len
  exact ⟨b, o, l[k], e, hb, List.getElem?_eq_getElem (by omega), hc k _ (bc_get (List.getElem?_eq_getElem (by omega)))⟩
theorem RdB.cut {w : World} {B : Nat} {A : Option Addr} {n k cap : Nat} {l : List UInt8} (h : RdB w B A n l) (hk : k ≤ n) (hc : n ≤ cap) :
    RdB w B (if cap = k then A else A.map (·.add k)) (n - k) (l.drop k) := by
  have := Rd.cut h hk hc
  rw [bc_drop] at this
  simpa using this
theorem RdB.take {w : World} {B : Nat} {A : Option Addr} {n k : Nat} {l : List UInt8} (h : RdB w B A n l) (hk : k ≤ n) : RdB w B A k (l.take k) := by
  have := Rd.take h hk
  rwa [Nat.mul_one, bc_take] at this

/-- 'string(b)'. -/
theorem RdB.conv {P : Program} {w : World} {B : Nat} {A : Option Addr} {n : Nat} {l : List UInt8} (h : RdB w B A n l) {src dst e : TypeId} (hs : P.underlying src = some (.slice e)) (he : P.underlying e = some (.int .u8)) (hd : P.underlying dst = some .string) (c : Nat) :
    (convert src dst (.slice A n c)).run P w = .ok (.string ⟨l.toArray⟩) w := by
  have hl := h.len
  subst hl
  by_cases h0 : 0 < l.length
  · obtain ⟨b, o, rfl, _, hc⟩ := h.2 h0
    exact run_convert_bytes_back w src dst e ⟨b, o, none⟩ c l hs he hd (fun j hj => by rw [Addr.add_lit]; exact hc j _ (bc_get (List.getElem?_eq_getElem hj)))
  · obtain rfl : l = [] := List.eq_nil_of_length_eq_zero (by omega)
    rw [List.length_nil, run_convert_bytes_string w src dst e A 0 c hs he hd]
    cases A <;> simp [Conv.bytesToString, loadCells]
    all_goals rfl

theorem conv_own {P : Program} {w : World} {base : Nat} {src dst e : TypeId} {v : Value} {l : List UInt8} (hs : P.underlying src = some (.slice e)) (he : P.underlying e = some (.int .u8)) (hd : P.underlying dst = some .string)
    (hown : w.ownsRow base e 1 v l.length (Lib.byteCells l)) : (convert src dst v).run P w = .ok (.string ⟨l.toArray⟩) w := by
  rcases hown.2 with ⟨rfl, h0⟩ | ⟨g, cap, cur, rfl, h1, h2, h3, h4, h5, h6⟩
  · obtain rfl : l = [] := List.eq_nil_of_length_eq_zero h0
    exact Lib.run_convert_nil_bytes w src dst e 0 hs he hd
  · exact run_convert_bytes_back w src dst e ⟨g, 0, none⟩ cap l hs he hd (fun j hj => hown.cells (g := g) rfl j _ (bc_get (List.getElem?_eq_getElem hj)))

/-! ### append onto a row of the call's own, the source nil, empty or not -/
section
variable {P : Program} (w : World)
theorem run_append_of_nil (base : Nat) (t ty e : TypeId) (i : TypeInfo) (size : Nat) (ht : P.underlying t = some (.slice e)) (hi : P.info? e = some i)
    (v : Value) (n : Nat) (xs : List Value) (hown : w.ownsRow base e size v n xs) (A : Option Addr) (c : Nat) : (Builtin.append_ #[t, t] ty #[v, .slice A 0 c]).run P w = .ok v w := by
  rcases hown.2 with ⟨rfl, rfl⟩ | ⟨g, cap, cur, rfl, _, _, hnc, _⟩
  · cases A <;> simp [Builtin.append_, run_underlying ht, sizeOf, typeInfo, hi, Builtin.lenOf, Builtin.firstCells, loadCells, loadCellsFrom]
  · cases A <;> simp [Builtin.append_, run_underlying ht, sizeOf, typeInfo, hi, Builtin.lenOf, Builtin.firstCells, hnc, storeCells, loadCells, loadCellsFrom]

theorem run_append_any (base : Nat) (t ty e : TypeId) (i : TypeInfo) (z : Value) (size bytes : Nat) (ht : P.underlying t = some (.slice e)) (hi : P.info? e = some i) (hz : i.zero = some z)
    (hsize : i.size = size) (hby : i.bytes = bytes) (hzs : z.cells.size = size) (hsz : 0 < size)
    (v : Value) (n : Nat) (xs : List Value) (hown : w.ownsRow base e size v n xs)
    (B : Nat) (A : Option Addr) (m c : Nat) (news : List Value) (hr : Rd w B size A m news) (h1 : ∀ u ∈ news, u.oneCell' = true)
    (h63 : n + m ≤ maxLen) (hbytes : (n + m) * bytes ≤ 140737488355328) (hbase : base ≤ w.heap.size) :
    ∃ v' w', (Builtin.append_ #[t, t] ty #[v, .slice A m c]).run P w = .ok v' w' ∧ w'.ownsRow base e size v' (n + m) (xs ++ news) ∧ w.grownBy w' v.ownBlock ∧
      (v'.ownBlock = v.ownBlock ∨ v'.ownBlock = some w.heap.size) ∧ ∃ A' c', v' = .slice A' (n + m) c' := by
  have hform : ∀ {w' : World} {v' : Value} {k : Nat} {ys : List Value}, w'.ownsRow base e size v' k ys → ∃ A' c', v' = .slice A' k c' := by
    intro w' v' k ys h
    rcases h.2 with ⟨rfl, rfl⟩ | ⟨g, cap, cur, rfl, _⟩
    · exact ⟨_, _, rfl⟩
    · exact ⟨_, _, rfl⟩
  rcases Nat.eq_zero_or_pos m with h0 | h0
  · subst h0
    have hn : news = [] := List.eq_nil_of_length_eq_zero (by simpa using hr.1)
    subst hn
    have ho : w.ownsRow base e size v (n + 0) (xs ++ []) := by simpa using hown
    exact ⟨v, w, run_append_of_nil w base t ty e i size ht hi v n xs hown A c, ho, World.grownBy.refl w _, .inl rfl, hform ho⟩
  · obtain ⟨b, o, rfl, _, hc⟩ := hr.2 h0
    obtain ⟨v', w', hrun, h2, h3, _, h5⟩ := run_append_own_at (P := P) w base t ty e i z size bytes ht hi hz hsize hby hzs hsz v n xs hown ⟨b, o, none⟩ m c news hr.1 (fun j u hu => by rw [Addr.add_lit]; exact hc j u hu) h1 h63 hbytes hbase
    exact ⟨v', w', hrun, h2, h3, h5, hform h2⟩

theorem wp_append_any {o : Oper} {a : Act} {K : Act → World → Prop} {Q : Exit → Act → World → Prop} (s x : Operand) (t : TypeId)
    (ho : o.op = .call { callee := .builtin .append, args := #[s, x], argTypes := #[t, t] })
    (base : Nat) (e : TypeId) (i : TypeInfo) (z : Value) (size bytes : Nat) (ht : P.underlying t = some (.slice e)) (hi : P.info? e = some i) (hz : i.zero = some z)
    (hsize : i.size = size) (hby : i.bytes = bytes) (hzs : z.cells.size = size) (hsz : 0 < size)
    (v : Value) (n : Nat) (xs : List Value) (hs : a.eval s = v) (hown : w.ownsRow base e size v n xs)
    (B : Nat) (A : Option Addr) (m c : Nat) (news : List Value) (hx : a.eval x = .slice A m c) (hr : Rd w B size A m news) (h1 : ∀ u ∈ news, u.oneCell' = true)
    (h63 : n + m ≤ maxLen) (hbytes : (n + m) * bytes ≤ 140737488355328) (hbase : base ≤ w.heap.size)
    (h : ∀ A' c' w', w'.ownsRow base e size (.slice A' (n + m) c') (n + m) (xs ++ news) → w.grownBy w' v.ownBlock → ((Value.slice A' (n + m) c').ownBlock = v.ownBlock ∨ (Value.slice A' (n + m) c').ownBlock = some w.heap.size) → K (a.put o.dst (.slice A' (n + m) c')) w') : o.wp P a w K Q := by
  obtain ⟨v', w', hrun, h2, h3, h4, A', c', rfl⟩ := run_append_any (P := P) w base t o.type e i z size bytes ht hi hz hsize hby hzs hsz v n xs hown B A m c news hr h1 h63 hbytes hbase
  unfold Oper.wp execOp
  simp only [ho, resolve, invoke, builtin, Sem.run_bind, Sem.run_pure, Result.andThen_ok, List.map_toArray, List.map_cons, List.map_nil, hs, hx, hrun]
  exact h A' c' w' h2 h3 h4

theorem wpList_append_any {ops : Array Oper} {rest : List Oper} {o : Oper} {a : Act} {Q : Exit → Act → World → Prop} (hgd : o.guard = none) (s x : Operand) (t : TypeId)
    (ho : o.op = .call { callee := .builtin .append, args := #[s, x], argTypes := #[t, t] })
    (base : Nat) (e : TypeId) (i : TypeInfo) (z : Value) (size bytes : Nat) (ht : P.underlying t = some (.slice e)) (hi : P.info? e = some i) (hz : i.zero = some z)
    (hsize : i.size = size) (hby : i.bytes = bytes) (hzs : z.cells.size = size) (hsz : 0 < size)
    (v : Value) (n : Nat) (xs : List Value) (hs : a.eval s = v) (hown : w.ownsRow base e size v n xs)
    (B : Nat) (A : Option Addr) (m c : Nat) (news : List Value) (hx : a.eval x = .slice A m c) (hr : Rd w B size A m news) (h1 : ∀ u ∈ news, u.oneCell' = true)
    (h63 : n + m ≤ maxLen) (hbytes : (n + m) * bytes ≤ 140737488355328) (hbase : base ≤ w.heap.size)
    (h : ∀ A' c' w', w'.ownsRow base e size (.slice A' (n + m) c') (n + m) (xs ++ news) → w.grownBy w' v.ownBlock → ((Value.slice A' (n + m) c').ownBlock = v.ownBlock ∨ (Value.slice A' (n + m) c').ownBlock = some w.heap.size) → wpList P ops Q rest (a.put o.dst (.slice A' (n + m) c')) w') : wpList P ops Q (o :: rest) a w :=
  wpList_plain hgd fun _ hK => wp_append_any w s x t ho base e i z size bytes ht hi hz hsize hby hzs hsz v n xs hs hown B A m c news hx hr h1 h63 hbytes hbase fun A' c' w' h2 h3 h4 => hK _ _ (h A' c' w' h2 h3 h4)
end

end Go.Proofs.YtklkgddldndmmaaDoor
