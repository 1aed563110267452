/- Texts of the proof, joined: Plain, Kit, Small, Shelf. -/
import Derived.Lib.Strings
import Derived.Lib.Index
import Derived.Lib.IndexLaws
import Derived.WalkKit
import Derived.WalkSpells
import Derived.WalkLawsBesides
import Derived.Lib.Hide
import Derived.Laws.IdiomStrings
import Derived.Lib.BufferRead
import Derived.Maps.AppendAt
import Derived.Deep.AppendLies
import Derived.Deep.Draws
import Derived.RegionTactic
import Derived.ChangeAlike
import Derived.Deep.QuietTactic
import Derived.BigQuiet
import Derived.Deep.LoopGhost
import Derived.Deep.DeepFit
import Derived.Deep.DeepMust
import Derived.Laws.OwnMore
import Derived.Lib.Bytes
import Derived.Test.YtklkgddldndmmaaDoorRows
import Derived.Shelf.LaysM
import Derived.Shelf.Bytes.BufferK
import Derived.Shelf.Bytes.WriteAny
import Derived.Test.YtklkgddldndmmaaDoorProg
/- The plain functions behind a boundary. No program in sight. -/
namespace Go.Proofs.YtklkgddldndmmaaDoor
open Go
open Go.Lib (hasPrefix)

def letterB (c : UInt8) : Bool := (decide (97 ≤ c.toNat) && decide (c.toNat ≤ 122)) || (decide (65 ≤ c.toNat) && decide (c.toNat ≤ 90)) || (decide (48 ≤ c.toNat) && decide (c.toNat ≤ 57))
theorem letterB_iff (c : UInt8) : letterB c = true ↔ (97 ≤ c.toNat ∧ c.toNat ≤ 122) ∨ (65 ≤ c.toNat ∧ c.toNat ≤ 90) ∨ (48 ≤ c.toNat ∧ c.toNat ≤ 57) := by
  simp [letterB, or_assoc]
theorem letterB_of {c : UInt8} {b : Bool} (h : b = true ↔ (97 ≤ c.toNat ∧ c.toNat ≤ 122) ∨ (65 ≤ c.toNat ∧ c.toNat ≤ 90) ∨ (48 ≤ c.toNat ∧ c.toNat ≤ 57)) : b = letterB c := by
  rw [Bool.eq_iff_iff, h, letterB_iff]
/-- Is the byte one of the list? -/
def inB (l : List UInt8) (c : UInt8) : Bool := l.contains c
theorem inB_snoc (l : List UInt8) (a c : UInt8) (h : inB l c = false) : inB (l ++ [a]) c = (a == c) := by
  unfold inB at h ⊢
  rw [Bool.eq_iff_iff]
  simp at h ⊢
  constructor
  · rintro (h1 | h1)
    · exact absurd h1 h
    · exact h1.symm
  · rintro rfl
    exact .inr rfl
/-- The signs of a boundary beside letters and digits. -/
def signs : List UInt8 := [39, 40, 41, 43, 95, 44, 45, 46, 47, 58, 61, 63, 32]
def okB (c : UInt8) : Bool := letterB c || inB signs c
/-- A boundary of the RFC. -/
def boundB (l : List UInt8) : Bool := l.all okB && decide (0 < l.length) && decide (l.length ≤ 70) && decide (l[l.length - 1]? ≠ some 32)


end Go.Proofs.YtklkgddldndmmaaDoor

/- Lemmas on slices that read as lists of cells, and on rows that a call has made. No program in sight. -/
namespace Go.Proofs.YtklkgddldndmmaaDoor
open Go.RowKit

/-! ### Endings -/
theorem ret_int {k : IntKind} {a b : Int} (h : a = b) : Ending.returned (.int k a) = .returned (.int k b) := by rw [h]
theorem ret_bool {a b : Bool} (h : a = b) : Ending.returned (.bool a) = Ending.returned (.bool b) := by rw [h]
theorem ret_str {a b : List UInt8} (h : a = b) : Ending.returned (.string ⟨a.toArray⟩) = Ending.returned (.string ⟨b.toArray⟩) := by rw [h]

/-! ### Bytes -/
theorem u8_eq {c : UInt8} {n : Nat} (hn : n < 256) (h : (c.toNat : Int) = n) : c = UInt8.ofNat n := by
  apply UInt8.toNat_inj.1
  rw [UInt8.toNat_ofNat', Nat.mod_eq_of_lt (by simpa using hn)]
  omega
theorem u8_ne {c : UInt8} {n : Nat} (hn : n < 256) (h : ¬ (c.toNat : Int) = n) : c ≠ UInt8.ofNat n := by
  rintro rfl
  apply h
  rw [UInt8.toNat_ofNat', Nat.mod_eq_of_lt (by simpa using hn)]
theorem u8_lt (c : UInt8) : (c.toNat : Int) < 256 := by have := c.toNat_lt; omega
theorem bc_get {l : List UInt8} {k : Nat} {c : UInt8} (h : l[k]? = some c) : (Lib.byteCells l)[k]? = some (.int .u8 (c.toNat : Int)) := by simp [Lib.byteCells, h]
theorem bc_len (l : List UInt8) : (Lib.byteCells l).length = l.length := by simp [Lib.byteCells]
theorem bc_one (l : List UInt8) : ∀ u ∈ Lib.byteCells l, u.oneCell' = true := by
  intro u hu
  obtain ⟨_, _, rfl⟩ := List.mem_map.1 hu
  rfl
theorem bc_snoc (l : List UInt8) (c : UInt8) : Lib.byteCells l ++ [.int .u8 (c.toNat : Int)] = Lib.byteCells (l ++ [c]) := by simp [Lib.byteCells]
theorem bc_drop (l : List UInt8) (k : Nat) : (Lib.byteCells l).drop k = Lib.byteCells (l.drop k) := by simp [Lib.byteCells, List.map_drop]
theorem bc_take (l : List UInt8) (k : Nat) : (Lib.byteCells l).take k = Lib.byteCells (l.take k) := by simp [Lib.byteCells, List.map_take]
theorem size_list (l : List UInt8) : (⟨l.toArray⟩ : ByteArray).size = l.length := by simp [ByteArray.size]
theorem take_snoc (s : ByteArray) (k : Nat) (h : k < s.size) : s.data.toList.take (k + 1) = s.data.toList.take k ++ [s[k]] := by
  rw [List.take_succ_eq_append_getElem (by simpa using h)]; rfl
theorem take_snocL {α : Type} (l : List α) (k : Nat) (h : k < l.length) : l.take (k + 1) = l.take k ++ [l[k]] := by
  rw [List.take_succ_eq_append_getElem h]

/-! ### Addresses -/
theorem block_add (a : Addr) (n : Nat) : (a.add n).block = a.block := by unfold Addr.add; split <;> rfl
theorem add_twice (a : Addr) (i j : Nat) : (a.add i).add j = a.add (i + j) := by
  unfold Addr.add
  by_cases hi : i = 0 <;> by_cases hj : j = 0 <;> simp [hi, hj, Nat.add_assoc]
theorem add_zero (a : Addr) : a.add 0 = a := by cases a; simp [Addr.add]
theorem map_add_zero' (p : Option Addr) : Option.map (fun x : Addr => x.add 0) p = p := by cases p <;> simp [add_zero]

/-! ### A slice (its address, its number of elements of 'size' cells) that reads as the cells xs, below block B -/
def Rd (w : World) (B size : Nat) (A : Option Addr) (n : Nat) (xs : List Value) : Prop :=
  xs.length = n * size ∧ (0 < n → ∃ b o, A = some ⟨b, o, none⟩ ∧ b < B ∧ ∀ j u, xs[j]? = some u → w.cell? ⟨b, o + j, none⟩ = some u)

section
variable {w w' : World} {B B' size n : Nat} {A : Option Addr} {xs : List Value}
theorem Rd.none_ : Rd w B size A 0 [] := ⟨by simp, fun h => absurd h (by omega)⟩
theorem Rd.keep (h : Rd w B size A n xs) (hk : ∀ p : Addr, p.block < B → w'.cell? p = w.cell? p) : Rd w' B size A n xs :=
  ⟨h.1, fun hn => by
    obtain ⟨b, o, e, hb, hc⟩ := h.2 hn
    exact ⟨b, o, e, hb, fun j u hu => (hk _ hb).trans (hc j u hu)⟩⟩
theorem Rd.more (h : Rd w B size A n xs) (hB : B ≤ B') : Rd w B' size A n xs :=
  ⟨h.1, fun hn => by
    obtain ⟨b, o, e, hb, hc⟩ := h.2 hn
    exact ⟨b, o, e, by omega, hc⟩⟩
theorem Rd.below (h : Rd w B size A n xs) (hb : Below B w w') : Rd w' B size A n xs := h.keep fun _ hp => hb.cell hp
theorem Rd.drewN (h : Rd w B size A n xs) (k : Nat) : Rd (w.drewN k) B size A n xs := h
theorem Rd.alloc (h : Rd w B size A n xs) (hB : B ≤ w.heap.size) (o : Obj) : Rd (w.alloc o) B size A n xs := h.keep fun p hp => World.cell?_alloc_lt w o p (by omega)
theorem Rd.setCell (h : Rd w B size A n xs) {p : Addr} (hB : B ≤ p.block) (u : Value) : Rd (w.setCell p u) B size A n xs :=
  h.keep fun q hq => World.cell?_setCell_other w p q u (fun e => by subst e; omega)
theorem Rd.grown (h : Rd w B size A n xs) {row : Option Nat} (hg : w.grownBy w' row) (hB : B ≤ w.heap.size) (hr : ∀ g, row = some g → B ≤ g) : Rd w' B size A n xs :=
  h.keep fun p hp => World.cell?_of_block (hg.block p.block (by omega) (fun e => by have := hr _ e.symm; omega))
theorem Rd.cut (h : Rd w B size A n xs) {k cap : Nat} (hk : k ≤ n) (hc : n ≤ cap) :
    Rd w B size (if cap = k then A else A.map (·.add (k * size))) (n - k) (xs.drop (k * size)) := by
  refine ⟨by rw [List.length_drop, h.1, Nat.sub_mul], fun hn => ?_⟩
  obtain ⟨b, o, rfl, hb, hcell⟩ := h.2 (by omega)
  rw [if_neg (by omega)]
  refine ⟨b, o + k * size, ?_, hb, fun j u hu => ?_⟩
  · simp [Addr.add]
  · rw [Nat.add_assoc]
    exact hcell _ u (by rw [← hu, List.getElem?_drop])
theorem Rd.take (h : Rd w B size A n xs) {k : Nat} (hk : k ≤ n) : Rd w B size A k (xs.take (k * size)) := by
  refine ⟨by rw [List.length_take, h.1, Nat.min_eq_left (Nat.mul_le_mul_right _ hk)], fun hn => ?_⟩
  obtain ⟨b, o, rfl, hb, hcell⟩ := h.2 (by omega)
  refine ⟨b, o, rfl, hb, fun j u hu => hcell j u ?_⟩
  rw [List.getElem?_take] at hu
  split at hu
  · exact hu
  · cases hu
theorem Rd.of_own {base : Nat} {e : TypeId} {c : Nat} (h : w.ownsRow base e size (.slice A n c) n xs) : Rd w w.heap.size size A n xs := by
  refine ⟨h.1, fun hn => ?_⟩
  obtain ⟨g, cap, hv, _, hlt⟩ := h.form hn
  have hA : A = some ⟨g, 0, none⟩ := by injection hv
  subst hA
  refine ⟨g, 0, rfl, hlt, fun j u hu => ?_⟩
  have := h.cells (g := g) rfl j u hu
  rwa [Addr.add_lit] at this
/-- Out of the cells as they are opened: an address of whatever spot. -/
theorem Rd.of_cells {ad : Addr} (hl : xs.length = n * size) (hs : 0 < size) (hb : 0 < n → ad.block < B) (hc : ∀ j u, xs[j]? = some u → w.cell? (ad.add j) = some u) : Rd w B size (some ad) n xs := by
  refine ⟨hl, fun hn => ?_⟩
  have h0 : 0 < xs.length := by rw [hl]; exact Nat.mul_pos hn hs
  have h1 := hc 0 _ (List.getElem?_eq_getElem h0)
  obtain ⟨b, o, sp⟩ := ad
  rw [add_zero] at h1
  obtain rfl : sp = none := World.cell?_spot h1
  exact ⟨b, o, rfl, hb hn, fun j u hu => by have := hc j u hu; rwa [Addr.add_lit] at this⟩
end

/-- A slice of bytes that reads as the list l. -/
abbrev RdB (w : World) (B : Nat) (A : Option Addr) (n : Nat) (l : List UInt8) : Prop := Rd w B 1 A n (Lib.byteCells l)

theorem RdB.len {w : World} {B : Nat} {A : Option Addr} {n : Nat} {l : List UInt8} (h : RdB w B A n l) : l.length = n := by have := h.1; rw [bc_len] at this; omega
theorem RdB.at_ {w : World} {B : Nat} {A : Option Addr} {n k : Nat} {l : List UInt8} (h : RdB w B A n l) (hk : k < n) :
    ∃ b o c, A = some ⟨b, o, none⟩ ∧ b < B ∧ l[k]? = some c ∧ w.cell? ⟨b, o + k, none⟩ = some (.int .u8 (c.toNat : Int)) := by
  obtain ⟨b, o, e, hb, hc⟩ := h.2 (by omega)
  have hl := h.len
  exact ⟨b, o, l[k], e, hb, List.getElem?_eq_getElem (by omega), hc k _ (bc_get (List.getElem?_eq_getElem (by omega)))⟩
theorem RdB.cut {w : World} {B : Nat} {A : Option Addr} {n k cap : Nat} {l : List UInt8} (h : RdB w B A n l) (hk : k ≤ n) (hc : n ≤ cap) :
    RdB w B (if cap = k then A else A.map (·.add k)) (n - k) (l.drop k) := by
  have := Rd.cut h hk hc
  rw [bc_drop] at this
  simpa using this
theorem RdB.take {w : World} {B : Nat} {A : Option Addr} {n k : Nat} {l : List UInt8} (h : RdB w B A n l) (hk : k ≤ n) : RdB w B A k (l.take k) := by
  have := Rd.take h hk
  rwa [Nat.mul_one, bc_take] at this

/-- 'string(b)'. -/
theorem RdB.conv {P : Program} {w : World} {B : Nat} {A : Option Addr} {n : Nat} {l : List UInt8} (h : RdB w B A n l) {src dst e : TypeId} (hs : P.underlying src = some (.slice e)) (he : P.underlying e = some (.int .u8)) (hd : P.underlying dst = some .string) (c : Nat) :
    (convert src dst (.slice A n c)).run P w = .ok (.string ⟨l.toArray⟩) w := by
  have hl := h.len
  subst hl
  by_cases h0 : 0 < l.length
  · obtain ⟨b, o, rfl, _, hc⟩ := h.2 h0
    exact run_convert_bytes_back w src dst e ⟨b, o, none⟩ c l hs he hd (fun j hj => by rw [Addr.add_lit]; exact hc j _ (bc_get (List.getElem?_eq_getElem hj)))
  · obtain rfl : l = [] := List.eq_nil_of_length_eq_zero (by omega)
    rw [List.length_nil, run_convert_bytes_string w src dst e A 0 c hs he hd]
    cases A <;> simp [Conv.bytesToString, loadCells]
    all_goals rfl

theorem conv_own {P : Program} {w : World} {base : Nat} {src dst e : TypeId} {v : Value} {l : List UInt8} (hs : P.underlying src = some (.slice e)) (he : P.underlying e = some (.int .u8)) (hd : P.underlying dst = some .string)
    (hown : w.ownsRow base e 1 v l.length (Lib.byteCells l)) : (convert src dst v).run P w = .ok (.string ⟨l.toArray⟩) w := by
  rcases hown.2 with ⟨rfl, h0⟩ | ⟨g, cap, cur, rfl, h1, h2, h3, h4, h5, h6⟩
  · obtain rfl : l = [] := List.eq_nil_of_length_eq_zero h0
    exact Lib.run_convert_nil_bytes w src dst e 0 hs he hd
  · exact run_convert_bytes_back w src dst e ⟨g, 0, none⟩ cap l hs he hd (fun j hj => hown.cells (g := g) rfl j _ (bc_get (List.getElem?_eq_getElem hj)))

/-! ### append onto a row of the call's own, the source nil, empty or not -/
section
variable {P : Program} (w : World)
theorem run_append_of_nil (base : Nat) (t ty e : TypeId) (i : TypeInfo) (size : Nat) (ht : P.underlying t = some (.slice e)) (hi : P.info? e = some i)
    (v : Value) (n : Nat) (xs : List Value) (hown : w.ownsRow base e size v n xs) (A : Option Addr) (c : Nat) : (Builtin.append_ #[t, t] ty #[v, .slice A 0 c]).run P w = .ok v w := by
  rcases hown.2 with ⟨rfl, rfl⟩ | ⟨g, cap, cur, rfl, _, _, hnc, _⟩
  · cases A <;> simp [Builtin.append_, run_underlying ht, sizeOf, typeInfo, hi, Builtin.lenOf, Builtin.firstCells, loadCells, loadCellsFrom]
  · cases A <;> simp [Builtin.append_, run_underlying ht, sizeOf, typeInfo, hi, Builtin.lenOf, Builtin.firstCells, hnc, storeCells, loadCells, loadCellsFrom]

theorem run_append_any (base : Nat) (t ty e : TypeId) (i : TypeInfo) (z : Value) (size bytes : Nat) (ht : P.underlying t = some (.slice e)) (hi : P.info? e = some i) (hz : i.zero = some z)
    (hsize : i.size = size) (hby : i.bytes = bytes) (hzs : z.cells.size = size) (hsz : 0 < size)
    (v : Value) (n : Nat) (xs : List Value) (hown : w.ownsRow base e size v n xs)
    (B : Nat) (A : Option Addr) (m c : Nat) (news : List Value) (hr : Rd w B size A m news) (h1 : ∀ u ∈ news, u.oneCell' = true)
    (h63 : n + m ≤ maxLen) (hbytes : (n + m) * bytes ≤ 140737488355328) (hbase : base ≤ w.heap.size) :
    ∃ v' w', (Builtin.append_ #[t, t] ty #[v, .slice A m c]).run P w = .ok v' w' ∧ w'.ownsRow base e size v' (n + m) (xs ++ news) ∧ w.grownBy w' v.ownBlock ∧
      (v'.ownBlock = v.ownBlock ∨ v'.ownBlock = some w.heap.size) ∧ ∃ A' c', v' = .slice A' (n + m) c' := by
  have hform : ∀ {w' : World} {v' : Value} {k : Nat} {ys : List Value}, w'.ownsRow base e size v' k ys → ∃ A' c', v' = .slice A' k c' := by
    intro w' v' k ys h
    rcases h.2 with ⟨rfl, rfl⟩ | ⟨g, cap, cur, rfl, _⟩
    · exact ⟨_, _, rfl⟩
    · exact ⟨_, _, rfl⟩
  rcases Nat.eq_zero_or_pos m with h0 | h0
  · subst h0
    have hn : news = [] := List.eq_nil_of_length_eq_zero (by simpa using hr.1)
    subst hn
    have ho : w.ownsRow base e size v (n + 0) (xs ++ []) := by simpa using hown
    exact ⟨v, w, run_append_of_nil w base t ty e i size ht hi v n xs hown A c, ho, World.grownBy.refl w _, .inl rfl, hform ho⟩
  · obtain ⟨b, o, rfl, _, hc⟩ := hr.2 h0
    obtain ⟨v', w', hrun, h2, h3, _, h5⟩ := run_append_own_at (P := P) w base t ty e i z size bytes ht hi hz hsize hby hzs hsz v n xs hown ⟨b, o, none⟩ m c news hr.1 (fun j u hu => by rw [Addr.add_lit]; exact hc j u hu) h1 h63 hbytes hbase
    exact ⟨v', w', hrun, h2, h3, h5, hform h2⟩

theorem wp_append_any {o : Oper} {a : Act} {K : Act → World → Prop} {Q : Exit → Act → World → Prop} (s x : Operand) (t : TypeId)
    (ho : o.op = .call { callee := .builtin .append, args := #[s, x], argTypes := #[t, t] })
    (base : Nat) (e : TypeId) (i : TypeInfo) (z : Value) (size bytes : Nat) (ht : P.underlying t = some (.slice e)) (hi : P.info? e = some i) (hz : i.zero = some z)
    (hsize : i.size = size) (hby : i.bytes = bytes) (hzs : z.cells.size = size) (hsz : 0 < size)
    (v : Value) (n : Nat) (xs : List Value) (hs : a.eval s = v) (hown : w.ownsRow base e size v n xs)
    (B : Nat) (A : Option Addr) (m c : Nat) (news : List Value) (hx : a.eval x = .slice A m c) (hr : Rd w B size A m news) (h1 : ∀ u ∈ news, u.oneCell' = true)
    (h63 : n + m ≤ maxLen) (hbytes : (n + m) * bytes ≤ 140737488355328) (hbase : base ≤ w.heap.size)
    (h : ∀ A' c' w', w'.ownsRow base e size (.slice A' (n + m) c') (n + m) (xs ++ news) → w.grownBy w' v.ownBlock → ((Value.slice A' (n + m) c').ownBlock = v.ownBlock ∨ (Value.slice A' (n + m) c').ownBlock = some w.heap.size) → K (a.put o.dst (.slice A' (n + m) c')) w') : o.wp P a w K Q := by
  obtain ⟨v', w', hrun, h2, h3, h4, A', c', rfl⟩ := run_append_any (P := P) w base t o.type e i z size bytes ht hi hz hsize hby hzs hsz v n xs hown B A m c news hr h1 h63 hbytes hbase
  unfold Oper.wp execOp
  simp only [ho, resolve, invoke, builtin, Sem.run_bind, Sem.run_pure, Result.andThen_ok, List.map_toArray, List.map_cons, List.map_nil, hs, hx, hrun]
  exact h A' c' w' h2 h3 h4

theorem wpList_append_any {ops : Array Oper} {rest : List Oper} {o : Oper} {a : Act} {Q : Exit → Act → World → Prop} (hgd : o.guard = none) (s x : Operand) (t : TypeId)
    (ho : o.op = .call { callee := .builtin .append, args := #[s, x], argTypes := #[t, t] })
    (base : Nat) (e : TypeId) (i : TypeInfo) (z : Value) (size bytes : Nat) (ht : P.underlying t = some (.slice e)) (hi : P.info? e = some i) (hz : i.zero = some z)
    (hsize : i.size = size) (hby : i.bytes = bytes) (hzs : z.cells.size = size) (hsz : 0 < size)
    (v : Value) (n : Nat) (xs : List Value) (hs : a.eval s = v) (hown : w.ownsRow base e size v n xs)
    (B : Nat) (A : Option Addr) (m c : Nat) (news : List Value) (hx : a.eval x = .slice A m c) (hr : Rd w B size A m news) (h1 : ∀ u ∈ news, u.oneCell' = true)
    (h63 : n + m ≤ maxLen) (hbytes : (n + m) * bytes ≤ 140737488355328) (hbase : base ≤ w.heap.size)
    (h : ∀ A' c' w', w'.ownsRow base e size (.slice A' (n + m) c') (n + m) (xs ++ news) → w.grownBy w' v.ownBlock → ((Value.slice A' (n + m) c').ownBlock = v.ownBlock ∨ (Value.slice A' (n + m) c').ownBlock = some w.heap.size) → wpList P ops Q rest (a.put o.dst (.slice A' (n + m) c')) w') : wpList P ops Q (o :: rest) a w :=
  wpList_plain hgd fun _ hK => wp_append_any w s x t ho base e i z size bytes ht hi hz hsize hby hzs hsz v n xs hs hown B A m c news hx hr h1 h63 hbytes hbase fun A' c' w' h2 h3 h4 => hK _ _ (h A' c' w' h2 h3 h4)
end

end Go.Proofs.YtklkgddldndmmaaDoor

/- The walks of the small functions of a boundary: within, letter, Boundary. -/
namespace Go.Proofs.YtklkgddldndmmaaDoor
open Go.RowKit
set_option linter.unusedVariables false
set_option linter.unusedSimpArgs false

theorem info5 : (Tryd.prog.info? 5).map (fun i => (i.zero, i.size, i.bytes)) = some (some (.int .u8 0), 1, 1) := by kernel_rfl

set_option maxHeartbeats 400000 in
theorem within_any (s : ByteArray) (c : UInt8) (w : World) (hs : s.size ≤ 9223372036854775806) :
    Calls Tryd.prog 33 #[.string s, .int .u8 (c.toNat : Int)] w fun e w' => e = .returned (.bool (inB s.data.toList c)) ∧ w = w' := by
  go_enter Tryd.func33, Tryd.ntmps33
  go_wp2
  go_loop [5] (fun i => ∃ k : Nat, k ≤ s.size ∧ i = .int .i64 k ∧ Hid (inB (s.data.toList.take k) c = false)) (fun i => s.size - (intOf i).toNat)
  case atStart => exact ⟨0, Nat.zero_le _, rfl, rfl⟩
  case round =>
    obtain ⟨k, hk, rfl, HP⟩ := hrel
    by_cases hlt : k < s.size
    · have HS : Hid (inB (s.data.toList.take (k + 1)) c = (s[k] == c)) := by
        show _ = _
        rw [take_snoc s k hlt, inB_snoc _ _ _ HP.out]
      by_cases h1 : s[k] = c
      · have h2 : ((s[k].toNat : Int) == (c.toNat : Int)) = true := by rw [h1]; simp
        have HT : Hid (inB s.data.toList c = true) := by
          show _ = _
          rw [← h1]
          unfold inB
          rw [List.contains_iff_mem, Array.mem_toList_iff]
          exact Array.getElem_mem _
        clear h1
        go_wp2
        go_ret
        exact ⟨ret_bool HT.out.symm, rfl⟩
      · have h2 : ((s[k].toNat : Int) == (c.toNat : Int)) = false := by
          rw [beq_eq_false_iff_ne]; intro h; exact h1 (UInt8.toNat_inj.1 (by omega))
        have HN : Hid (inB (s.data.toList.take (k + 1)) c = false) := by
          show _ = _
          rw [HS.out]; simpa using h1
        clear h1
        go_wp2
        go_round
        case rel => exact ⟨k + 1, by omega, by go_num, HN⟩
        case measure => simp [intOf]; omega
    · have HT : Hid (inB s.data.toList c = false) := by
        have := HP.out
        rw [List.take_of_length_le (by simp; omega)] at this
        exact this
      go_wp2
      go_ret
      exact ⟨ret_bool HT.out.symm, rfl⟩

set_option maxHeartbeats 400000 in
theorem letter_any (c : UInt8) (w : World) :
    Calls Tryd.prog 32 #[.int .u8 (c.toNat : Int)] w fun e w' => e = .returned (.bool (letterB c)) ∧ w = w' := by
  have hc := u8_lt c
  have h : (c.toNat : Int) < 48 ∨ (48 ≤ (c.toNat : Int) ∧ (c.toNat : Int) ≤ 57) ∨ (57 < (c.toNat : Int) ∧ (c.toNat : Int) < 65) ∨ (65 ≤ (c.toNat : Int) ∧ (c.toNat : Int) ≤ 90) ∨ (90 < (c.toNat : Int) ∧ (c.toNat : Int) < 97) ∨ (97 ≤ (c.toNat : Int) ∧ (c.toNat : Int) ≤ 122) ∨ 122 < (c.toNat : Int) := by omega
  obtain ⟨n, hn⟩ : ∃ n : Int, n = (c.toNat : Int) := ⟨_, rfl⟩
  rw [← hn] at h hc ⊢
  have HN := Lib.hid hn
  clear hn
  rcases h with h | ⟨h, h'⟩ | ⟨h, h'⟩ | ⟨h, h'⟩ | ⟨h, h'⟩ | ⟨h, h'⟩ | h
  all_goals
    go_enter Tryd.func32, Tryd.ntmps32
    go_wp2
    go_ret
    refine ⟨ret_bool (letterB_of ?_), rfl⟩
    have hn := HN.out
    simp
    omega

theorem letter_b {c : UInt8} {w : World} (b : Bool) (h : letterB c = b) :
    Calls Tryd.prog 32 #[.int .u8 (c.toNat : Int)] w fun e w' => e = .returned (.bool b) ∧ w = w' :=
  (letter_any c w).mono fun _ _ ⟨he, hw⟩ => ⟨by rw [he, h], hw⟩
theorem within_b' {s : ByteArray} {c : UInt8} {w : World} (b : Bool) (hs : s.size ≤ 9223372036854775806) (h : inB s.data.toList c = b) :
    Calls Tryd.prog 33 #[.string s, .int .u8 (c.toNat : Int)] w fun e w' => e = .returned (.bool b) ∧ w = w' :=
  (within_any s c w hs).mono fun _ _ ⟨he, hw⟩ => ⟨by rw [he, h], hw⟩

/-- Each byte may stand in a boundary. -/
def allOk (l : List UInt8) : Bool := l.all okB
theorem allOk_snoc (l : List UInt8) (c : UInt8) : allOk (l ++ [c]) = (allOk l && okB c) := by simp [allOk]
theorem allOk_head (l : List UInt8) (k : Nat) (h : allOk (l.take k) = false) : allOk l = false := by
  rw [← List.take_append_drop k l]
  unfold allOk at h ⊢
  rw [List.all_append, h, Bool.false_and]
theorem signs_data : (⟨#[39, 40, 41, 43, 95, 44, 45, 46, 47, 58, 61, 63, 32]⟩ : ByteArray).data.toList = signs := rfl

set_option maxHeartbeats 2000000 in
theorem bound_any (s : ByteArray) (w : World) (hs : s.size ≤ 2147483647) :
    Calls Tryd.prog 11 #[.string s] w fun e w' => e = .returned (.bool (boundB s.data.toList)) ∧ w = w' := by
  have HB : Hid (boundB s.data.toList = (allOk s.data.toList && decide (0 < s.size) && decide (s.size ≤ 70) && decide (s.data.toList[s.size - 1]? ≠ some 32))) := by
    show _ = _
    unfold boundB allOk
    rw [Lib.size_eq]
  go_enter Tryd.func11, Tryd.ntmps11
  go_wp2
  go_loop [3] (fun i => ∃ k : Nat, k ≤ s.size ∧ i = .int .i64 k ∧ Hid (allOk (s.data.toList.take k) = true)) (fun i => s.size - (intOf i).toNat)
  case atStart => exact ⟨0, Nat.zero_le _, rfl, rfl⟩
  case round =>
    obtain ⟨k, hk, rfl, HP⟩ := hrel
    by_cases hlt : k < s.size
    · have HS : Hid (allOk (s.data.toList.take (k + 1)) = okB s[k]) := by
        show _ = _
        rw [take_snoc s k hlt, allOk_snoc, HP.out, Bool.true_and]
      by_cases h1 : letterB s[k] = true
      · have H1 := Lib.hid (fun w : World => letter_b (w := w) true h1)
        have HN : Hid (allOk (s.data.toList.take (k + 1)) = true) := by show _ = _; rw [HS.out]; simp [okB, h1]
        clear h1
        go_wp2_with fail
        refine (H1.out _).mono ?_
        rintro e w1 ⟨rfl, rfl⟩
        go_wp2
        go_round
        case rel => exact ⟨k + 1, by omega, by go_num, HN⟩
        case measure => simp [intOf]; omega
      · have H1 := Lib.hid (fun w : World => letter_b (w := w) false (by simpa using h1))
        by_cases h2 : inB signs s[k] = true
        · have H2 := Lib.hid (fun w : World => within_b' (s := ⟨#[39, 40, 41, 43, 95, 44, 45, 46, 47, 58, 61, 63, 32]⟩) (w := w) true (by decide) h2)
          have HN : Hid (allOk (s.data.toList.take (k + 1)) = true) := by show _ = _; rw [HS.out]; simp [okB, h2]
          clear h1 h2
          go_wp2_with fail
          refine (H1.out _).mono ?_
          rintro e w1 ⟨rfl, rfl⟩
          go_wp2_with fail
          refine (H2.out _).mono ?_
          rintro e w1 ⟨rfl, rfl⟩
          go_wp2
          go_round
          case rel => exact ⟨k + 1, by omega, by go_num, HN⟩
          case measure => simp [intOf]; omega
        · have H2 := Lib.hid (fun w : World => within_b' (s := ⟨#[39, 40, 41, 43, 95, 44, 45, 46, 47, 58, 61, 63, 32]⟩) (w := w) false (by decide) (by rw [signs_data]; simpa using h2))
          have HN : Hid (boundB s.data.toList = false) := by
            show _ = _
            rw [HB.out, allOk_head _ (k + 1) (by rw [HS.out]; simp only [Bool.not_eq_true] at h1 h2; simp [okB, h1, h2])]
            rfl
          clear h1 h2
          go_wp2_with fail
          refine (H1.out _).mono ?_
          rintro e w1 ⟨rfl, rfl⟩
          go_wp2_with fail
          refine (H2.out _).mono ?_
          rintro e w1 ⟨rfl, rfl⟩
          go_wp2
          go_ret
          exact ⟨ret_bool HN.out.symm, rfl⟩
    · have HA : Hid (allOk s.data.toList = true) := by
        have := HP.out
        rw [List.take_of_length_le (by simp; omega)] at this
        exact this
      by_cases h0 : s.size = 0
      · have HN : Hid (boundB s.data.toList = false) := by show _ = _; rw [HB.out, h0]; simp
        have hz : (s.size : Int) ≤ 0 := by omega
        go_wp2
        go_ret
        exact ⟨ret_bool HN.out.symm, rfl⟩
      · have hp : (0 : Int) < (s.size : Int) := by omega
        by_cases h70 : s.size ≤ 70
        · have h70' : (s.size : Int) ≤ 70 := by omega
          have hix : (s.size : Int) - 1 < (s.size : Int) := by omega
          have hgt : s.data.toList[s.size - 1]? = some s[s.size - 1] := by
            rw [Array.getElem?_toList]
            exact Array.getElem?_eq_getElem _
          by_cases h32 : (s[s.size - 1].toNat : Int) = 32
          · have HN : Hid (boundB s.data.toList = false) := by
              show _ = _
              rw [HB.out, hgt, u8_eq (n := 32) (by decide) h32]
              simp
            have hq : ((s[s.size - 1].toNat : Int) != 32) = false := by simp [h32]
            clear h32 hgt
            go_wp2
            go_ret
            exact ⟨ret_bool HN.out.symm, rfl⟩
          · have hne := u8_ne (n := 32) (by decide) h32
            have HN : Hid (boundB s.data.toList = true) := by
              show _ = _
              rw [HB.out, hgt, HA.out]
              simp
              exact ⟨⟨by omega, h70⟩, hne⟩
            have hq : ((s[s.size - 1].toNat : Int) != 32) = true := by simp [h32]
            clear h32 hgt hne
            go_wp2
            go_ret
            exact ⟨ret_bool HN.out.symm, rfl⟩
        · have HN : Hid (boundB s.data.toList = false) := by show _ = _; rw [HB.out]; simp [h70]
          have h70' : ¬ (s.size : Int) ≤ 70 := by omega
          go_wp2
          go_ret
          exact ⟨ret_bool HN.out.symm, rfl⟩


end Go.Proofs.YtklkgddldndmmaaDoor

/- The contracts of the library on bytes.Buffer that the texts here use, at this program: each is one application of a proved one (printed by the two programs of the shelf). -/
namespace Go.Proofs
open Go.Shelf
def Tryd.laysM178_ren : Go.Shelf.Ren := ⟨fun | 178 => 55 | 251 => 72 | 252 => 73 | 181 => 82 | 184 => 83 | 290 => 84 | 324 => 89 | n => n, fun | 130 => 55 | 9 => 9 | 3 => 3 | 75 => 61 | 0 => 0 | 93 => 59 | 91 => 57 | 131 => 119 | 4 => 4 | 37 => 31 | 20 => 20 | 80 => 63 | 5 => 5 | n => n, fun | 14 => 0 | n => n⟩
theorem Tryd.laysM178 : Go.Proofs.LaysM.n178 Tryd.prog Tryd.laysM178_ren := {
  mixed := by kernel_rfl
  f178 := Tryd.func55.trans (congrArg some (by kernel_rfl))
  f181 := Tryd.func82.trans (congrArg some (by kernel_rfl))
  f184 := Tryd.func83.trans (congrArg some (by kernel_rfl))
  f251 := Tryd.func72.trans (congrArg some (by kernel_rfl))
  f252 := Tryd.func73.trans (congrArg some (by kernel_rfl))
  f290 := Tryd.func84.trans (congrArg some (by kernel_rfl))
  f324 := Tryd.func89.trans (congrArg some (by kernel_rfl))
  t0 := Tryd.underlying0
  a0 := Tryd.isAgg0
  z0 := Tryd.sizeOf0
  v0 := Tryd.zeroValue0
  t3 := Tryd.underlying3
  a3 := Tryd.isAgg3
  z3 := Tryd.sizeOf3
  v3 := Tryd.zeroValue3
  t4 := Tryd.underlying4
  a4 := Tryd.isAgg4
  z4 := Tryd.sizeOf4
  v4 := Tryd.zeroValue4
  t9 := Tryd.underlying9
  a9 := Tryd.isAgg9
  z9 := Tryd.sizeOf9
  v9 := Tryd.zeroValue9
  t20 := Tryd.underlying20
  a20 := Tryd.isAgg20
  z20 := Tryd.sizeOf20
  v20 := Tryd.zeroValue20
  t37 := Tryd.underlying31
  a37 := Tryd.isAgg31
  z37 := Tryd.sizeOf31
  v37 := Tryd.zeroValue31
  t75 := Tryd.underlying61
  a75 := Tryd.isAgg61
  z75 := Tryd.sizeOf61
  v75 := Tryd.zeroValue61
  t91 := Tryd.underlying57
  a91 := Tryd.isAgg57
  z91 := Tryd.sizeOf57
  v91 := Tryd.zeroValue57
  t93 := Tryd.underlying59
  a93 := Tryd.isAgg59
  z93 := Tryd.sizeOf59
  v93 := Tryd.zeroValue59
  t130 := Tryd.underlying55
  a130 := Tryd.isAgg55
  z130 := Tryd.sizeOf55
  v130 := Tryd.zeroValue55
  t131 := Tryd.underlying119
  a131 := Tryd.isAgg119
  z131 := Tryd.sizeOf119
  v131 := Tryd.zeroValue119
  g14 := by kernel_rfl
  t5 := Tryd.underlying5
  a5 := Tryd.isAgg5
  z5 := Tryd.sizeOf5
  v5 := Tryd.zeroValue5
  t80 := Tryd.underlying63
  a80 := Tryd.isAgg63
  z80 := Tryd.sizeOf63
  v80 := Tryd.zeroValue63
  i0 := by kernel_rfl
  i3 := by kernel_rfl
  i4 := by kernel_rfl
  i5 := by kernel_rfl
  i9 := by kernel_rfl
  i20 := by kernel_rfl
  i37 := by kernel_rfl
  i75 := by kernel_rfl
  i80 := by kernel_rfl
  i91 := by kernel_rfl
  i93 := by kernel_rfl
  i130 := by kernel_rfl
  i131 := by kernel_rfl
  m14 := by kernel_rfl }
def Tryd.laysM180_ren : Go.Shelf.Ren := ⟨fun | 180 => 128 | 251 => 72 | 252 => 73 | 181 => 82 | 184 => 83 | 290 => 84 | 324 => 89 | n => n, fun | 130 => 55 | 37 => 31 | 3 => 3 | 75 => 61 | 0 => 0 | 93 => 59 | 91 => 57 | 131 => 119 | 4 => 4 | 20 => 20 | 5 => 5 | 80 => 63 | 9 => 9 | n => n, fun | 14 => 0 | n => n⟩
theorem Tryd.laysM180 : Go.Proofs.LaysM.n180 Tryd.prog Tryd.laysM180_ren := {
  mixed := by kernel_rfl
  f180 := Tryd.func128.trans (congrArg some (by kernel_rfl))
  f181 := Tryd.func82.trans (congrArg some (by kernel_rfl))
  f184 := Tryd.func83.trans (congrArg some (by kernel_rfl))
  f251 := Tryd.func72.trans (congrArg some (by kernel_rfl))
  f252 := Tryd.func73.trans (congrArg some (by kernel_rfl))
  f290 := Tryd.func84.trans (congrArg some (by kernel_rfl))
  f324 := Tryd.func89.trans (congrArg some (by kernel_rfl))
  t0 := Tryd.underlying0
  a0 := Tryd.isAgg0
  z0 := Tryd.sizeOf0
  v0 := Tryd.zeroValue0
  t3 := Tryd.underlying3
  a3 := Tryd.isAgg3
  z3 := Tryd.sizeOf3
  v3 := Tryd.zeroValue3
  t4 := Tryd.underlying4
  a4 := Tryd.isAgg4
  z4 := Tryd.sizeOf4
  v4 := Tryd.zeroValue4
  t20 := Tryd.underlying20
  a20 := Tryd.isAgg20
  z20 := Tryd.sizeOf20
  v20 := Tryd.zeroValue20
  t37 := Tryd.underlying31
  a37 := Tryd.isAgg31
  z37 := Tryd.sizeOf31
  v37 := Tryd.zeroValue31
  t75 := Tryd.underlying61
  a75 := Tryd.isAgg61
  z75 := Tryd.sizeOf61
  v75 := Tryd.zeroValue61
  t91 := Tryd.underlying57
  a91 := Tryd.isAgg57
  z91 := Tryd.sizeOf57
  v91 := Tryd.zeroValue57
  t93 := Tryd.underlying59
  a93 := Tryd.isAgg59
  z93 := Tryd.sizeOf59
  v93 := Tryd.zeroValue59
  t130 := Tryd.underlying55
  a130 := Tryd.isAgg55
  z130 := Tryd.sizeOf55
  v130 := Tryd.zeroValue55
  t131 := Tryd.underlying119
  a131 := Tryd.isAgg119
  z131 := Tryd.sizeOf119
  v131 := Tryd.zeroValue119
  g14 := by kernel_rfl
  t5 := Tryd.underlying5
  a5 := Tryd.isAgg5
  z5 := Tryd.sizeOf5
  v5 := Tryd.zeroValue5
  t9 := Tryd.underlying9
  a9 := Tryd.isAgg9
  z9 := Tryd.sizeOf9
  v9 := Tryd.zeroValue9
  t80 := Tryd.underlying63
  a80 := Tryd.isAgg63
  z80 := Tryd.sizeOf63
  v80 := Tryd.zeroValue63
  i0 := by kernel_rfl
  i3 := by kernel_rfl
  i4 := by kernel_rfl
  i5 := by kernel_rfl
  i9 := by kernel_rfl
  i20 := by kernel_rfl
  i37 := by kernel_rfl
  i75 := by kernel_rfl
  i80 := by kernel_rfl
  i91 := by kernel_rfl
  i93 := by kernel_rfl
  i130 := by kernel_rfl
  i131 := by kernel_rfl
  m14 := by kernel_rfl }
open Go.RowKit in
theorem Tryd.Buffer_WriteString_k (B b : Nat) (bs : List Value) (s : ByteArray) (w : World) (h : Lib.IsBuffer 59 5 B b bs w) (hBw : B ≤ w.heap.size) (h1 : ∀ v ∈ bs, v.oneCell' = true) (hlim : bs.length + s.size ≤ 140737488355328) :
    Calls Tryd.prog 55 #[.pointer (some ⟨b, 0, none⟩), .string s] w fun e w' => e = .returned (.tuple #[.int .i64 s.size, .nilIface]) ∧ Lib.IsBuffer 59 5 B b (bs ++ Lib.byteCells s.data.toList) w' ∧ Below B w w' ∧ Lib.OthersKept 5 (some b) w w' := Any.Buffer_WriteString_k Tryd.laysM178 B b bs s w h hBw h1 hlim
open Go.RowKit in
/-- (*bytes.Buffer).Write: "Write appends the contents of p to the buffer, growing the buffer as needed. The return value n is the length of p; err is always nil." (LAID: no walk: one application.) -/
theorem Tryd.Buffer_Write_any (B b : Nat) (bs cs : List Value) (a : Addr) (n c : Nat) (w : World) (h : Lib.IsBuffer 59 5 B b bs w) (hBw : B ≤ w.heap.size) (h1 : ∀ v ∈ bs, v.oneCell' = true) (hn : cs.length = n) (hab : a.block ≠ b) (hsrc : ∀ j v, cs[j]? = some v → w.cell? (a.add j) = some v) (h1c : ∀ v ∈ cs, v.oneCell' = true) (hlim : bs.length + n ≤ 140737488355328) :
    Calls Tryd.prog 128 #[.pointer (some ⟨b, 0, none⟩), .slice (some a) n c] w fun e w' => e = .returned (.tuple #[.int .i64 n, .nilIface]) ∧ Lib.IsBuffer 59 5 B b (bs ++ cs) w' ∧ Below B w w' ∧ Lib.OthersKept 5 (some b) w w' := Any.Buffer_Write_any Tryd.laysM180 B b bs cs a n c w h hBw h1 hn hab hsrc h1c hlim
end Go.Proofs
