/- A string turned into a new []byte, as a step of a walk. No program in sight. -/
import Derived.Test.YtklkgddldndmmaaDoorKit
namespace Go.Proofs.YtklkgddldndmmaaDoor
open Go.RowKit
set_option linter.unusedVariables false
set_option linter.unusedSimpArgs false

/-- '[]byte(s)': a new row that reads as the string's bytes; nothing that was there has turned. -/
theorem run_bytes_any {P : Program} (w : World) {src dst e : TypeId} (s : ByteArray) (hs : P.underlying src = some .string) (hd : P.underlying dst = some (.slice e)) (he : P.underlying e = some (.int .u8)) :
    ∃ A c w', (convert src dst (.string s)).run P w = .ok (.slice A s.size c) w' ∧ RdB w' w'.heap.size A s.size s.data.toList ∧ s.size ≤ c ∧ Below w.heap.size w w' := by
  refine ⟨_, _, _, run_bytes_of_string w src dst e s hs hd he, ⟨by rw [bc_len]; simp, fun hn => ⟨w.heap.size, 0, rfl, ?_, fun j u hu => ?_⟩⟩, grownCap_ge _ _ _ _, ?_⟩
  · show w.heap.size < (w.drew.alloc _).heap.size
    simp
  · have hj : j < s.data.toList.length := by
      have := (List.getElem?_eq_some_iff.1 hu).1
      rwa [bc_len] at this
    have hw : w.heap.size = w.drew.heap.size := rfl
    rw [Nat.zero_add, hw, World.cell?_alloc_mark]
    simp only [Lib.byteCells, List.getElem?_map] at hu
    simp only [bytesRow]
    have hj' : j < s.data.size := by simpa using hj
    rw [Array.getElem?_append_left (by simpa using hj')]
    rw [← hu]
    simp
  · exact (((Below.refl _ w).drew).alloc (Nat.le_refl _) _)

theorem wpList_conv_any {P : Program} (w : World) {ops : Array Oper} {rest : List Oper} {o : Oper} {a : Act} {Q : Exit → Act → World → Prop} (hgd : o.guard = none) (x : Operand) (src dst e : TypeId)
    (ho : o.op = .convert src dst x) (hs : P.underlying src = some .string) (hd : P.underlying dst = some (.slice e)) (he : P.underlying e = some (.int .u8)) (s : ByteArray) (hx : a.eval x = .string s)
    (h : ∀ A c w', RdB w' w'.heap.size A s.size s.data.toList → s.size ≤ c → Below w.heap.size w w' → wpList P ops Q rest (a.put o.dst (.slice A s.size c)) w') : wpList P ops Q (o :: rest) a w := by
  obtain ⟨A, c, w', hrun, h1, h2, h3⟩ := run_bytes_any (P := P) w s hs hd he
  refine wpList_plain hgd fun K hK => ?_
  unfold Oper.wp execOp
  simp only [ho, Sem.run_bind, Sem.run_pure, Result.andThen_ok, hx, hrun]
  exact hK _ _ (h A c w' h1 h2 h3)

/-- A guarded operation whose guard let it through. -/
theorem wpList_want {P : Program} {w : World} {ops : Array Oper} {rest : List Oper} {o : Oper} {a : Act} {Q : Exit → Act → World → Prop} (hw : Region.wanted o (yielded ops a.tmps) = true)
    (h : ∀ K : Act → World → Prop, (∀ a w, wpList P ops Q rest a w → K a w) → o.wp P a w K Q) : wpList P ops Q (o :: rest) a w :=
  wpList_step fun K hK => by rw [if_pos hw]; exact h K hK

theorem wpList_append_want {P : Program} (w : World) {ops : Array Oper} {rest : List Oper} {o : Oper} {a : Act} {Q : Exit → Act → World → Prop} (s x : Operand) (t : TypeId)
    (ho : o.op = .call { callee := .builtin .append, args := #[s, x], argTypes := #[t, t] })
    (hw : Region.wanted o (yielded ops a.tmps) = true)
    (base : Nat) (e : TypeId) (i : TypeInfo) (z : Value) (size bytes : Nat) (ht : P.underlying t = some (.slice e)) (hi : P.info? e = some i) (hz : i.zero = some z)
    (hsize : i.size = size) (hby : i.bytes = bytes) (hzs : z.cells.size = size) (hsz : 0 < size)
    (v : Value) (n : Nat) (xs : List Value) (hs : a.eval s = v) (hown : w.ownsRow base e size v n xs)
    (B : Nat) (A : Option Addr) (m c : Nat) (news : List Value) (hx : a.eval x = .slice A m c) (hr : Rd w B size A m news) (h1 : ∀ u ∈ news, u.oneCell' = true)
    (h63 : n + m ≤ maxLen) (hbytes : (n + m) * bytes ≤ 140737488355328) (hbase : base ≤ w.heap.size)
    (h : ∀ A' c' w', w'.ownsRow base e size (.slice A' (n + m) c') (n + m) (xs ++ news) → w.grownBy w' v.ownBlock → ((Value.slice A' (n + m) c').ownBlock = v.ownBlock ∨ (Value.slice A' (n + m) c').ownBlock = some w.heap.size) → wpList P ops Q rest (a.put o.dst (.slice A' (n + m) c')) w') : wpList P ops Q (o :: rest) a w :=
  wpList_want hw fun _ hK => wp_append_any w s x t ho base e i z size bytes ht hi hz hsize hby hzs hsz v n xs hs hown B A m c news hx hr h1 h63 hbytes hbase fun A' c' w' h2 h3 h4 => hK _ _ (h A' c' w' h2 h3 h4)

end Go.Proofs.YtklkgddldndmmaaDoor
