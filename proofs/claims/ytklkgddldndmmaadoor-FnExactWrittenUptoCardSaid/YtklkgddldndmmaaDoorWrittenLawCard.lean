/- What is written is a body of the parts by the RFC: for every list of parts and every boundary the law returns true. The conditions are the row's own: what is read holds at most 1048576 values and letters; tied to the program's text by the given tie: the listed variables of io and bytes read as they are laid. -/
import Derived.Test.YtklkgddldndmmaaDoorM16
import Derived.Test.YtklkgddldndmmaaDoorCards
import Derived.Test.YtklkgddldndmmaaDoorTie
import Derived.OpenShut
import Derived.ShutString
import Derived.Carry
import Derived.Test.YtklkgddldndmmaaDoorM17
namespace Go.Proofs.YtklkgddldndmmaaDoor.fnExactWritten
open Go.ChangeShapes Go.WideShapes Go.ChangeAt Go.RowKit
open Go.ChangeMaps (open_string shut_string)
set_option linter.unusedVariables false
set_option maxRecDepth 100000

theorem listed {W : World} (h : laidMetH Tryd.prog Rows.fnExactWrittenRow.laid W) : ErrAt W 2 ∧ ErrAt W 1 ∧ ErrAt W 3 ∧ ErrAt W 0 := by
  have h0 : laidMet Tryd.prog Rows.fnExactWrittenRow.laid W := h
  obtain ⟨a0, s0, c0, x0, y0⟩ := head_err h0 g2 gt2
  obtain ⟨a1, s1, c1, x1, y1⟩ := head_err h0.tail g1 gt1
  obtain ⟨a2, s2, c2, x2, y2⟩ := head_err h0.tail.tail g3 gt3
  obtain ⟨a3, s3, c3, x3, y3⟩ := head_err h0.tail.tail.tail g0 gt0
  exact ⟨⟨a0, c0⟩, ⟨a1, c1⟩, ⟨a2, c2⟩, ⟨a3, c3⟩⟩

theorem contract (H : Type) (enc : TypeId × Value → H) (W : World) (base : Nat) (args : Array Value) (ds gs : List (DataW H)) (before : List MemPlace)
    (hval : ∀ (j : Nat) t v, Tryd.f9.params[j]? = some t → args[j]? = some v → Value.okWide Tryd.prog W .any base t v)
    (hW : DataW.Whole enc Tryd.prog Tryd.f9.params.toList Rows.fnExactWrittenSpec.vars false W args.toList ds gs before) (hL : laidMetH Tryd.prog Rows.fnExactWrittenRow.laid W) (hk : Rows.uptoSmall H (ds ++ gs) = true) :
    Calls Tryd.prog 9 args W fun e W' => ∃ v, e = .returned v ∧ Rows.fnExactWrittenSpec.post enc Tryd.prog Tryd.f9 false true false false W args v W' := by
  have hW' := hW
  obtain ⟨p, q, hA0, hV, rfl, hfz, hnd⟩ := hW
  have hA : DataW.TrodAll enc Tryd.prog W 0 (fun _ => true) true Tryd.f9.params.toList args.toList ds p := hA0
  rw [Tryd.params9] at hA hval
  obtain ⟨v0, vs0, d0, ds0, p0, q0, hargs, rfl, rfl, h0, r0⟩ := trodAll_cons hA
  obtain ⟨v1, vs1, d1, ds1, p1, q1, rfl, rfl, rfl, h1, r1⟩ := trodAll_cons r0
  obtain ⟨rfl, rfl, rfl⟩ := trodAll_nil r1
  obtain rfl : args = #[v0, v1] := by cases args; simp_all
  obtain ⟨rfl, rfl⟩ := trodVars_none hV
  have k0 := h0
  have lt0 : ∀ x ∈ p0, x.block < W.heap.size := by obtain ⟨m, hm⟩ := k0; exact DataW.trod_lt m _ _ _ hm
  obtain ⟨a0, len0, cap0, rfl⟩ := okWide_slice Tryd.underlying28 (hval 0 28 v0 rfl rfl)
  have b0 : Rows.uptoBulk d0 ≤ 1048576 := Nat.le_trans (bulk_part (by simp)) (of_decide_eq_true hk)
  obtain ⟨m0, t0⟩ := h0
  obtain ⟨ar0, f0⟩ := open_args b0 t0
  obtain ⟨a1, rfl, rfl, rfl, w1⟩ := open_string Tryd.underlying9 (hval 1 9 v1 rfl rfl) h1
  clear hA0
  obtain ⟨e2, e1, e3, e0⟩ := listed hL
  refine (xwritten a0 len0 cap0 _ a1 W w1 ar0).mono fun e W' ⟨he, bel⟩ => ?_
  subst he
  exact ⟨_, rfl, _, _, _, [], _, [], hW', trodAll_mk1 (shut_bool Tryd.underlying4 _), (trodAll_cons_mk (Below.trod laidOut (by kernel_rfl) (of_decide_eq_true (by kernel_rfl)) k0 bel lt0) (trodAll_cons_mk (shut_string Tryd.underlying9 w1) trodAll_mk0)), rfl, bel.frame _, fun h => by cases h⟩

theorem laid_met (os : Os) : laidMet Tryd.prog Rows.fnExactWrittenUptoRow.laid ((laidWorld os).forCall (fun _ _ => 0) ⟨#[], #[.slice none 0 0, .string ByteArray.empty], []⟩).memory :=
  laidMet_of_run (ps := [.cell 2 0, .cell (low + 2) 0, .cell 1 0, .cell (low + 1) 0, .cell 3 0, .cell (low + 3) 0, .cell 0 0, .cell (low + 0) 0]) 8 (by kernel_rfl) (by kernel_rfl) (by kernel_rfl)
theorem reads (os : Os) {H : Type} (enc : TypeId × Value → H) : ∃ places, DataW.whole enc Tryd.prog ((laidWorld os).forCall (fun _ _ => 0) ⟨#[], #[.slice none 0 0, .string ByteArray.empty], []⟩).memory Tryd.f9.params.toList Rows.fnExactWrittenSpec.vars false #[(.slice none 0 0 : Value), .string ByteArray.empty].toList 8 = some ([.nil, .lit (.string [])], [], places) :=
  ⟨[], by kernel_rfl⟩

set_option maxRecDepth 100000 in
theorem lifted (os : Os) (started : os.Started) (H : Type) (enc : TypeId × Value → H) (F : Stop.Interp) :
    ReturnsInHanded {} Tryd.checked os 9 .any ((Rows.OpenSpec.upto Rows.fnExactWrittenSpec).preRow enc Tryd.prog Tryd.f9 Rows.fnExactWrittenUptoRow.domain false Rows.fnExactWrittenUptoRow.laid) (((Rows.OpenSpec.upto Rows.fnExactWrittenSpec).at F).post enc Tryd.prog Tryd.f9 false true false false) := by
  obtain ⟨places, hx⟩ := reads os enc
  refine returnsInHanded_of_row (C := Tryd.checked) (s := (Rows.OpenSpec.upto Rows.fnExactWrittenSpec)) own started (by kernel_rfl) Tryd.func9
    (witness_row_at (enc := enc) (C := Tryd.checked) false (laidWorld os) #[.slice none 0 0, .string ByteArray.empty] rfl (by kernel_rfl) (by kernel_rfl) (by kernel_rfl)
      (OpenSpec.preRow_of_cond 8 hx (by kernel_rfl) (fun k hk => by cases hk; kernel_rfl) (by kernel_rfl) (laid_met os))) ?_
  intro W base args ds gs before hval hW _ hcond _ hL _ _
  exact contract H enc W base args ds gs before hval hW hL (hcond _ rfl)

theorem said : Rows.FnExactWrittenUptoSaid :=
  OpenClaim.holds_of_cond 9 Tryd.f9 rfl rfl rfl rfl rfl rfl rfl ⟨rfl, rfl, rfl, rfl, rfl⟩ rfl rfl rfl rfl rfl (by kernel_rfl) Tryd.func9 (by kernel_rfl)
    (of_decide_eq_true (by kernel_rfl)) (by unfold Func.isWrapper; first | (rw [if_pos (by decide +kernel)]; kernel_rfl) | (rw [if_neg (by decide +kernel)]; exact ⟨rfl, rfl⟩))
    (fun os started H enc _ F => by rw [OpenClaim.pre_eq_preRow]; exact lifted os started H enc F)

theorem plain (f : FuncId) (fn : Func) (hf : Tryd.pinned.checked.prog.funcNamed Rows.fnExactWrittenUptoRow.func = some f) (hfn : Tryd.pinned.checked.prog.funcs[f]? = some fn) :
    true = Tryd.pinned.checked.prog.looks [] ∧ ∀ (j : Nat) t, fn.params[j]? = some t → Tryd.pinned.checked.prog.wantsStandIn t = false := by
  obtain rfl : f = 9 := Option.some.inj ((show Tryd.prog.funcNamed Rows.fnExactWrittenUptoRow.func = some 9 by kernel_rfl).symm.trans hf) |>.symm
  obtain rfl : fn = Tryd.f9 := (Option.some.inj (Tryd.func9.symm.trans hfn)).symm
  refine ⟨by kernel_rfl, fun j t ht => ?_⟩
  rw [Tryd.params9] at ht
  have hm := Array.mem_of_getElem? ht
  simp only [List.mem_toArray, List.mem_cons, List.not_mem_nil, or_false] at hm
  rcases hm with rfl | rfl
  · exact (show Tryd.prog.wantsStandIn 28 = false by kernel_rfl)
  · exact (show Tryd.prog.wantsStandIn 9 = false by kernel_rfl)

theorem card : Rows.FnExactWrittenUptoCardSaid :=
  Claim7.holds_tied_plain_at .later [] _ _ _ _ said (fun _ h => by cases h) (by kernel_rfl) (fun _ h => by cases h) fnExactWrittenUpto_row_tie rfl ⟨rfl, rfl⟩ (by kernel_rfl) rfl plain (by kernel_rfl)
end Go.Proofs.YtklkgddldndmmaaDoor.fnExactWritten
