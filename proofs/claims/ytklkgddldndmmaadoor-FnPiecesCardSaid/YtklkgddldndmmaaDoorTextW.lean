/- The walks of PartText, pad and Body.Text. -/
import Derived.Test.YtklkgddldndmmaaDoorOut
import Derived.Test.YtklkgddldndmmaaDoorAppendA
import Derived.Deep.CutRange
import Derived.Deep.DeepMust
import Derived.Outline
namespace Go.Proofs.YtklkgddldndmmaaDoor
open Go.RowKit
set_option linter.unusedVariables false
set_option linter.unusedSimpArgs false

theorem own_base {w : World} {base base' : Nat} {e : TypeId} {size n : Nat} {v : Value} {xs : List Value} (h : w.ownsRow base e size v n xs) (hb : base' ≤ base) : w.ownsRow base' e size v n xs := by
  refine ⟨h.1, ?_⟩
  rcases h.2 with hn | ⟨g, cap, cur, hv, hbg, rest⟩
  · exact .inl hn
  · exact .inr ⟨g, cap, cur, hv, by omega, rest⟩
theorem OutRow.since {w W w' : World} {v : Value} {l : List UInt8} (h : OutRow W w' v l) (hb : Below w.heap.size w W) : OutRow w w' v l := ⟨own_base h.own hb.size, hb.trans (h.below.mono hb.size)⟩
theorem OutRow.drew {w W : World} {v : Value} {l : List UInt8} (h : OutRow w W v l) : OutRow w W.drew v l := ⟨h.own, h.below.drew⟩

theorem pad_any (v0 v1 v3 : Value) (i : Nat) (w : World) :
    Calls Tryd.prog 40 #[.agg #[v0, v1, .slice none 0 0, v3], .int .i64 i] w fun e w' => e = .returned (.string ⟨#[]⟩) ∧ Below w.heap.size w w' := by
  have HB := Lib.hid ((Below.refl w.heap.size w).alloc (Nat.le_refl _) (.cells #[v0, v1, .slice none 0 0, v3] 37))
  have h0 : ¬ (i : Int) < 0 := by omega
  go_enter Tryd.func40, Tryd.ntmps40
  go_wp2
  go_ret
  exact ⟨rfl, HB.out⟩

set_option maxRecDepth 100000 in
set_option maxHeartbeats 4000000 in
theorem partText_any (p : PartL) (Ah Ab : Option Addr) (nh ch nb cb : Nat) (w : World) (hn : nh ≤ 1000) (hv : ∀ h ∈ p.1, h.2.length ≤ 1000) (hl : (headT p.1).length ≤ 200000) (hnb : nb ≤ 140737487000000) (hr : RdH w w.heap.size Ah nh p.1) (hb : RdB w w.heap.size Ab nb p.2) :
    Calls Tryd.prog 41 #[.agg #[.slice Ah nh ch, .slice Ab nb cb]] w fun e w' => ∃ v, e = .returned v ∧ OutRow w w' v (partT p) := by
  have hal := (Below.refl w.heap.size w).alloc (Nat.le_refl _) (.cells #[.slice Ah nh ch, .slice Ab nb cb] 41)
  have g1 : (w.alloc (.cells #[.slice Ah nh ch, .slice Ab nb cb] 41)).heap[w.heap.size]? = some (.cells #[.slice Ah nh ch, .slice Ab nb cb] 41 (0, 0)) := heap_alloc_new w _
  obtain ⟨wa, hwa⟩ : ∃ y, y = w.alloc (.cells #[.slice Ah nh ch, .slice Ab nb cb] 41) := ⟨_, rfl⟩
  rw [← hwa] at g1 hal
  have hsa : w.heap.size < wa.heap.size := by rw [hwa]; simp
  have HC := Lib.hid (fun (W : World) (hW : Below wa.heap.size wa W) => (headText_any Ah nh ch p.1 W hn ((hr.below (hal.trans (hW.mono hal.size))).more (Nat.le_trans hal.size hW.size)) hv hl).mono fun e w' h => (show ∃ v, e = .returned v ∧ OutRow wa w' v (headT p.1 ++ crlf) from ⟨h.choose, h.choose_spec.1, h.choose_spec.2.since hW⟩))
  have HY := Lib.hid ((hb.below hal).more (B' := wa.heap.size) hal.size)
  have HZ : Hid ((headT p.1 ++ crlf).length + nb ≤ 140737488000000) := by show _ ≤ _; rw [List.length_append]; show _ + 2 + _ ≤ _; omega
  have k1 : wa.cell? ⟨w.heap.size, 0, none⟩ = some (.slice Ah nh ch) := by rw [Lib.cell_of_heap g1]; rfl
  have k2 : wa.cell? ⟨w.heap.size, 1, none⟩ = some (.slice Ab nb cb) := by rw [Lib.cell_of_heap g1]; rfl
  have HAl := Lib.hid hal
  clear hr hb hv g1 hal
  go_enter Tryd.func41, Tryd.ntmps41
  go_wp2_with fail
  rw [← hwa]
  clear hwa
  go_cut [2] from 3 to 8 (fun s2 wx => OutRow wa wx s2 (headT p.1 ++ crlf ++ p.2))
  case first =>
    go_region_law (first
      | (refine step_out_bytes (w0 := wa) (v := v) (l := headT p.1 ++ crlf) rfl (.tmp 5) (.tmp 7) rfl (by simp [Act.eval, Act.put]) ?_ wa.heap.size Ab nb cb p.2 (by simp [Act.eval, Act.put]) ?_ HZ.out ?_; (first | exact hO | exact hO.drew); (first | exact HY.out.below hO.below | exact HY.out.below hO.drew.below); intro v' w' hO' hK')
      | (go_simp; go_at_call 63; go_must (refine (HC.out _ ?_).mono ?_; (repeat (first | exact Below.refl _ _ | refine Below.drew ?_)); rintro e w' ⟨v, rfl, hO⟩; have k2' := (hO.below.cell (p := ⟨w.heap.size, 1, none⟩) hsa).trans k2)))
    all_goals (go_wp2_with fail; (try go_simp); go_meet; exact hO')
  go_wp2
  go_ret
  exact ⟨_, rfl, hcut.since HAl.out⟩

end Go.Proofs.YtklkgddldndmmaaDoor
