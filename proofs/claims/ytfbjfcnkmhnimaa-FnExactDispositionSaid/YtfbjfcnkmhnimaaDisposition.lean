/- The disposition of a file has both names in quotation marks: for every two names the law returns true. No condition: the law itself lets names pass that are too long or not printable. -/
import Derived.Test.YtfbjfcnkmhnimaaRows
import Derived.WalkKit
import Derived.ProofKit
import Derived.OpenShut
import Derived.ShutString
import Derived.Below
import Derived.Carry
import Derived.Test.YtfbjfcnkmhnimaaWalks
namespace Go.Proofs.Ytfbjfcnkmhnimaa.fnExactDisposition
open Go.ChangeShapes Go.WideShapes Go.ChangeAt Go.RowKit
open Go.ChangeMaps (open_string shut_string)
set_option linter.unusedVariables false

theorem own : ownKnob Try.prog.godebug = none := by kernel_rfl

/-- The text of the disposition, as the program joins it. -/
def disp (A B : ByteArray) : ByteArray :=
  ⟨#[102, 111, 114, 109, 45, 100, 97, 116, 97, 59, 32, 110, 97, 109, 101, 61, 34]⟩ ++ A ++ ⟨#[34, 59, 32, 102, 105, 108, 101, 110, 97, 109, 101, 61, 34]⟩ ++ B ++ ⟨#[34]⟩

theorem quo_size (s : ByteArray) (hs : s.size ≤ 16777216) : (⟨(quo s.data.toList).toArray⟩ : ByteArray).size ≤ 50331648 := by
  have := quo_le s.data.toList
  have e : (⟨(quo s.data.toList).toArray⟩ : ByteArray).size = (quo s.data.toList).length := by simp [ByteArray.size]
  have e2 : s.size = s.data.toList.length := by simp
  omega

theorem disp_file (a b A B : ByteArray) (w : World) (ha : a.size ≤ 16777216) (hb : b.size ≤ 16777216) (hA : A.size ≤ 50331648) (hB : B.size ≤ 50331648)
    (cA : ∀ w : World, Calls Try.prog 11 #[.string a] w fun e w' => e = .returned (.string A) ∧ Below w.heap.size w w')
    (cB : ∀ w : World, Calls Try.prog 11 #[.string b] w fun e w' => e = .returned (.string B) ∧ Below w.heap.size w w') :
    Calls Try.prog 10 #[.string a, .string b] w fun e w' => e = .returned (.string (disp A B)) ∧ Below w.heap.size w w' := by
  have HA := Lib.hid cA
  have HB := Lib.hid cB
  clear cA cB
  go_enter Try.func10, Try.ntmps10
  go_wp2_with fail
  refine (HA.out _).mono ?_
  rintro e w1 ⟨rfl, hb1⟩
  go_wp2_with fail
  refine (HB.out _).mono ?_
  rintro e w2 ⟨rfl, hb2⟩
  go_wp2
  go_ret
  refine ⟨?_, hb1.trans (hb2.mono hb1.size)⟩
  rfl

theorem disp_impl (a b A B : ByteArray) (w : World) (ha : a.size ≤ 16777216) (hb : b.size ≤ 16777216) (hA : A.size ≤ 50331648) (hB : B.size ≤ 50331648)
    (cA : ∀ w : World, Calls Try.prog 11 #[.string a] w fun e w' => e = .returned (.string A) ∧ Below w.heap.size w w')
    (cB : ∀ w : World, Calls Try.prog 11 #[.string b] w fun e w' => e = .returned (.string B) ∧ Below w.heap.size w w') :
    Calls Try.prog 8 #[.string a, .string b] w fun e w' => e = .returned (.string (disp A B)) ∧ Below w.heap.size w w' := by
  have HC := Lib.hid (fun w : World => disp_file a b A B w ha hb hA hB cA cB)
  clear cA cB
  go_enter Try.func8, Try.ntmps8
  go_wp2_with fail
  refine (HC.out _).mono ?_
  rintro e w1 ⟨rfl, hb1⟩
  go_wp2
  go_ret
  exact ⟨rfl, hb1⟩

set_option maxHeartbeats 1000000 in
theorem walkSmall (a0 : ByteArray) (a1 : ByteArray) (w0 : a0.size ≤ 16777216) (w1 : a1.size ≤ 16777216) (w : World) :
    Calls Try.prog 4 #[.string a0, .string a1] w fun e w' => e = .returned (.bool true) ∧ Below w.heap.size w w' := by
  by_cases hp0 : printB a0.data.toList = true
  · by_cases hp1 : printB a1.data.toList = true
    · have sA := quo_size a0 w0
      have sB := quo_size a1 w1
      have cA := fun w : World => escape_any a0 w w0 hp0
      have cB := fun w : World => escape_any a1 w w1 hp1
      have qA := fun w : World => quote_any a0 w w0
      have qB := fun w : World => quote_any a1 w w1
      have HP0 := Lib.hid hp0
      have HP1 := Lib.hid hp1
      clear hp0 hp1
      generalize (⟨(quo a0.data.toList).toArray⟩ : ByteArray) = A at *
      generalize (⟨(quo a1.data.toList).toArray⟩ : ByteArray) = B at *
      have HD := Lib.hid (fun w : World => disp_impl a0 a1 A B w w0 w1 sA sB cA cB)
      have QA := Lib.hid qA
      have QB := Lib.hid qB
      clear cA cB qA qB
      go_enter Try.func4, Try.ntmps4
      go_wp2_with fail
      refine (printable_yes _ _ (by omega) HP0.out).mono ?_
      rintro e w1 ⟨rfl, rfl⟩
      go_wp2_with fail
      refine (printable_yes _ _ (by omega) HP1.out).mono ?_
      rintro e w1 ⟨rfl, rfl⟩
      go_wp2_with fail
      refine (HD.out _).mono ?_
      rintro e w1 ⟨rfl, hb1⟩
      go_wp2_with fail
      refine (QA.out _).mono ?_
      rintro e w2 ⟨rfl, hb2⟩
      go_wp2_with fail
      refine (QB.out _).mono ?_
      rintro e w3 ⟨rfl, hb3⟩
      go_wp2
      go_ret
      refine ⟨?_, (hb1.trans (hb2.mono hb1.size)).trans (hb3.mono (by have := hb1.size; have := hb2.size; omega))⟩
      simp [disp]
    · have HP0 := Lib.hid hp0
      have HP1 := Lib.hid hp1
      clear hp0 hp1
      go_enter Try.func4, Try.ntmps4
      go_wp2_with fail
      refine (printable_yes _ _ (by omega) HP0.out).mono ?_
      rintro e w1 ⟨rfl, rfl⟩
      go_wp2_with fail
      refine (printable_no _ _ (by omega) (by simpa using HP1.out)).mono ?_
      rintro e w1 ⟨rfl, rfl⟩
      go_wp2
      go_ret
      exact ⟨rfl, Below.refl _ _⟩
  · have HP0 := Lib.hid hp0
    clear hp0
    go_enter Try.func4, Try.ntmps4
    go_wp2_with fail
    refine (printable_no _ _ (by omega) (by simpa using HP0.out)).mono ?_
    rintro e w1 ⟨rfl, rfl⟩
    go_wp2
    go_ret
    exact ⟨rfl, Below.refl _ _⟩

theorem walk (a0 : ByteArray) (a1 : ByteArray) (w0 : a0.size ≤ maxLen) (w1 : a1.size ≤ maxLen) (w : World) :
    Calls Try.prog 4 #[.string a0, .string a1] w fun e w' => e = .returned (.bool true) ∧ Below w.heap.size w w' := by
  unfold maxLen at w0 w1
  by_cases h0 : a0.size ≤ 16777216 ∧ a1.size ≤ 16777216
  · exact walkSmall a0 a1 h0.1 h0.2 w
  · have h : 2147483647 < a0.size ∨ (a0.size ≤ 2147483647 ∧ 2147483647 < a1.size) ∨ (a0.size ≤ 2147483647 ∧ a1.size ≤ 2147483647 ∧ 16777216 < a0.size) ∨ (a1.size ≤ 2147483647 ∧ a0.size ≤ 16777216 ∧ 16777216 < a1.size) := by omega
    clear h0
    rcases h with h | ⟨h, h'⟩ | ⟨h, h', h''⟩ | ⟨h, h', h''⟩
    all_goals
      go_enter Try.func4, Try.ntmps4
      go_wp2
      go_ret
      exact ⟨rfl, Below.refl _ _⟩

set_option maxRecDepth 100000 in
theorem lifted (os : Os) (started : os.Started) (H : Type) (enc : TypeId × Value → H) :
    ReturnsInHanded {} Try.checked os 4 .any (Rows.fnExactDispositionSpec.pre6 enc Try.prog Try.f4 Rows.fnExactDispositionRow.domain false) (Rows.fnExactDispositionSpec.post enc Try.prog Try.f4 false true false false) := by
  refine returnsInHanded_of_change (C := Try.checked) own started (by kernel_rfl) Try.func4
    (ChangeSpec.witness6 (enc := enc) (C := Try.checked) false ⟨#[], #[.string ByteArray.empty, .string ByteArray.empty], []⟩ 8 (by kernel_rfl) (by kernel_rfl) (by kernel_rfl) (by kernel_rfl)) ?_
  intro W base args ds gs before hval0 hW hcnd _
  have hval : ∀ (j : Nat) t v, Try.f4.params[j]? = some t → args[j]? = some v → Value.okWide Try.prog W .any base t v := hval0
  have hW' := hW
  obtain ⟨p, q, hA0, hV, rfl, hfz, hnd⟩ := hW
  have hA : DataW.TrodAll enc Try.prog W 0 (fun _ => true) true Try.f4.params.toList args.toList ds p := hA0
  rw [Try.params4] at hA hval
  obtain ⟨v0, vs0, d0, ds0, p0, q0, hargs, rfl, rfl, h0, r0⟩ := trodAll_cons hA
  obtain ⟨v1, vs1, d1, ds1, p1, q1, rfl, rfl, rfl, h1, r1⟩ := trodAll_cons r0
  obtain ⟨rfl, rfl, rfl⟩ := trodAll_nil r1
  obtain rfl : args = #[v0, v1] := by cases args; simp_all
  obtain ⟨rfl, rfl⟩ := trodVars_none hV
  obtain ⟨a0, rfl, rfl, rfl, w0⟩ := open_string Try.underlying9 (hval 0 9 v0 rfl rfl) h0
  obtain ⟨a1, rfl, rfl, rfl, w1⟩ := open_string Try.underlying9 (hval 1 9 v1 rfl rfl) h1
  clear hA0 hval0
  simp only [List.append_nil] at hW'
  refine (walk a0 a1 w0 w1 W).mono fun e W' ⟨he, hg⟩ => ?_
  subst he
  exact ⟨_, rfl, _, _, _, [], [], [], hW', trodAll_mk1 (shut_bool Try.underlying4 _), (trodAll_cons_mk (shut_string Try.underlying9 w0) (trodAll_cons_mk (shut_string Try.underlying9 w1) trodAll_mk0)), rfl, hg.frame _, fun h => by cases h⟩

theorem over : Rows.fnExactDispositionRow.holds Try.pinned (OpenSpec.ofChange Rows.fnExactDispositionSpec) :=
  OpenClaim.holds_of_wide 4 Try.f4 rfl rfl rfl rfl rfl rfl rfl ⟨rfl, rfl, rfl, rfl, rfl⟩ rfl rfl rfl rfl rfl (by kernel_rfl) Try.func4 (by kernel_rfl)
    (of_decide_eq_true (by kernel_rfl)) (by unfold Func.isWrapper; first | (rw [if_pos (by decide +kernel)]; kernel_rfl) | (rw [if_neg (by decide +kernel)]; exact ⟨rfl, rfl⟩))
    (fun os started H enc _ => lifted os started H enc)

theorem proved : Rows.FnExactDispositionSaid :=
  over
end Go.Proofs.Ytfbjfcnkmhnimaa.fnExactDisposition
