/-
  NARROWER THAN 'FOR EVERY INPUT', by the rows' own cells (each row's printed sentence says how): FnExactMatch: laid · FnExactScan: laid · FnScanSafe: laid.
  DERIVED. THE GIVEN ROWS OF THIS SEAT. 3 by the template 'for every input the law returns true; each argument reads behind the call as it read before'; 0 by the template 'total and deterministic' (their statements: YtfbjfcnkmhnimaaDoorTotals.lean).
  GIVEN WITH THE SEED: the statements are not yours to turn. If you find one false, say at which input.
  Laid BY PROGRAM, IN A SANDBOX (cutbox-rows.mjs): the forced cells as the released guide's own fill.sh prints them over the translation 84286ef8bd15b470… (all of the seat's roots in one cut). By AI agents, Wed Nov 11 2026. No macro, syntax, notation, axiom, sorry.
-/
import Derived.Test.YtfbjfcnkmhnimaaDoorChecked
import GoSem.Claim
import GoSem.ClaimJoined
import GoSem.ClaimMapViews
import Derived.JoinedTies
import Derived.KernelRfl
namespace Go.Proofs.YtfbjfcnkmhnimaaDoor
/- THE CELL 'sum', in the pinned program and in every row, IS THE sha256 OF THE DUMP (.gsa) THAT YtfbjfcnkmhnimaaDoorProg.lean LOADS. Nothing in Lean hashes anything: it is a label: what it is worth is what the hold of that sum in a sandbox is worth. -/
noncomputable def Tryd.pinned : Pinned := { name := "ytfbjfcnkmhnimaadoor", sum := "84286ef8bd15b470c2fafc21c677bb62e4ab649823665cf87cb83e31035b7cb2", checked := Tryd.checked }
namespace Rows
def none {H : Type} : Left H := { results := [], args := [] }

/- WHAT THE LISTED PACKAGE-LEVEL VARIABLES READ AS WHEN THE CALL BEGINS. Each datum BY PROGRAM (the guide's laid-datum.mjs) off the statement by which the dump's own 'gosem.cut.vars' lays the variable. In a bare row this is a premise. The card (YtfbjfcnkmhnimaaDoorCards.lean) ties it to the program's text. -/
def laid_io_ErrUnexpectedEOF {H : Type} : DataW H := .iface "*errors.errorString" (.ptr (.agg [.lit (.string [117, 110, 101, 120, 112, 101, 99, 116, 101, 100, 32, 69, 79, 70])]))
def laid_io_EOF {H : Type} : DataW H := .iface "*errors.errorString" (.ptr (.agg [.lit (.string [69, 79, 70])]))

/-- 'laws.FnExactMatch': WHATEVER THE INPUT: true; the input reads as it did. -/
def fnExactMatchSpec : ChangeSpec := { name := "fnExactMatch", fn := fun _ => fun
  | [d1, d2, d3] => { results := [.lit (.bool true)], args := [d1, d2, d3] }
  | _ => none }
def fnExactMatchRow : OpenClaim := { program := "ytfbjfcnkmhnimaadoor", sum := "84286ef8bd15b470c2fafc21c677bb62e4ab649823665cf87cb83e31035b7cb2", func := "loop.example/pub-mailparts/laws.FnExactMatch", spec := "fnExactMatch", named := ["io.ErrUnexpectedEOF"], apart := false, laid := [("io.ErrUnexpectedEOF", laid_io_ErrUnexpectedEOF)] }
def FnExactMatchSaid : Prop := fnExactMatchRow.holds Tryd.pinned (OpenSpec.ofChange fnExactMatchSpec)

/-- ITS FALSE NEIGHBOUR: 'it returns false'. Refute it at one input. -/
def fnExactMatchWrong : ChangeSpec := { name := "fnExactMatch", fn := fun _ => fun
  | [d1, d2, d3] => { results := [.lit (.bool false)], args := [d1, d2, d3] }
  | _ => none }
def FnExactMatchWrongFalsely : Prop := fnExactMatchRow.holds Tryd.pinned (OpenSpec.ofChange fnExactMatchWrong)

/-- 'laws.FnExactScan': WHATEVER THE INPUT: true; the input reads as it did. -/
def fnExactScanSpec : ChangeSpec := { name := "fnExactScan", fn := fun _ => fun
  | [d1, d2, d3, d4, d5] => { results := [.lit (.bool true)], args := [d1, d2, d3, d4, d5] }
  | _ => none }
def fnExactScanRow : OpenClaim := { program := "ytfbjfcnkmhnimaadoor", sum := "84286ef8bd15b470c2fafc21c677bb62e4ab649823665cf87cb83e31035b7cb2", func := "loop.example/pub-mailparts/laws.FnExactScan", spec := "fnExactScan", named := ["io.ErrUnexpectedEOF", "io.EOF"], apart := false, laid := [("io.EOF", laid_io_EOF), ("io.ErrUnexpectedEOF", laid_io_ErrUnexpectedEOF)] }
def FnExactScanSaid : Prop := fnExactScanRow.holds Tryd.pinned (OpenSpec.ofChange fnExactScanSpec)

/-- ITS FALSE NEIGHBOUR: 'it returns false'. Refute it at one input. -/
def fnExactScanWrong : ChangeSpec := { name := "fnExactScan", fn := fun _ => fun
  | [d1, d2, d3, d4, d5] => { results := [.lit (.bool false)], args := [d1, d2, d3, d4, d5] }
  | _ => none }
def FnExactScanWrongFalsely : Prop := fnExactScanRow.holds Tryd.pinned (OpenSpec.ofChange fnExactScanWrong)

/-- 'laws.FnScanSafe': WHATEVER THE INPUT: true; the input reads as it did. -/
def fnScanSafeSpec : ChangeSpec := { name := "fnScanSafe", fn := fun _ => fun
  | [d1, d2, d3, d4, d5] => { results := [.lit (.bool true)], args := [d1, d2, d3, d4, d5] }
  | _ => none }
def fnScanSafeRow : OpenClaim := { program := "ytfbjfcnkmhnimaadoor", sum := "84286ef8bd15b470c2fafc21c677bb62e4ab649823665cf87cb83e31035b7cb2", func := "loop.example/pub-mailparts/laws.FnScanSafe", spec := "fnScanSafe", named := ["io.ErrUnexpectedEOF", "io.EOF"], apart := false, laid := [("io.EOF", laid_io_EOF), ("io.ErrUnexpectedEOF", laid_io_ErrUnexpectedEOF)] }
def FnScanSafeSaid : Prop := fnScanSafeRow.holds Tryd.pinned (OpenSpec.ofChange fnScanSafeSpec)

/-- ITS FALSE NEIGHBOUR: 'it returns false'. Refute it at one input. -/
def fnScanSafeWrong : ChangeSpec := { name := "fnScanSafe", fn := fun _ => fun
  | [d1, d2, d3, d4, d5] => { results := [.lit (.bool false)], args := [d1, d2, d3, d4, d5] }
  | _ => none }
def FnScanSafeWrongFalsely : Prop := fnScanSafeRow.holds Tryd.pinned (OpenSpec.ofChange fnScanSafeWrong)

/- THE SECOND FORM. 'bulk': how many values and letters a reading holds, each counted each time it is reached (what is shared counts as often as it is met; a slice's spare places count too). A statement '..UptoSaid' is the law's where the arguments, and the package variables that the reading takes, are together of bulk at most 1048576: NARROWER than '..Said'. Prove '..Said' where nothing that the law and all that it calls make is longer than what came in: it says more and counts as full. Else prove '..UptoSaid'. A law counts once. -/
mutual
def uptoBulk {H : Type} : DataW H → Nat
  | .lit (.string bytes) => bytes.length + 1
  | .lit _ => 1
  | .nil => 1
  | .ptr d => uptoBulk d + 1
  | .slice elems spare => uptoBulkAll elems + uptoBulkAll spare + 1
  | .agg parts => uptoBulkAll parts + 1
  | .iface _ d => uptoBulk d + 1
  | .map entries => uptoBulkEntries entries + 1
  | .held _ => 1
def uptoBulkAll {H : Type} : List (DataW H) → Nat
  | [] => 0
  | d :: r => uptoBulk d + uptoBulkAll r
def uptoBulkEntries {H : Type} : List (Lit × DataW H) → Nat
  | [] => 0
  | x :: r => uptoBulkEntry x + uptoBulkEntries r
def uptoBulkEntry {H : Type} : Lit × DataW H → Nat
  | (.string bytes, d) => bytes.length + uptoBulk d + 1
  | (_, d) => uptoBulk d + 1
 end
def uptoSmall : (H : Type) → List (DataW H) → Bool := fun _ ds => decide (uptoBulkAll ds ≤ 1048576)
def OpenSpec.upto (s : _root_.Go.ChangeSpec) : _root_.Go.OpenSpec := { _root_.Go.OpenSpec.ofChange s with cond := some uptoSmall }

/-- 'laws.FnExactMatch', WHERE WHAT IT READS IS OF BULK AT MOST 1048576: true; the input reads as it did. -/
def fnExactMatchUptoRow : OpenClaim := { program := "ytfbjfcnkmhnimaadoor", sum := "84286ef8bd15b470c2fafc21c677bb62e4ab649823665cf87cb83e31035b7cb2", func := "loop.example/pub-mailparts/laws.FnExactMatch", spec := "fnExactMatch", named := ["io.ErrUnexpectedEOF"], apart := false, laid := [("io.ErrUnexpectedEOF", laid_io_ErrUnexpectedEOF)], narrowed := true }
def FnExactMatchUptoSaid : Prop := fnExactMatchUptoRow.holds Tryd.pinned (OpenSpec.upto fnExactMatchSpec)

/-- 'laws.FnExactScan', WHERE WHAT IT READS IS OF BULK AT MOST 1048576: true; the input reads as it did. -/
def fnExactScanUptoRow : OpenClaim := { program := "ytfbjfcnkmhnimaadoor", sum := "84286ef8bd15b470c2fafc21c677bb62e4ab649823665cf87cb83e31035b7cb2", func := "loop.example/pub-mailparts/laws.FnExactScan", spec := "fnExactScan", named := ["io.ErrUnexpectedEOF", "io.EOF"], apart := false, laid := [("io.EOF", laid_io_EOF), ("io.ErrUnexpectedEOF", laid_io_ErrUnexpectedEOF)], narrowed := true }
def FnExactScanUptoSaid : Prop := fnExactScanUptoRow.holds Tryd.pinned (OpenSpec.upto fnExactScanSpec)

/-- 'laws.FnScanSafe', WHERE WHAT IT READS IS OF BULK AT MOST 1048576: true; the input reads as it did. -/
def fnScanSafeUptoRow : OpenClaim := { program := "ytfbjfcnkmhnimaadoor", sum := "84286ef8bd15b470c2fafc21c677bb62e4ab649823665cf87cb83e31035b7cb2", func := "loop.example/pub-mailparts/laws.FnScanSafe", spec := "fnScanSafe", named := ["io.ErrUnexpectedEOF", "io.EOF"], apart := false, laid := [("io.EOF", laid_io_EOF), ("io.ErrUnexpectedEOF", laid_io_ErrUnexpectedEOF)], narrowed := true }
def FnScanSafeUptoSaid : Prop := fnScanSafeUptoRow.holds Tryd.pinned (OpenSpec.upto fnScanSafeSpec)

end Rows
end Go.Proofs.YtfbjfcnkmhnimaaDoor
