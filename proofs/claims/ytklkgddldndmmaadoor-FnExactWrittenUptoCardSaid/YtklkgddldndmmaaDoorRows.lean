/-
  NARROWER THAN 'FOR EVERY INPUT', by the rows' own cells (each row's printed sentence says how): FnExactBoundary: laid · FnSets: laid · FnAppend: laid · FnExactWrite: laid · FnOld: laid · FnPieces: laid · FnExactWritten: laid.
  DERIVED. THE GIVEN ROWS OF THIS SEAT. 7 by the template 'for every input the law returns true; each argument reads behind the call as it read before'; 0 by the template 'total and deterministic' (their statements: YtklkgddldndmmaaDoorTotals.lean).
  GIVEN WITH THE SEED: the statements are not yours to turn. If you find one false, say at which input.
  Laid BY PROGRAM, IN A SANDBOX (cutbox-rows.mjs): the forced cells as the released guide's own fill.sh prints them over the translation 8e7830ae872587a4… (all of the seat's roots in one cut). By AI agents, Wed Nov 11 2026. No macro, syntax, notation, axiom, sorry.
-/
import Derived.Test.YtklkgddldndmmaaDoorChecked
import GoSem.Claim
import GoSem.ClaimJoined
import GoSem.ClaimMapViews
import Derived.JoinedTies
import Derived.KernelRfl
namespace Go.Proofs.YtklkgddldndmmaaDoor
/- THE CELL 'sum', in the pinned program and in every row, IS THE sha256 OF THE DUMP (.gsa) THAT YtklkgddldndmmaaDoorProg.lean LOADS. Nothing in Lean hashes anything: it is a label: what it is worth is what the hold of that sum in a sandbox is worth. -/
noncomputable def Tryd.pinned : Pinned := { name := "ytklkgddldndmmaadoor", sum := "8e7830ae872587a4e852ed4ceab7f1cf15b0e33a3d6f8aa24f60d19c4a6ad1d1", checked := Tryd.checked }
namespace Rows
def none {H : Type} : Left H := { results := [], args := [] }

/- WHAT THE LISTED PACKAGE-LEVEL VARIABLES READ AS WHEN THE CALL BEGINS. Each datum BY PROGRAM (the guide's laid-datum.mjs) off the statement by which the dump's own 'gosem.cut.vars' lays the variable. In a bare row this is a premise. The card (YtklkgddldndmmaaDoorCards.lean) ties it to the program's text. -/
def laid_io_ErrShortWrite {H : Type} : DataW H := .iface "*errors.errorString" (.ptr (.agg [.lit (.string [115, 104, 111, 114, 116, 32, 119, 114, 105, 116, 101])]))
def laid_io_errInvalidWrite {H : Type} : DataW H := .iface "*errors.errorString" (.ptr (.agg [.lit (.string [105, 110, 118, 97, 108, 105, 100, 32, 119, 114, 105, 116, 101, 32, 114, 101, 115, 117, 108, 116])]))
def laid_io_EOF {H : Type} : DataW H := .iface "*errors.errorString" (.ptr (.agg [.lit (.string [69, 79, 70])]))
def laid_bytes_ErrTooLarge {H : Type} : DataW H := .iface "*errors.errorString" (.ptr (.agg [.lit (.string [98, 121, 116, 101, 115, 46, 66, 117, 102, 102, 101, 114, 58, 32, 116, 111, 111, 32, 108, 97, 114, 103, 101])]))

/-- 'laws.FnExactBoundary': WHATEVER THE INPUT: true; the input reads as it did. -/
def fnExactBoundarySpec : ChangeSpec := { name := "fnExactBoundary", fn := fun _ => fun
  | [d] => { results := [.lit (.bool true)], args := [d] }
  | _ => none }
def fnExactBoundaryRow : OpenClaim := { program := "ytklkgddldndmmaadoor", sum := "8e7830ae872587a4e852ed4ceab7f1cf15b0e33a3d6f8aa24f60d19c4a6ad1d1", func := "loop.example/pub-mailparts/laws.FnExactBoundary", spec := "fnExactBoundary", unfollowed := true, recurses := true, named := ["bytes.ErrTooLarge", "io.errInvalidWrite", "io.ErrShortWrite", "io.EOF"], apart := false, laid := [("io.ErrShortWrite", laid_io_ErrShortWrite), ("io.errInvalidWrite", laid_io_errInvalidWrite), ("io.EOF", laid_io_EOF), ("bytes.ErrTooLarge", laid_bytes_ErrTooLarge)] }
def FnExactBoundarySaid : Prop := fnExactBoundaryRow.holds Tryd.pinned (OpenSpec.ofChange fnExactBoundarySpec)

/-- ITS FALSE NEIGHBOUR: 'it returns false'. Refute it at one input. -/
def fnExactBoundaryWrong : ChangeSpec := { name := "fnExactBoundary", fn := fun _ => fun
  | [d] => { results := [.lit (.bool false)], args := [d] }
  | _ => none }
def FnExactBoundaryWrongFalsely : Prop := fnExactBoundaryRow.holds Tryd.pinned (OpenSpec.ofChange fnExactBoundaryWrong)

/-- 'laws.FnSets': WHATEVER THE INPUT: true; the input reads as it did. -/
def fnSetsSpec : ChangeSpec := { name := "fnSets", fn := fun _ => fun
  | [d] => { results := [.lit (.bool true)], args := [d] }
  | _ => none }
def fnSetsRow : OpenClaim := { program := "ytklkgddldndmmaadoor", sum := "8e7830ae872587a4e852ed4ceab7f1cf15b0e33a3d6f8aa24f60d19c4a6ad1d1", func := "loop.example/pub-mailparts/laws.FnSets", spec := "fnSets", unfollowed := true, recurses := true, named := ["bytes.ErrTooLarge", "io.errInvalidWrite", "io.ErrShortWrite", "io.EOF"], apart := false, laid := [("io.ErrShortWrite", laid_io_ErrShortWrite), ("io.errInvalidWrite", laid_io_errInvalidWrite), ("io.EOF", laid_io_EOF), ("bytes.ErrTooLarge", laid_bytes_ErrTooLarge)] }
def FnSetsSaid : Prop := fnSetsRow.holds Tryd.pinned (OpenSpec.ofChange fnSetsSpec)

/-- ITS FALSE NEIGHBOUR: 'it returns false'. Refute it at one input. -/
def fnSetsWrong : ChangeSpec := { name := "fnSets", fn := fun _ => fun
  | [d] => { results := [.lit (.bool false)], args := [d] }
  | _ => none }
def FnSetsWrongFalsely : Prop := fnSetsRow.holds Tryd.pinned (OpenSpec.ofChange fnSetsWrong)

/-- 'laws.FnAppend': WHATEVER THE INPUT: true; the input reads as it did. -/
def fnAppendSpec : ChangeSpec := { name := "fnAppend", fn := fun _ => fun
  | [d1, d2, d3] => { results := [.lit (.bool true)], args := [d1, d2, d3] }
  | _ => none }
def fnAppendRow : OpenClaim := { program := "ytklkgddldndmmaadoor", sum := "8e7830ae872587a4e852ed4ceab7f1cf15b0e33a3d6f8aa24f60d19c4a6ad1d1", func := "loop.example/pub-mailparts/laws.FnAppend", spec := "fnAppend", unfollowed := true, recurses := true, named := ["bytes.ErrTooLarge", "io.errInvalidWrite", "io.ErrShortWrite", "io.EOF"], apart := false, laid := [("io.ErrShortWrite", laid_io_ErrShortWrite), ("io.errInvalidWrite", laid_io_errInvalidWrite), ("io.EOF", laid_io_EOF), ("bytes.ErrTooLarge", laid_bytes_ErrTooLarge)] }
def FnAppendSaid : Prop := fnAppendRow.holds Tryd.pinned (OpenSpec.ofChange fnAppendSpec)

/-- ITS FALSE NEIGHBOUR: 'it returns false'. Refute it at one input. -/
def fnAppendWrong : ChangeSpec := { name := "fnAppend", fn := fun _ => fun
  | [d1, d2, d3] => { results := [.lit (.bool false)], args := [d1, d2, d3] }
  | _ => none }
def FnAppendWrongFalsely : Prop := fnAppendRow.holds Tryd.pinned (OpenSpec.ofChange fnAppendWrong)

/-- 'laws.FnExactWrite': WHATEVER THE INPUT: true; the input reads as it did. -/
def fnExactWriteSpec : ChangeSpec := { name := "fnExactWrite", fn := fun _ => fun
  | [d1, d2] => { results := [.lit (.bool true)], args := [d1, d2] }
  | _ => none }
def fnExactWriteRow : OpenClaim := { program := "ytklkgddldndmmaadoor", sum := "8e7830ae872587a4e852ed4ceab7f1cf15b0e33a3d6f8aa24f60d19c4a6ad1d1", func := "loop.example/pub-mailparts/laws.FnExactWrite", spec := "fnExactWrite", unfollowed := true, recurses := true, named := ["bytes.ErrTooLarge", "io.errInvalidWrite", "io.ErrShortWrite", "io.EOF"], apart := false, laid := [("io.ErrShortWrite", laid_io_ErrShortWrite), ("io.errInvalidWrite", laid_io_errInvalidWrite), ("io.EOF", laid_io_EOF), ("bytes.ErrTooLarge", laid_bytes_ErrTooLarge)] }
def FnExactWriteSaid : Prop := fnExactWriteRow.holds Tryd.pinned (OpenSpec.ofChange fnExactWriteSpec)

/-- ITS FALSE NEIGHBOUR: 'it returns false'. Refute it at one input. -/
def fnExactWriteWrong : ChangeSpec := { name := "fnExactWrite", fn := fun _ => fun
  | [d1, d2] => { results := [.lit (.bool false)], args := [d1, d2] }
  | _ => none }
def FnExactWriteWrongFalsely : Prop := fnExactWriteRow.holds Tryd.pinned (OpenSpec.ofChange fnExactWriteWrong)

/-- 'laws.FnOld': WHATEVER THE INPUT: true; the input reads as it did. -/
def fnOldSpec : ChangeSpec := { name := "fnOld", fn := fun _ => fun
  | [d1, d2, d3, d4] => { results := [.lit (.bool true)], args := [d1, d2, d3, d4] }
  | _ => none }
def fnOldRow : OpenClaim := { program := "ytklkgddldndmmaadoor", sum := "8e7830ae872587a4e852ed4ceab7f1cf15b0e33a3d6f8aa24f60d19c4a6ad1d1", func := "loop.example/pub-mailparts/laws.FnOld", spec := "fnOld", unfollowed := true, recurses := true, named := ["bytes.ErrTooLarge", "io.errInvalidWrite", "io.ErrShortWrite", "io.EOF"], apart := false, laid := [("io.ErrShortWrite", laid_io_ErrShortWrite), ("io.errInvalidWrite", laid_io_errInvalidWrite), ("io.EOF", laid_io_EOF), ("bytes.ErrTooLarge", laid_bytes_ErrTooLarge)] }
def FnOldSaid : Prop := fnOldRow.holds Tryd.pinned (OpenSpec.ofChange fnOldSpec)

/-- ITS FALSE NEIGHBOUR: 'it returns false'. Refute it at one input. -/
def fnOldWrong : ChangeSpec := { name := "fnOld", fn := fun _ => fun
  | [d1, d2, d3, d4] => { results := [.lit (.bool false)], args := [d1, d2, d3, d4] }
  | _ => none }
def FnOldWrongFalsely : Prop := fnOldRow.holds Tryd.pinned (OpenSpec.ofChange fnOldWrong)

/-- 'laws.FnPieces': WHATEVER THE INPUT: true; the input reads as it did. -/
def fnPiecesSpec : ChangeSpec := { name := "fnPieces", fn := fun _ => fun
  | [d1, d2, d3] => { results := [.lit (.bool true)], args := [d1, d2, d3] }
  | _ => none }
def fnPiecesRow : OpenClaim := { program := "ytklkgddldndmmaadoor", sum := "8e7830ae872587a4e852ed4ceab7f1cf15b0e33a3d6f8aa24f60d19c4a6ad1d1", func := "loop.example/pub-mailparts/laws.FnPieces", spec := "fnPieces", unfollowed := true, recurses := true, named := ["bytes.ErrTooLarge", "io.errInvalidWrite", "io.ErrShortWrite", "io.EOF"], apart := false, laid := [("io.ErrShortWrite", laid_io_ErrShortWrite), ("io.errInvalidWrite", laid_io_errInvalidWrite), ("io.EOF", laid_io_EOF), ("bytes.ErrTooLarge", laid_bytes_ErrTooLarge)] }
def FnPiecesSaid : Prop := fnPiecesRow.holds Tryd.pinned (OpenSpec.ofChange fnPiecesSpec)

/-- ITS FALSE NEIGHBOUR: 'it returns false'. Refute it at one input. -/
def fnPiecesWrong : ChangeSpec := { name := "fnPieces", fn := fun _ => fun
  | [d1, d2, d3] => { results := [.lit (.bool false)], args := [d1, d2, d3] }
  | _ => none }
def FnPiecesWrongFalsely : Prop := fnPiecesRow.holds Tryd.pinned (OpenSpec.ofChange fnPiecesWrong)

/-- 'laws.FnExactWritten': WHATEVER THE INPUT: true; the input reads as it did. -/
def fnExactWrittenSpec : ChangeSpec := { name := "fnExactWritten", fn := fun _ => fun
  | [d1, d2] => { results := [.lit (.bool true)], args := [d1, d2] }
  | _ => none }
def fnExactWrittenRow : OpenClaim := { program := "ytklkgddldndmmaadoor", sum := "8e7830ae872587a4e852ed4ceab7f1cf15b0e33a3d6f8aa24f60d19c4a6ad1d1", func := "loop.example/pub-mailparts/laws.FnExactWritten", spec := "fnExactWritten", inPlace := ["slices.overlaps[loop.example/pub-mailparts/impl.Header]"], unfollowed := true, recurses := true, named := ["bytes.ErrTooLarge", "io.errInvalidWrite", "io.ErrShortWrite", "io.EOF"], apart := false, laid := [("io.ErrShortWrite", laid_io_ErrShortWrite), ("io.errInvalidWrite", laid_io_errInvalidWrite), ("io.EOF", laid_io_EOF), ("bytes.ErrTooLarge", laid_bytes_ErrTooLarge)] }
def FnExactWrittenSaid : Prop := fnExactWrittenRow.holds Tryd.pinned (OpenSpec.ofChange fnExactWrittenSpec)

/-- ITS FALSE NEIGHBOUR: 'it returns false'. Refute it at one input. -/
def fnExactWrittenWrong : ChangeSpec := { name := "fnExactWritten", fn := fun _ => fun
  | [d1, d2] => { results := [.lit (.bool false)], args := [d1, d2] }
  | _ => none }
def FnExactWrittenWrongFalsely : Prop := fnExactWrittenRow.holds Tryd.pinned (OpenSpec.ofChange fnExactWrittenWrong)

/- THE SECOND FORM. 'bulk': how many values and letters a reading holds, each counted each time it is reached (what is shared counts as often as it is met; a slice's spare places count too). A statement '..UptoSaid' is the law's where the arguments, and the package variables that the reading takes, are together of bulk at most 1048576: NARROWER than '..Said'. Prove '..Said' where nothing that the law and all that it calls make is longer than what came in: it says more and counts as full. Else prove '..UptoSaid'. A law counts once. -/
mutual
def uptoBulk {H : Type} : DataW H → Nat
  | .lit (.string bytes) => bytes.length + 1
  | .lit _ => 1
  | .nil => 1
  | .ptr d => uptoBulk d + 1
  | .slice elems spare => uptoBulkAll elems + uptoBulkAll spare + 1
  | .agg parts => uptoBulkAll parts + 1
  | .iface _ d => uptoBulk d + 1
  | .map entries => uptoBulkEntries entries + 1
  | .held _ => 1
def uptoBulkAll {H : Type} : List (DataW H) → Nat
  | [] => 0
  | d :: r => uptoBulk d + uptoBulkAll r
def uptoBulkEntries {H : Type} : List (Lit × DataW H) → Nat
  | [] => 0
  | x :: r => uptoBulkEntry x + uptoBulkEntries r
def uptoBulkEntry {H : Type} : Lit × DataW H → Nat
  | (.string bytes, d) => bytes.length + uptoBulk d + 1
  | (_, d) => uptoBulk d + 1
 end
def uptoSmall : (H : Type) → List (DataW H) → Bool := fun _ ds => decide (uptoBulkAll ds ≤ 1048576)
def OpenSpec.upto (s : _root_.Go.ChangeSpec) : _root_.Go.OpenSpec := { _root_.Go.OpenSpec.ofChange s with cond := some uptoSmall }

/-- 'laws.FnExactBoundary', WHERE WHAT IT READS IS OF BULK AT MOST 1048576: true; the input reads as it did. -/
def fnExactBoundaryUptoRow : OpenClaim := { program := "ytklkgddldndmmaadoor", sum := "8e7830ae872587a4e852ed4ceab7f1cf15b0e33a3d6f8aa24f60d19c4a6ad1d1", func := "loop.example/pub-mailparts/laws.FnExactBoundary", spec := "fnExactBoundary", unfollowed := true, recurses := true, named := ["bytes.ErrTooLarge", "io.errInvalidWrite", "io.ErrShortWrite", "io.EOF"], apart := false, laid := [("io.ErrShortWrite", laid_io_ErrShortWrite), ("io.errInvalidWrite", laid_io_errInvalidWrite), ("io.EOF", laid_io_EOF), ("bytes.ErrTooLarge", laid_bytes_ErrTooLarge)], narrowed := true }
def FnExactBoundaryUptoSaid : Prop := fnExactBoundaryUptoRow.holds Tryd.pinned (OpenSpec.upto fnExactBoundarySpec)

/-- 'laws.FnSets', WHERE WHAT IT READS IS OF BULK AT MOST 1048576: true; the input reads as it did. -/
def fnSetsUptoRow : OpenClaim := { program := "ytklkgddldndmmaadoor", sum := "8e7830ae872587a4e852ed4ceab7f1cf15b0e33a3d6f8aa24f60d19c4a6ad1d1", func := "loop.example/pub-mailparts/laws.FnSets", spec := "fnSets", unfollowed := true, recurses := true, named := ["bytes.ErrTooLarge", "io.errInvalidWrite", "io.ErrShortWrite", "io.EOF"], apart := false, laid := [("io.ErrShortWrite", laid_io_ErrShortWrite), ("io.errInvalidWrite", laid_io_errInvalidWrite), ("io.EOF", laid_io_EOF), ("bytes.ErrTooLarge", laid_bytes_ErrTooLarge)], narrowed := true }
def FnSetsUptoSaid : Prop := fnSetsUptoRow.holds Tryd.pinned (OpenSpec.upto fnSetsSpec)

/-- 'laws.FnAppend', WHERE WHAT IT READS IS OF BULK AT MOST 1048576: true; the input reads as it did. -/
def fnAppendUptoRow : OpenClaim := { program := "ytklkgddldndmmaadoor", sum := "8e7830ae872587a4e852ed4ceab7f1cf15b0e33a3d6f8aa24f60d19c4a6ad1d1", func := "loop.example/pub-mailparts/laws.FnAppend", spec := "fnAppend", unfollowed := true, recurses := true, named := ["bytes.ErrTooLarge", "io.errInvalidWrite", "io.ErrShortWrite", "io.EOF"], apart := false, laid := [("io.ErrShortWrite", laid_io_ErrShortWrite), ("io.errInvalidWrite", laid_io_errInvalidWrite), ("io.EOF", laid_io_EOF), ("bytes.ErrTooLarge", laid_bytes_ErrTooLarge)], narrowed := true }
def FnAppendUptoSaid : Prop := fnAppendUptoRow.holds Tryd.pinned (OpenSpec.upto fnAppendSpec)

/-- 'laws.FnExactWrite', WHERE WHAT IT READS IS OF BULK AT MOST 1048576: true; the input reads as it did. -/
def fnExactWriteUptoRow : OpenClaim := { program := "ytklkgddldndmmaadoor", sum := "8e7830ae872587a4e852ed4ceab7f1cf15b0e33a3d6f8aa24f60d19c4a6ad1d1", func := "loop.example/pub-mailparts/laws.FnExactWrite", spec := "fnExactWrite", unfollowed := true, recurses := true, named := ["bytes.ErrTooLarge", "io.errInvalidWrite", "io.ErrShortWrite", "io.EOF"], apart := false, laid := [("io.ErrShortWrite", laid_io_ErrShortWrite), ("io.errInvalidWrite", laid_io_errInvalidWrite), ("io.EOF", laid_io_EOF), ("bytes.ErrTooLarge", laid_bytes_ErrTooLarge)], narrowed := true }
def FnExactWriteUptoSaid : Prop := fnExactWriteUptoRow.holds Tryd.pinned (OpenSpec.upto fnExactWriteSpec)

/-- 'laws.FnOld', WHERE WHAT IT READS IS OF BULK AT MOST 1048576: true; the input reads as it did. -/
def fnOldUptoRow : OpenClaim := { program := "ytklkgddldndmmaadoor", sum := "8e7830ae872587a4e852ed4ceab7f1cf15b0e33a3d6f8aa24f60d19c4a6ad1d1", func := "loop.example/pub-mailparts/laws.FnOld", spec := "fnOld", unfollowed := true, recurses := true, named := ["bytes.ErrTooLarge", "io.errInvalidWrite", "io.ErrShortWrite", "io.EOF"], apart := false, laid := [("io.ErrShortWrite", laid_io_ErrShortWrite), ("io.errInvalidWrite", laid_io_errInvalidWrite), ("io.EOF", laid_io_EOF), ("bytes.ErrTooLarge", laid_bytes_ErrTooLarge)], narrowed := true }
def FnOldUptoSaid : Prop := fnOldUptoRow.holds Tryd.pinned (OpenSpec.upto fnOldSpec)

/-- 'laws.FnPieces', WHERE WHAT IT READS IS OF BULK AT MOST 1048576: true; the input reads as it did. -/
def fnPiecesUptoRow : OpenClaim := { program := "ytklkgddldndmmaadoor", sum := "8e7830ae872587a4e852ed4ceab7f1cf15b0e33a3d6f8aa24f60d19c4a6ad1d1", func := "loop.example/pub-mailparts/laws.FnPieces", spec := "fnPieces", unfollowed := true, recurses := true, named := ["bytes.ErrTooLarge", "io.errInvalidWrite", "io.ErrShortWrite", "io.EOF"], apart := false, laid := [("io.ErrShortWrite", laid_io_ErrShortWrite), ("io.errInvalidWrite", laid_io_errInvalidWrite), ("io.EOF", laid_io_EOF), ("bytes.ErrTooLarge", laid_bytes_ErrTooLarge)], narrowed := true }
def FnPiecesUptoSaid : Prop := fnPiecesUptoRow.holds Tryd.pinned (OpenSpec.upto fnPiecesSpec)

/-- 'laws.FnExactWritten', WHERE WHAT IT READS IS OF BULK AT MOST 1048576: true; the input reads as it did. -/
def fnExactWrittenUptoRow : OpenClaim := { program := "ytklkgddldndmmaadoor", sum := "8e7830ae872587a4e852ed4ceab7f1cf15b0e33a3d6f8aa24f60d19c4a6ad1d1", func := "loop.example/pub-mailparts/laws.FnExactWritten", spec := "fnExactWritten", inPlace := ["slices.overlaps[loop.example/pub-mailparts/impl.Header]"], unfollowed := true, recurses := true, named := ["bytes.ErrTooLarge", "io.errInvalidWrite", "io.ErrShortWrite", "io.EOF"], apart := false, laid := [("io.ErrShortWrite", laid_io_ErrShortWrite), ("io.errInvalidWrite", laid_io_errInvalidWrite), ("io.EOF", laid_io_EOF), ("bytes.ErrTooLarge", laid_bytes_ErrTooLarge)], narrowed := true }
def FnExactWrittenUptoSaid : Prop := fnExactWrittenUptoRow.holds Tryd.pinned (OpenSpec.upto fnExactWrittenSpec)

end Rows
end Go.Proofs.YtklkgddldndmmaaDoor
