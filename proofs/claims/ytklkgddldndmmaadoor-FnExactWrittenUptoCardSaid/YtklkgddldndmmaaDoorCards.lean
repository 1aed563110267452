/-
  DERIVED. GIVEN WITH THE SEED: THE CARDS: each row of YtklkgddldndmmaaDoorRows.lean that lists a variable, with what it lists TIED to the program's text (the seventh form; the later family's looks); each row that meets fmt, with fmt's text TOLD by the authors' own Lean function (tested against real Go, not proved from fmt's source: count such statements apart). THE CARD IS WHAT COUNTS. Prove the row's statement (the work); the ties are given (YtklkgddldndmmaaDoorTie.lean); close each card by the builder's one call (the guide's Derived/Test/ToyasCard.lean, 'card_holds'). Laid BY PROGRAM, IN A SANDBOX (cutbox-door.mjs). By AI agents, Wed Nov 11 2026. No macro, syntax, notation, axiom, sorry.
-/
import Derived.Test.YtklkgddldndmmaaDoorRows
import GoSem.ClaimSeven
namespace Go.Proofs.YtklkgddldndmmaaDoor
namespace Rows

/-- THE TIED CARD OF 'laws.FnExactBoundary'. -/
def fnExactBoundaryCard : Claim7 := { stood := { row := fnExactBoundaryRow, standIns := [], harness := (true, "8e9cf2fdb3fd5e8fa6320cec3e7f4c87b63236277cdce8364ca0eb6462eb68bc"), looks := true }, kinds := [], alts := [], laidByText := true, laidKinds := [.sentinel, .sentinel, .sentinel, .sentinel], laidTests := true, laidLooks := .later }
def FnExactBoundaryCardSaid : Prop := Claim7.holds Tryd.pinned (.plain (OpenSpec.ofChange fnExactBoundarySpec)) fnExactBoundaryCard

/-- THE TIED CARD OF 'laws.FnSets'. -/
def fnSetsCard : Claim7 := { stood := { row := fnSetsRow, standIns := [], harness := (true, "8e9cf2fdb3fd5e8fa6320cec3e7f4c87b63236277cdce8364ca0eb6462eb68bc"), looks := true }, kinds := [], alts := [], laidByText := true, laidKinds := [.sentinel, .sentinel, .sentinel, .sentinel], laidTests := true, laidLooks := .later }
def FnSetsCardSaid : Prop := Claim7.holds Tryd.pinned (.plain (OpenSpec.ofChange fnSetsSpec)) fnSetsCard

/-- THE TIED CARD OF 'laws.FnAppend'. -/
def fnAppendCard : Claim7 := { stood := { row := fnAppendRow, standIns := [], harness := (true, "8e9cf2fdb3fd5e8fa6320cec3e7f4c87b63236277cdce8364ca0eb6462eb68bc"), looks := true }, kinds := [], alts := [], laidByText := true, laidKinds := [.sentinel, .sentinel, .sentinel, .sentinel], laidTests := true, laidLooks := .later }
def FnAppendCardSaid : Prop := Claim7.holds Tryd.pinned (.plain (OpenSpec.ofChange fnAppendSpec)) fnAppendCard

/-- THE TIED CARD OF 'laws.FnExactWrite'. -/
def fnExactWriteCard : Claim7 := { stood := { row := fnExactWriteRow, standIns := [], harness := (true, "8e9cf2fdb3fd5e8fa6320cec3e7f4c87b63236277cdce8364ca0eb6462eb68bc"), looks := true }, kinds := [], alts := [], laidByText := true, laidKinds := [.sentinel, .sentinel, .sentinel, .sentinel], laidTests := true, laidLooks := .later }
def FnExactWriteCardSaid : Prop := Claim7.holds Tryd.pinned (.plain (OpenSpec.ofChange fnExactWriteSpec)) fnExactWriteCard

/-- THE TIED CARD OF 'laws.FnOld'. -/
def fnOldCard : Claim7 := { stood := { row := fnOldRow, standIns := [], harness := (true, "8e9cf2fdb3fd5e8fa6320cec3e7f4c87b63236277cdce8364ca0eb6462eb68bc"), looks := true }, kinds := [], alts := [], laidByText := true, laidKinds := [.sentinel, .sentinel, .sentinel, .sentinel], laidTests := true, laidLooks := .later }
def FnOldCardSaid : Prop := Claim7.holds Tryd.pinned (.plain (OpenSpec.ofChange fnOldSpec)) fnOldCard

/-- THE TIED CARD OF 'laws.FnPieces'. -/
def fnPiecesCard : Claim7 := { stood := { row := fnPiecesRow, standIns := [], harness := (true, "8e9cf2fdb3fd5e8fa6320cec3e7f4c87b63236277cdce8364ca0eb6462eb68bc"), looks := true }, kinds := [], alts := [], laidByText := true, laidKinds := [.sentinel, .sentinel, .sentinel, .sentinel], laidTests := true, laidLooks := .later }
def FnPiecesCardSaid : Prop := Claim7.holds Tryd.pinned (.plain (OpenSpec.ofChange fnPiecesSpec)) fnPiecesCard

/-- THE TIED CARD OF 'laws.FnExactWritten'. -/
def fnExactWrittenCard : Claim7 := { stood := { row := fnExactWrittenRow, standIns := [], harness := (true, "8e9cf2fdb3fd5e8fa6320cec3e7f4c87b63236277cdce8364ca0eb6462eb68bc"), looks := true }, kinds := [], alts := [], laidByText := true, laidKinds := [.sentinel, .sentinel, .sentinel, .sentinel], laidTests := true, laidLooks := .later }
def FnExactWrittenCardSaid : Prop := Claim7.holds Tryd.pinned (.plain (OpenSpec.ofChange fnExactWrittenSpec)) fnExactWrittenCard

/-- THE SECOND FORM's CARD OF 'laws.FnExactBoundary'. -/
def fnExactBoundaryUptoCard : Claim7 := { stood := { row := fnExactBoundaryUptoRow, standIns := [], harness := (true, "8e9cf2fdb3fd5e8fa6320cec3e7f4c87b63236277cdce8364ca0eb6462eb68bc"), looks := true }, kinds := [], alts := [], laidByText := true, laidKinds := [.sentinel, .sentinel, .sentinel, .sentinel], laidTests := true, laidLooks := .later }
def FnExactBoundaryUptoCardSaid : Prop := Claim7.holds Tryd.pinned (.plain (OpenSpec.upto fnExactBoundarySpec)) fnExactBoundaryUptoCard

/-- THE SECOND FORM's CARD OF 'laws.FnSets'. -/
def fnSetsUptoCard : Claim7 := { stood := { row := fnSetsUptoRow, standIns := [], harness := (true, "8e9cf2fdb3fd5e8fa6320cec3e7f4c87b63236277cdce8364ca0eb6462eb68bc"), looks := true }, kinds := [], alts := [], laidByText := true, laidKinds := [.sentinel, .sentinel, .sentinel, .sentinel], laidTests := true, laidLooks := .later }
def FnSetsUptoCardSaid : Prop := Claim7.holds Tryd.pinned (.plain (OpenSpec.upto fnSetsSpec)) fnSetsUptoCard

/-- THE SECOND FORM's CARD OF 'laws.FnAppend'. -/
def fnAppendUptoCard : Claim7 := { stood := { row := fnAppendUptoRow, standIns := [], harness := (true, "8e9cf2fdb3fd5e8fa6320cec3e7f4c87b63236277cdce8364ca0eb6462eb68bc"), looks := true }, kinds := [], alts := [], laidByText := true, laidKinds := [.sentinel, .sentinel, .sentinel, .sentinel], laidTests := true, laidLooks := .later }
def FnAppendUptoCardSaid : Prop := Claim7.holds Tryd.pinned (.plain (OpenSpec.upto fnAppendSpec)) fnAppendUptoCard

/-- THE SECOND FORM's CARD OF 'laws.FnExactWrite'. -/
def fnExactWriteUptoCard : Claim7 := { stood := { row := fnExactWriteUptoRow, standIns := [], harness := (true, "8e9cf2fdb3fd5e8fa6320cec3e7f4c87b63236277cdce8364ca0eb6462eb68bc"), looks := true }, kinds := [], alts := [], laidByText := true, laidKinds := [.sentinel, .sentinel, .sentinel, .sentinel], laidTests := true, laidLooks := .later }
def FnExactWriteUptoCardSaid : Prop := Claim7.holds Tryd.pinned (.plain (OpenSpec.upto fnExactWriteSpec)) fnExactWriteUptoCard

/-- THE SECOND FORM's CARD OF 'laws.FnOld'. -/
def fnOldUptoCard : Claim7 := { stood := { row := fnOldUptoRow, standIns := [], harness := (true, "8e9cf2fdb3fd5e8fa6320cec3e7f4c87b63236277cdce8364ca0eb6462eb68bc"), looks := true }, kinds := [], alts := [], laidByText := true, laidKinds := [.sentinel, .sentinel, .sentinel, .sentinel], laidTests := true, laidLooks := .later }
def FnOldUptoCardSaid : Prop := Claim7.holds Tryd.pinned (.plain (OpenSpec.upto fnOldSpec)) fnOldUptoCard

/-- THE SECOND FORM's CARD OF 'laws.FnPieces'. -/
def fnPiecesUptoCard : Claim7 := { stood := { row := fnPiecesUptoRow, standIns := [], harness := (true, "8e9cf2fdb3fd5e8fa6320cec3e7f4c87b63236277cdce8364ca0eb6462eb68bc"), looks := true }, kinds := [], alts := [], laidByText := true, laidKinds := [.sentinel, .sentinel, .sentinel, .sentinel], laidTests := true, laidLooks := .later }
def FnPiecesUptoCardSaid : Prop := Claim7.holds Tryd.pinned (.plain (OpenSpec.upto fnPiecesSpec)) fnPiecesUptoCard

/-- THE SECOND FORM's CARD OF 'laws.FnExactWritten'. -/
def fnExactWrittenUptoCard : Claim7 := { stood := { row := fnExactWrittenUptoRow, standIns := [], harness := (true, "8e9cf2fdb3fd5e8fa6320cec3e7f4c87b63236277cdce8364ca0eb6462eb68bc"), looks := true }, kinds := [], alts := [], laidByText := true, laidKinds := [.sentinel, .sentinel, .sentinel, .sentinel], laidTests := true, laidLooks := .later }
def FnExactWrittenUptoCardSaid : Prop := Claim7.holds Tryd.pinned (.plain (OpenSpec.upto fnExactWrittenSpec)) fnExactWrittenUptoCard
end Rows
end Go.Proofs.YtklkgddldndmmaaDoor
