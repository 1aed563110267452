/-
  DERIVED. GIVEN WITH THE SEED: THE CARDS: each row of YtfbjfcnkmhnimaaDoorRows.lean that lists a variable, with what it lists TIED to the program's text (the seventh form; the later family's looks); each row that meets fmt, with fmt's text TOLD by the authors' own Lean function (tested against real Go, not proved from fmt's source: count such statements apart). THE CARD IS WHAT COUNTS. Prove the row's statement (the work); the ties are given (YtfbjfcnkmhnimaaDoorTie.lean); close each card by the builder's one call (the guide's Derived/Test/ToyasCard.lean, 'card_holds'). Laid BY PROGRAM, IN A SANDBOX (cutbox-door.mjs). By AI agents, Wed Nov 11 2026. No macro, syntax, notation, axiom, sorry.
-/
import Derived.Test.YtfbjfcnkmhnimaaDoorRows
import GoSem.ClaimSeven
namespace Go.Proofs.YtfbjfcnkmhnimaaDoor
namespace Rows

/-- THE TIED CARD OF 'laws.FnExactMatch'. -/
def fnExactMatchCard : Claim7 := { stood := { row := fnExactMatchRow, standIns := [], harness := (true, "835c0ea238fe9e392388ae4f90b9856d0e965e803841b5f0e010139d1c673695"), looks := true }, kinds := [], alts := [], laidByText := true, laidKinds := [.sentinel], laidTests := true, laidLooks := .later }
def FnExactMatchCardSaid : Prop := Claim7.holds Tryd.pinned (.plain (OpenSpec.ofChange fnExactMatchSpec)) fnExactMatchCard

/-- THE TIED CARD OF 'laws.FnExactScan'. -/
def fnExactScanCard : Claim7 := { stood := { row := fnExactScanRow, standIns := [], harness := (true, "835c0ea238fe9e392388ae4f90b9856d0e965e803841b5f0e010139d1c673695"), looks := true }, kinds := [], alts := [], laidByText := true, laidKinds := [.sentinel, .sentinel], laidTests := true, laidLooks := .later }
def FnExactScanCardSaid : Prop := Claim7.holds Tryd.pinned (.plain (OpenSpec.ofChange fnExactScanSpec)) fnExactScanCard

/-- THE TIED CARD OF 'laws.FnScanSafe'. -/
def fnScanSafeCard : Claim7 := { stood := { row := fnScanSafeRow, standIns := [], harness := (true, "835c0ea238fe9e392388ae4f90b9856d0e965e803841b5f0e010139d1c673695"), looks := true }, kinds := [], alts := [], laidByText := true, laidKinds := [.sentinel, .sentinel], laidTests := true, laidLooks := .later }
def FnScanSafeCardSaid : Prop := Claim7.holds Tryd.pinned (.plain (OpenSpec.ofChange fnScanSafeSpec)) fnScanSafeCard

/-- THE SECOND FORM's CARD OF 'laws.FnExactMatch'. -/
def fnExactMatchUptoCard : Claim7 := { stood := { row := fnExactMatchUptoRow, standIns := [], harness := (true, "835c0ea238fe9e392388ae4f90b9856d0e965e803841b5f0e010139d1c673695"), looks := true }, kinds := [], alts := [], laidByText := true, laidKinds := [.sentinel], laidTests := true, laidLooks := .later }
def FnExactMatchUptoCardSaid : Prop := Claim7.holds Tryd.pinned (.plain (OpenSpec.upto fnExactMatchSpec)) fnExactMatchUptoCard

/-- THE SECOND FORM's CARD OF 'laws.FnExactScan'. -/
def fnExactScanUptoCard : Claim7 := { stood := { row := fnExactScanUptoRow, standIns := [], harness := (true, "835c0ea238fe9e392388ae4f90b9856d0e965e803841b5f0e010139d1c673695"), looks := true }, kinds := [], alts := [], laidByText := true, laidKinds := [.sentinel, .sentinel], laidTests := true, laidLooks := .later }
def FnExactScanUptoCardSaid : Prop := Claim7.holds Tryd.pinned (.plain (OpenSpec.upto fnExactScanSpec)) fnExactScanUptoCard

/-- THE SECOND FORM's CARD OF 'laws.FnScanSafe'. -/
def fnScanSafeUptoCard : Claim7 := { stood := { row := fnScanSafeUptoRow, standIns := [], harness := (true, "835c0ea238fe9e392388ae4f90b9856d0e965e803841b5f0e010139d1c673695"), looks := true }, kinds := [], alts := [], laidByText := true, laidKinds := [.sentinel, .sentinel], laidTests := true, laidLooks := .later }
def FnScanSafeUptoCardSaid : Prop := Claim7.holds Tryd.pinned (.plain (OpenSpec.upto fnScanSafeSpec)) fnScanSafeUptoCard
end Rows
end Go.Proofs.YtfbjfcnkmhnimaaDoor
