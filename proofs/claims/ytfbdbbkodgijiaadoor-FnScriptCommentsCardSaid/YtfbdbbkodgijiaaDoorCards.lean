/-
  DERIVED. GIVEN WITH THE SEED: THE CARDS: each row of YtfbdbbkodgijiaaDoorRows.lean that lists a variable, with what it lists TIED to the program's text (the seventh form; the later family's looks); each row that meets fmt, with fmt's text TOLD by the authors' own Lean function (tested against real Go, not proved from fmt's source: count such statements apart). THE CARD IS WHAT COUNTS. Prove the row's statement (the work); the ties are given (YtfbdbbkodgijiaaDoorTie.lean); close each card by the builder's one call (the guide's Derived/Test/ToyasCard.lean, 'card_holds'). Laid BY PROGRAM, IN A SANDBOX (cutbox-door.mjs). By AI agents, Wed Nov 11 2026. No macro, syntax, notation, axiom, sorry.
-/
import Derived.Test.YtfbdbbkodgijiaaDoorRows
import GoSem.ClaimSeven
namespace Go.Proofs.YtfbdbbkodgijiaaDoor
namespace Rows

/-- THE TIED CARD OF 'laws.FnScanStep'. -/
def fnScanStepCard : Claim7 := { stood := { row := fnScanStepRow, standIns := [], harness := (true, "023287ffdb32146bb464b00329c2813395db05852b7979b68564ab90e625b5af"), looks := true }, kinds := [], alts := [], laidByText := true, laidKinds := [.data, .pinned], laidTests := true, laidLooks := .later }
def FnScanStepCardSaid : Prop := Claim7.holds Tryd.pinned (.plain (OpenSpec.ofChange fnScanStepSpec)) fnScanStepCard

/-- THE TIED CARD OF 'laws.FnScript'. -/
def fnScriptCard : Claim7 := { stood := { row := fnScriptRow, standIns := [], harness := (true, "023287ffdb32146bb464b00329c2813395db05852b7979b68564ab90e625b5af"), looks := true }, kinds := [], alts := [], laidByText := true, laidKinds := [.data, .pinned], laidTests := true, laidLooks := .later }
def FnScriptCardSaid : Prop := Claim7.holds Tryd.pinned (.plain (OpenSpec.ofChange fnScriptSpec)) fnScriptCard

/-- THE TIED CARD OF 'laws.FnScriptComments'. -/
def fnScriptCommentsCard : Claim7 := { stood := { row := fnScriptCommentsRow, standIns := [], harness := (true, "023287ffdb32146bb464b00329c2813395db05852b7979b68564ab90e625b5af"), looks := true }, kinds := [], alts := [], laidByText := true, laidKinds := [.data, .pinned], laidTests := true, laidLooks := .later }
def FnScriptCommentsCardSaid : Prop := Claim7.holds Tryd.pinned (.plain (OpenSpec.ofChange fnScriptCommentsSpec)) fnScriptCommentsCard

/-- THE SECOND FORM's CARD OF 'laws.FnScanStep'. -/
def fnScanStepUptoCard : Claim7 := { stood := { row := fnScanStepUptoRow, standIns := [], harness := (true, "023287ffdb32146bb464b00329c2813395db05852b7979b68564ab90e625b5af"), looks := true }, kinds := [], alts := [], laidByText := true, laidKinds := [.data, .pinned], laidTests := true, laidLooks := .later }
def FnScanStepUptoCardSaid : Prop := Claim7.holds Tryd.pinned (.plain (OpenSpec.upto fnScanStepSpec)) fnScanStepUptoCard

/-- THE SECOND FORM's CARD OF 'laws.FnScript'. -/
def fnScriptUptoCard : Claim7 := { stood := { row := fnScriptUptoRow, standIns := [], harness := (true, "023287ffdb32146bb464b00329c2813395db05852b7979b68564ab90e625b5af"), looks := true }, kinds := [], alts := [], laidByText := true, laidKinds := [.data, .pinned], laidTests := true, laidLooks := .later }
def FnScriptUptoCardSaid : Prop := Claim7.holds Tryd.pinned (.plain (OpenSpec.upto fnScriptSpec)) fnScriptUptoCard

/-- THE SECOND FORM's CARD OF 'laws.FnScriptComments'. -/
def fnScriptCommentsUptoCard : Claim7 := { stood := { row := fnScriptCommentsUptoRow, standIns := [], harness := (true, "023287ffdb32146bb464b00329c2813395db05852b7979b68564ab90e625b5af"), looks := true }, kinds := [], alts := [], laidByText := true, laidKinds := [.data, .pinned], laidTests := true, laidLooks := .later }
def FnScriptCommentsUptoCardSaid : Prop := Claim7.holds Tryd.pinned (.plain (OpenSpec.upto fnScriptCommentsSpec)) fnScriptCommentsUptoCard
end Rows
end Go.Proofs.YtfbdbbkodgijiaaDoor
