/-
  DERIVED. GIVEN WITH THE SEED: THE CARDS: each row of YtagmjdhjhjlffaaDoorRows.lean that lists a variable, with what it lists TIED to the program's text (the seventh form; the later family's looks); each row that meets fmt, with fmt's text TOLD by the authors' own Lean function (tested against real Go, not proved from fmt's source: count such statements apart). THE CARD IS WHAT COUNTS. Prove the row's statement (the work); the ties are given (YtagmjdhjhjlffaaDoorTie.lean); close each card by the builder's one call (the guide's Derived/Test/ToyasCard.lean, 'card_holds'). Laid BY PROGRAM, IN A SANDBOX (cutbox-door.mjs). By AI agents, Wed Nov 11 2026. No macro, syntax, notation, axiom, sorry.
-/
import Derived.Test.YtagmjdhjhjlffaaDoorRows
import GoSem.ClaimSeven
namespace Go.Proofs.YtagmjdhjhjlffaaDoor
namespace Rows

/-- THE TIED CARD OF 'laws.FnVersion'. -/
def fnVersionCard : Claim7 := { stood := { row := fnVersionRow, standIns := [], harness := (true, "5079aa5e6a2df8968a7262b54683348648876ba326078804c597e6865bd4d43d"), looks := true }, kinds := [], alts := [], laidByText := true, laidKinds := [.data, .data, .data, .sentinel, .sentinel], laidTests := true, laidLooks := .later }
def FnVersionCardSaid : Prop := Claim7.holds Tryd.pinned (.plain (OpenSpec.ofChange fnVersionSpec)) fnVersionCard

/-- THE TIED CARD OF 'laws.FnVersionOrder'. -/
def fnVersionOrderCard : Claim7 := { stood := { row := fnVersionOrderRow, standIns := [], harness := (true, "5079aa5e6a2df8968a7262b54683348648876ba326078804c597e6865bd4d43d"), looks := true }, kinds := [], alts := [], laidByText := true, laidKinds := [.data, .data, .data, .sentinel, .sentinel], laidTests := true, laidLooks := .later }
def FnVersionOrderCardSaid : Prop := Claim7.holds Tryd.pinned (.plain (OpenSpec.ofChange fnVersionOrderSpec)) fnVersionOrderCard

/-- THE TIED CARD OF 'laws.FnVersionOf'. -/
def fnVersionOfCard : Claim7 := { stood := { row := fnVersionOfRow, standIns := [], harness := (true, "5079aa5e6a2df8968a7262b54683348648876ba326078804c597e6865bd4d43d"), looks := true }, kinds := [], alts := [], laidByText := true, laidKinds := [.data, .data, .data, .sentinel, .sentinel], laidTests := true, laidLooks := .later }
def FnVersionOfCardSaid : Prop := Claim7.holds Tryd.pinned (.plain (OpenSpec.ofChange fnVersionOfSpec)) fnVersionOfCard

/-- THE SECOND FORM's CARD OF 'laws.FnVersion'. -/
def fnVersionUptoCard : Claim7 := { stood := { row := fnVersionUptoRow, standIns := [], harness := (true, "5079aa5e6a2df8968a7262b54683348648876ba326078804c597e6865bd4d43d"), looks := true }, kinds := [], alts := [], laidByText := true, laidKinds := [.data, .data, .data, .sentinel, .sentinel], laidTests := true, laidLooks := .later }
def FnVersionUptoCardSaid : Prop := Claim7.holds Tryd.pinned (.plain (OpenSpec.upto fnVersionSpec)) fnVersionUptoCard

/-- THE SECOND FORM's CARD OF 'laws.FnVersionOrder'. -/
def fnVersionOrderUptoCard : Claim7 := { stood := { row := fnVersionOrderUptoRow, standIns := [], harness := (true, "5079aa5e6a2df8968a7262b54683348648876ba326078804c597e6865bd4d43d"), looks := true }, kinds := [], alts := [], laidByText := true, laidKinds := [.data, .data, .data, .sentinel, .sentinel], laidTests := true, laidLooks := .later }
def FnVersionOrderUptoCardSaid : Prop := Claim7.holds Tryd.pinned (.plain (OpenSpec.upto fnVersionOrderSpec)) fnVersionOrderUptoCard

/-- THE SECOND FORM's CARD OF 'laws.FnVersionOf'. -/
def fnVersionOfUptoCard : Claim7 := { stood := { row := fnVersionOfUptoRow, standIns := [], harness := (true, "5079aa5e6a2df8968a7262b54683348648876ba326078804c597e6865bd4d43d"), looks := true }, kinds := [], alts := [], laidByText := true, laidKinds := [.data, .data, .data, .sentinel, .sentinel], laidTests := true, laidLooks := .later }
def FnVersionOfUptoCardSaid : Prop := Claim7.holds Tryd.pinned (.plain (OpenSpec.upto fnVersionOfSpec)) fnVersionOfUptoCard
end Rows
end Go.Proofs.YtagmjdhjhjlffaaDoor
