/-
  DERIVED. GIVEN WITH THE SEED: THE CARDS: each row of YtnkengcajechbaaDoorRows.lean that lists a variable, with what it lists TIED to the program's text (the seventh form; the later family's looks); each row that meets fmt, with fmt's text TOLD by the authors' own Lean function (tested against real Go, not proved from fmt's source: count such statements apart). THE CARD IS WHAT COUNTS. Prove the row's statement (the work); the ties are given (YtnkengcajechbaaDoorTie.lean); close each card by the builder's one call (the guide's Derived/Test/ToyasCard.lean, 'card_holds'). Laid BY PROGRAM, IN A SANDBOX (cutbox-door.mjs). By AI agents, Wed Nov 11 2026. No macro, syntax, notation, axiom, sorry.
-/
import Derived.Test.YtnkengcajechbaaDoorRows
import GoSem.ClaimSeven
namespace Go.Proofs.YtnkengcajechbaaDoor
namespace Rows

/-- THE TIED CARD OF 'laws.FnInit'. -/
def fnInitCard : Claim7 := { stood := { row := fnInitRow, standIns := [], harness := (true, "e70f4b5ee7286ab96f48db91195bb48c2232cd2487ab9b559f02e2a9e4ee5df2"), looks := false }, kinds := [], alts := [], laidByText := true, laidKinds := [.data], laidTests := true, laidLooks := .later }
def FnInitCardSaid : Prop := Claim7.holds Tryd.pinned (.plain (OpenSpec.ofChange fnInitSpec)) fnInitCard

/-- THE SECOND FORM's CARD OF 'laws.FnInit'. -/
def fnInitUptoCard : Claim7 := { stood := { row := fnInitUptoRow, standIns := [], harness := (true, "e70f4b5ee7286ab96f48db91195bb48c2232cd2487ab9b559f02e2a9e4ee5df2"), looks := false }, kinds := [], alts := [], laidByText := true, laidKinds := [.data], laidTests := true, laidLooks := .later }
def FnInitUptoCardSaid : Prop := Claim7.holds Tryd.pinned (.plain (OpenSpec.upto fnInitSpec)) fnInitUptoCard
end Rows
end Go.Proofs.YtnkengcajechbaaDoor
