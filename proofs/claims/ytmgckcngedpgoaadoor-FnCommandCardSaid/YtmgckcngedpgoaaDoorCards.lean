/-
  DERIVED. GIVEN WITH THE SEED: THE CARDS: each row of YtmgckcngedpgoaaDoorRows.lean that lists a variable, with what it lists TIED to the program's text (the seventh form; the later family's looks); each row that meets fmt, with fmt's text TOLD by the authors' own Lean function (tested against real Go, not proved from fmt's source: count such statements apart). THE CARD IS WHAT COUNTS. Prove the row's statement (the work); the ties are given (YtmgckcngedpgoaaDoorTie.lean); close each card by the builder's one call (the guide's Derived/Test/ToyasCard.lean, 'card_holds'). Laid BY PROGRAM, IN A SANDBOX (cutbox-door.mjs). By AI agents, Wed Nov 11 2026. No macro, syntax, notation, axiom, sorry.
-/
import Derived.Test.YtmgckcngedpgoaaDoorRows
import GoSem.ClaimSeven
namespace Go.Proofs.YtmgckcngedpgoaaDoor
namespace Rows

/-- THE TIED CARD OF 'laws.FnFails'. -/
def fnFailsCard : Claim7 := { stood := { row := fnFailsRow, standIns := [], harness := (true, "125c5d93e708ff621674e65c1a6ab334f2653567e572a5dde038a7f9ad323180"), looks := true }, kinds := [], alts := [], laidByText := true, laidKinds := [.data, .data, .data, .data], laidTests := true, laidLooks := .later }
def FnFailsCardSaid : Prop := Claim7.holds Tryd.pinned (.plain (OpenSpec.ofChange fnFailsSpec)) fnFailsCard

/-- THE TIED CARD OF 'laws.FnCommand'. -/
def fnCommandCard : Claim7 := { stood := { row := fnCommandRow, standIns := [], harness := (true, "125c5d93e708ff621674e65c1a6ab334f2653567e572a5dde038a7f9ad323180"), looks := true }, kinds := [], alts := [], laidByText := true, laidKinds := [.data, .pinned], laidTests := true, laidLooks := .later }
def FnCommandCardSaid : Prop := Claim7.holds Tryd.pinned (.plain (OpenSpec.ofChange fnCommandSpec)) fnCommandCard

/-- THE SECOND FORM's CARD OF 'laws.FnFails'. -/
def fnFailsUptoCard : Claim7 := { stood := { row := fnFailsUptoRow, standIns := [], harness := (true, "125c5d93e708ff621674e65c1a6ab334f2653567e572a5dde038a7f9ad323180"), looks := true }, kinds := [], alts := [], laidByText := true, laidKinds := [.data, .data, .data, .data], laidTests := true, laidLooks := .later }
def FnFailsUptoCardSaid : Prop := Claim7.holds Tryd.pinned (.plain (OpenSpec.upto fnFailsSpec)) fnFailsUptoCard

/-- THE SECOND FORM's CARD OF 'laws.FnCommand'. -/
def fnCommandUptoCard : Claim7 := { stood := { row := fnCommandUptoRow, standIns := [], harness := (true, "125c5d93e708ff621674e65c1a6ab334f2653567e572a5dde038a7f9ad323180"), looks := true }, kinds := [], alts := [], laidByText := true, laidKinds := [.data, .pinned], laidTests := true, laidLooks := .later }
def FnCommandUptoCardSaid : Prop := Claim7.holds Tryd.pinned (.plain (OpenSpec.upto fnCommandSpec)) fnCommandUptoCard
end Rows
end Go.Proofs.YtmgckcngedpgoaaDoor
