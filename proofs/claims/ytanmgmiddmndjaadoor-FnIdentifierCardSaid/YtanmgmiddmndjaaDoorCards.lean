/-
  DERIVED. GIVEN WITH THE SEED: THE CARDS: each row of YtanmgmiddmndjaaDoorRows.lean that lists a variable, with what it lists TIED to the program's text (the seventh form; the later family's looks); each row that meets fmt, with fmt's text TOLD by the authors' own Lean function (tested against real Go, not proved from fmt's source: count such statements apart). THE CARD IS WHAT COUNTS. Prove the row's statement (the work); the ties are given (YtanmgmiddmndjaaDoorTie.lean); close each card by the builder's one call (the guide's Derived/Test/ToyasCard.lean, 'card_holds'). Laid BY PROGRAM, IN A SANDBOX (cutbox-door.mjs). By AI agents, Wed Nov 11 2026. No macro, syntax, notation, axiom, sorry.
-/
import Derived.Test.YtanmgmiddmndjaaDoorRows
import GoSem.ClaimSeven
namespace Go.Proofs.YtanmgmiddmndjaaDoor
namespace Rows

/-- THE TIED CARD OF 'laws.FnIdentifier'. -/
def fnIdentifierCard : Claim7 := { stood := { row := fnIdentifierRow, standIns := [], harness := (true, "61f4275370349c4d1996302f7bafc072a8b430cf9a484da83fbde934c57cf997"), looks := false }, kinds := [], alts := [], laidByText := true, laidKinds := [.data, .pinned, .pinned, .pinned, .pinned, .pinned, .pinned], laidTests := true, laidLooks := .later }
def FnIdentifierCardSaid : Prop := Claim7.holds Tryd.pinned (.plain (OpenSpec.ofChange fnIdentifierSpec)) fnIdentifierCard

/-- THE SECOND FORM's CARD OF 'laws.FnIdentifier'. -/
def fnIdentifierUptoCard : Claim7 := { stood := { row := fnIdentifierUptoRow, standIns := [], harness := (true, "61f4275370349c4d1996302f7bafc072a8b430cf9a484da83fbde934c57cf997"), looks := false }, kinds := [], alts := [], laidByText := true, laidKinds := [.data, .pinned, .pinned, .pinned, .pinned, .pinned, .pinned], laidTests := true, laidLooks := .later }
def FnIdentifierUptoCardSaid : Prop := Claim7.holds Tryd.pinned (.plain (OpenSpec.upto fnIdentifierSpec)) fnIdentifierUptoCard
end Rows
end Go.Proofs.YtanmgmiddmndjaaDoor
