/-
  DERIVED. GIVEN WITH THE SEED: THE CARDS: each row of YtnpdieepkhkbfaaDoorRows.lean that lists a variable, with what it lists TIED to the program's text (the seventh form; the later family's looks); each row that meets fmt, with fmt's text TOLD by the authors' own Lean function (tested against real Go, not proved from fmt's source: count such statements apart). THE CARD IS WHAT COUNTS. Prove the row's statement (the work); the ties are given (YtnpdieepkhkbfaaDoorTie.lean); close each card by the builder's one call (the guide's Derived/Test/ToyasCard.lean, 'card_holds'). Laid BY PROGRAM, IN A SANDBOX (cutbox-door.mjs). By AI agents, Wed Nov 11 2026. No macro, syntax, notation, axiom, sorry.
-/
import Derived.Test.YtnpdieepkhkbfaaDoorRows
import GoSem.ClaimSeven
namespace Go.Proofs.YtnpdieepkhkbfaaDoor
namespace Rows

/-- THE TIED CARD OF 'laws.FnCesuFirst'. -/
def fnCesuFirstCard : Claim7 := { stood := { row := fnCesuFirstRow, standIns := [], harness := (true, "d2898dbb9d1acbca51adf18d508c134a7bc7fd182c3440e3c9daf14e14929af0"), looks := true }, kinds := [], alts := [], laidByText := true, laidKinds := [.data, .pinned], laidTests := true, laidLooks := .later }
def FnCesuFirstCardSaid : Prop := Claim7.holds Tryd.pinned (.plain (OpenSpec.ofChange fnCesuFirstSpec)) fnCesuFirstCard

/-- THE TIED CARD OF 'laws.FnCesuText'. -/
def fnCesuTextCard : Claim7 := { stood := { row := fnCesuTextRow, standIns := [], harness := (true, "d2898dbb9d1acbca51adf18d508c134a7bc7fd182c3440e3c9daf14e14929af0"), looks := true }, kinds := [], alts := [], laidByText := true, laidKinds := [.data, .pinned], laidTests := true, laidLooks := .later }
def FnCesuTextCardSaid : Prop := Claim7.holds Tryd.pinned (.plain (OpenSpec.ofChange fnCesuTextSpec)) fnCesuTextCard

/-- THE SECOND FORM's CARD OF 'laws.FnCesuFirst'. -/
def fnCesuFirstUptoCard : Claim7 := { stood := { row := fnCesuFirstUptoRow, standIns := [], harness := (true, "d2898dbb9d1acbca51adf18d508c134a7bc7fd182c3440e3c9daf14e14929af0"), looks := true }, kinds := [], alts := [], laidByText := true, laidKinds := [.data, .pinned], laidTests := true, laidLooks := .later }
def FnCesuFirstUptoCardSaid : Prop := Claim7.holds Tryd.pinned (.plain (OpenSpec.upto fnCesuFirstSpec)) fnCesuFirstUptoCard

/-- THE SECOND FORM's CARD OF 'laws.FnCesuText'. -/
def fnCesuTextUptoCard : Claim7 := { stood := { row := fnCesuTextUptoRow, standIns := [], harness := (true, "d2898dbb9d1acbca51adf18d508c134a7bc7fd182c3440e3c9daf14e14929af0"), looks := true }, kinds := [], alts := [], laidByText := true, laidKinds := [.data, .pinned], laidTests := true, laidLooks := .later }
def FnCesuTextUptoCardSaid : Prop := Claim7.holds Tryd.pinned (.plain (OpenSpec.upto fnCesuTextSpec)) fnCesuTextUptoCard
end Rows
end Go.Proofs.YtnpdieepkhkbfaaDoor
