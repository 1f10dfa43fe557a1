/-
  No cell of these rows narrows 'for every input' (looked for: loops, veiled, ifaces, maps, wideKeys, modest, calm, conditions, laid).
  DERIVED. THE GIVEN ROWS OF THIS SEAT. 4 by the template 'for every input the law returns true; each argument reads behind the call as it read before'; 0 by the template 'total and deterministic' (their statements: YtbdcecmhpeiibaaTotals.lean).
  GIVEN WITH THE SEED: the statements are not yours to turn. If you find one false, say at which input.
  Laid BY PROGRAM, IN A SANDBOX (cutbox-rows.mjs): the forced cells as the released guide's own fill.sh prints them over the translation 090e8eb83e31591e… (all of the seat's roots in one cut). By AI agents, Wed Nov 11 2026. No macro, syntax, notation, axiom, sorry.
-/
import Derived.Test.YtbdcecmhpeiibaaChecked
import GoSem.Claim
import GoSem.ClaimJoined
import GoSem.ClaimMapViews
import Derived.JoinedTies
import Derived.KernelRfl
namespace Go.Proofs.Ytbdcecmhpeiibaa
/- THE CELL 'sum', in the pinned program and in every row, IS THE sha256 OF THE DUMP (.gsa) THAT YtbdcecmhpeiibaaProg.lean LOADS. Nothing in Lean hashes anything: it is a label: what it is worth is what the hold of that sum in a sandbox is worth. -/
noncomputable def Try.pinned : Pinned := { name := "ytbdcecmhpeiibaa", sum := "090e8eb83e31591e0ff09b430048961873cab1adef027439b84362c1831d33bc", checked := Try.checked }
namespace Rows
def none {H : Type} : Left H := { results := [], args := [] }

/-- 'laws.FnCesuRune': WHATEVER THE INPUT: true; the input reads as it did. -/
def fnCesuRuneSpec : ChangeSpec := { name := "fnCesuRune", fn := fun _ => fun
  | [d] => { results := [.lit (.bool true)], args := [d] }
  | _ => none }
def fnCesuRuneRow : OpenClaim := { program := "ytbdcecmhpeiibaa", sum := "090e8eb83e31591e0ff09b430048961873cab1adef027439b84362c1831d33bc", func := "given.example/pub-anacrusis/laws.FnCesuRune", spec := "fnCesuRune", unfollowed := true, recurses := true, apart := false }
def FnCesuRuneSaid : Prop := fnCesuRuneRow.holds Try.pinned (OpenSpec.ofChange fnCesuRuneSpec)

/-- ITS FALSE NEIGHBOUR: 'it returns false'. Refute it at one input. -/
def fnCesuRuneWrong : ChangeSpec := { name := "fnCesuRune", fn := fun _ => fun
  | [d] => { results := [.lit (.bool false)], args := [d] }
  | _ => none }
def FnCesuRuneWrongFalsely : Prop := fnCesuRuneRow.holds Try.pinned (OpenSpec.ofChange fnCesuRuneWrong)

/-- 'laws.FnCesuPieces': WHATEVER THE INPUT: true; the input reads as it did. -/
def fnCesuPiecesSpec : ChangeSpec := { name := "fnCesuPieces", fn := fun _ => fun
  | [d1, d2, d3, d4] => { results := [.lit (.bool true)], args := [d1, d2, d3, d4] }
  | _ => none }
def fnCesuPiecesRow : OpenClaim := { program := "ytbdcecmhpeiibaa", sum := "090e8eb83e31591e0ff09b430048961873cab1adef027439b84362c1831d33bc", func := "given.example/pub-anacrusis/laws.FnCesuPieces", spec := "fnCesuPieces", unfollowed := true, recurses := true, apart := false }
def FnCesuPiecesSaid : Prop := fnCesuPiecesRow.holds Try.pinned (OpenSpec.ofChange fnCesuPiecesSpec)

/-- ITS FALSE NEIGHBOUR: 'it returns false'. Refute it at one input. -/
def fnCesuPiecesWrong : ChangeSpec := { name := "fnCesuPieces", fn := fun _ => fun
  | [d1, d2, d3, d4] => { results := [.lit (.bool false)], args := [d1, d2, d3, d4] }
  | _ => none }
def FnCesuPiecesWrongFalsely : Prop := fnCesuPiecesRow.holds Try.pinned (OpenSpec.ofChange fnCesuPiecesWrong)

/-- 'laws.FnCesuBytes': WHATEVER THE INPUT: true; the input reads as it did. -/
def fnCesuBytesSpec : ChangeSpec := { name := "fnCesuBytes", fn := fun _ => fun
  | [d] => { results := [.lit (.bool true)], args := [d] }
  | _ => none }
def fnCesuBytesRow : OpenClaim := { program := "ytbdcecmhpeiibaa", sum := "090e8eb83e31591e0ff09b430048961873cab1adef027439b84362c1831d33bc", func := "given.example/pub-anacrusis/laws.FnCesuBytes", spec := "fnCesuBytes", unfollowed := true, recurses := true, apart := false }
def FnCesuBytesSaid : Prop := fnCesuBytesRow.holds Try.pinned (OpenSpec.ofChange fnCesuBytesSpec)

/-- ITS FALSE NEIGHBOUR: 'it returns false'. Refute it at one input. -/
def fnCesuBytesWrong : ChangeSpec := { name := "fnCesuBytes", fn := fun _ => fun
  | [d] => { results := [.lit (.bool false)], args := [d] }
  | _ => none }
def FnCesuBytesWrongFalsely : Prop := fnCesuBytesRow.holds Try.pinned (OpenSpec.ofChange fnCesuBytesWrong)

/-- 'laws.FnCesuReplaced': WHATEVER THE INPUT: true; the input reads as it did. -/
def fnCesuReplacedSpec : ChangeSpec := { name := "fnCesuReplaced", fn := fun _ => fun
  | [d] => { results := [.lit (.bool true)], args := [d] }
  | _ => none }
def fnCesuReplacedRow : OpenClaim := { program := "ytbdcecmhpeiibaa", sum := "090e8eb83e31591e0ff09b430048961873cab1adef027439b84362c1831d33bc", func := "given.example/pub-anacrusis/laws.FnCesuReplaced", spec := "fnCesuReplaced", unfollowed := true, recurses := true, apart := false }
def FnCesuReplacedSaid : Prop := fnCesuReplacedRow.holds Try.pinned (OpenSpec.ofChange fnCesuReplacedSpec)

/-- ITS FALSE NEIGHBOUR: 'it returns false'. Refute it at one input. -/
def fnCesuReplacedWrong : ChangeSpec := { name := "fnCesuReplaced", fn := fun _ => fun
  | [d] => { results := [.lit (.bool false)], args := [d] }
  | _ => none }
def FnCesuReplacedWrongFalsely : Prop := fnCesuReplacedRow.holds Try.pinned (OpenSpec.ofChange fnCesuReplacedWrong)

/- THE SECOND FORM. 'bulk': how many values and letters a reading holds, each counted each time it is reached (what is shared counts as often as it is met; a slice's spare places count too). A statement '..UptoSaid' is the law's where the arguments, and the package variables that the reading takes, are together of bulk at most 1048576: NARROWER than '..Said'. Prove '..Said' where nothing that the law and all that it calls make is longer than what came in: it says more and counts as full. Else prove '..UptoSaid'. A law counts once. -/
mutual
def uptoBulk {H : Type} : DataW H → Nat
  | .lit (.string bytes) => bytes.length + 1
  | .lit _ => 1
  | .nil => 1
  | .ptr d => uptoBulk d + 1
  | .slice elems spare => uptoBulkAll elems + uptoBulkAll spare + 1
  | .agg parts => uptoBulkAll parts + 1
  | .iface _ d => uptoBulk d + 1
  | .map entries => uptoBulkEntries entries + 1
  | .held _ => 1
def uptoBulkAll {H : Type} : List (DataW H) → Nat
  | [] => 0
  | d :: r => uptoBulk d + uptoBulkAll r
def uptoBulkEntries {H : Type} : List (Lit × DataW H) → Nat
  | [] => 0
  | x :: r => uptoBulkEntry x + uptoBulkEntries r
def uptoBulkEntry {H : Type} : Lit × DataW H → Nat
  | (.string bytes, d) => bytes.length + uptoBulk d + 1
  | (_, d) => uptoBulk d + 1
 end
def uptoSmall : (H : Type) → List (DataW H) → Bool := fun _ ds => decide (uptoBulkAll ds ≤ 1048576)
def OpenSpec.upto (s : _root_.Go.ChangeSpec) : _root_.Go.OpenSpec := { _root_.Go.OpenSpec.ofChange s with cond := some uptoSmall }

/-- 'laws.FnCesuRune', WHERE WHAT IT READS IS OF BULK AT MOST 1048576: true; the input reads as it did. -/
def fnCesuRuneUptoRow : OpenClaim := { program := "ytbdcecmhpeiibaa", sum := "090e8eb83e31591e0ff09b430048961873cab1adef027439b84362c1831d33bc", func := "given.example/pub-anacrusis/laws.FnCesuRune", spec := "fnCesuRune", unfollowed := true, recurses := true, apart := false, narrowed := true }
def FnCesuRuneUptoSaid : Prop := fnCesuRuneUptoRow.holds Try.pinned (OpenSpec.upto fnCesuRuneSpec)

/-- 'laws.FnCesuPieces', WHERE WHAT IT READS IS OF BULK AT MOST 1048576: true; the input reads as it did. -/
def fnCesuPiecesUptoRow : OpenClaim := { program := "ytbdcecmhpeiibaa", sum := "090e8eb83e31591e0ff09b430048961873cab1adef027439b84362c1831d33bc", func := "given.example/pub-anacrusis/laws.FnCesuPieces", spec := "fnCesuPieces", unfollowed := true, recurses := true, apart := false, narrowed := true }
def FnCesuPiecesUptoSaid : Prop := fnCesuPiecesUptoRow.holds Try.pinned (OpenSpec.upto fnCesuPiecesSpec)

/-- 'laws.FnCesuBytes', WHERE WHAT IT READS IS OF BULK AT MOST 1048576: true; the input reads as it did. -/
def fnCesuBytesUptoRow : OpenClaim := { program := "ytbdcecmhpeiibaa", sum := "090e8eb83e31591e0ff09b430048961873cab1adef027439b84362c1831d33bc", func := "given.example/pub-anacrusis/laws.FnCesuBytes", spec := "fnCesuBytes", unfollowed := true, recurses := true, apart := false, narrowed := true }
def FnCesuBytesUptoSaid : Prop := fnCesuBytesUptoRow.holds Try.pinned (OpenSpec.upto fnCesuBytesSpec)

/-- 'laws.FnCesuReplaced', WHERE WHAT IT READS IS OF BULK AT MOST 1048576: true; the input reads as it did. -/
def fnCesuReplacedUptoRow : OpenClaim := { program := "ytbdcecmhpeiibaa", sum := "090e8eb83e31591e0ff09b430048961873cab1adef027439b84362c1831d33bc", func := "given.example/pub-anacrusis/laws.FnCesuReplaced", spec := "fnCesuReplaced", unfollowed := true, recurses := true, apart := false, narrowed := true }
def FnCesuReplacedUptoSaid : Prop := fnCesuReplacedUptoRow.holds Try.pinned (OpenSpec.upto fnCesuReplacedSpec)

end Rows
end Go.Proofs.Ytbdcecmhpeiibaa
