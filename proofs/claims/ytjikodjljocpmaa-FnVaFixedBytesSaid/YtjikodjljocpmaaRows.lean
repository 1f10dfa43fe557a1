/-
  No cell of these rows narrows 'for every input' (looked for: loops, veiled, ifaces, maps, wideKeys, modest, calm, conditions, laid).
  DERIVED. THE GIVEN ROWS OF THIS SEAT. 4 by the template 'for every input the law returns true; each argument reads behind the call as it read before'; 0 by the template 'total and deterministic' (their statements: YtjikodjljocpmaaTotals.lean).
  GIVEN WITH THE SEED: the statements are not yours to turn. If you find one false, say at which input.
  Laid BY PROGRAM, IN A SANDBOX (cutbox-rows.mjs): the forced cells as the released guide's own fill.sh prints them over the translation 99a807bc2d1993a5… (all of the seat's roots in one cut). By AI agents, Wed Nov 11 2026. No macro, syntax, notation, axiom, sorry.
-/
import Derived.Test.YtjikodjljocpmaaChecked
import GoSem.Claim
import GoSem.ClaimJoined
import GoSem.ClaimMapViews
import Derived.JoinedTies
import Derived.KernelRfl
namespace Go.Proofs.Ytjikodjljocpmaa
/- THE CELL 'sum', in the pinned program and in every row, IS THE sha256 OF THE DUMP (.gsa) THAT YtjikodjljocpmaaProg.lean LOADS. Nothing in Lean hashes anything: it is a label: what it is worth is what the hold of that sum in a sandbox is worth. -/
noncomputable def Try.pinned : Pinned := { name := "ytjikodjljocpmaa", sum := "99a807bc2d1993a5a6d69cb1de4af65900ddeb3230a73b3677ac54e798d72ba2", checked := Try.checked }
namespace Rows
def none {H : Type} : Left H := { results := [], args := [] }

/-- 'laws.FnVaDecimalBytes': WHATEVER THE INPUT: true; the input reads as it did. -/
def fnVaDecimalBytesSpec : ChangeSpec := { name := "fnVaDecimalBytes", fn := fun _ => fun
  | [d1, d2] => { results := [.lit (.bool true)], args := [d1, d2] }
  | _ => none }
def fnVaDecimalBytesRow : OpenClaim := { program := "ytjikodjljocpmaa", sum := "99a807bc2d1993a5a6d69cb1de4af65900ddeb3230a73b3677ac54e798d72ba2", func := "given.example/pub-anacrusis/laws.FnVaDecimalBytes", spec := "fnVaDecimalBytes", unfollowed := true, recurses := true, apart := false }
def FnVaDecimalBytesSaid : Prop := fnVaDecimalBytesRow.holds Try.pinned (OpenSpec.ofChange fnVaDecimalBytesSpec)

/-- ITS FALSE NEIGHBOUR: 'it returns false'. Refute it at one input. -/
def fnVaDecimalBytesWrong : ChangeSpec := { name := "fnVaDecimalBytes", fn := fun _ => fun
  | [d1, d2] => { results := [.lit (.bool false)], args := [d1, d2] }
  | _ => none }
def FnVaDecimalBytesWrongFalsely : Prop := fnVaDecimalBytesRow.holds Try.pinned (OpenSpec.ofChange fnVaDecimalBytesWrong)

/-- 'laws.FnVaDecimalBack': WHATEVER THE INPUT: true; the input reads as it did. -/
def fnVaDecimalBackSpec : ChangeSpec := { name := "fnVaDecimalBack", fn := fun _ => fun
  | [d1, d2] => { results := [.lit (.bool true)], args := [d1, d2] }
  | _ => none }
def fnVaDecimalBackRow : OpenClaim := { program := "ytjikodjljocpmaa", sum := "99a807bc2d1993a5a6d69cb1de4af65900ddeb3230a73b3677ac54e798d72ba2", func := "given.example/pub-anacrusis/laws.FnVaDecimalBack", spec := "fnVaDecimalBack", unfollowed := true, recurses := true, apart := false }
def FnVaDecimalBackSaid : Prop := fnVaDecimalBackRow.holds Try.pinned (OpenSpec.ofChange fnVaDecimalBackSpec)

/-- ITS FALSE NEIGHBOUR: 'it returns false'. Refute it at one input. -/
def fnVaDecimalBackWrong : ChangeSpec := { name := "fnVaDecimalBack", fn := fun _ => fun
  | [d1, d2] => { results := [.lit (.bool false)], args := [d1, d2] }
  | _ => none }
def FnVaDecimalBackWrongFalsely : Prop := fnVaDecimalBackRow.holds Try.pinned (OpenSpec.ofChange fnVaDecimalBackWrong)

/-- 'laws.FnVaFixedOf': WHATEVER THE INPUT: true; the input reads as it did. -/
def fnVaFixedOfSpec : ChangeSpec := { name := "fnVaFixedOf", fn := fun _ => fun
  | [d] => { results := [.lit (.bool true)], args := [d] }
  | _ => none }
def fnVaFixedOfRow : OpenClaim := { program := "ytjikodjljocpmaa", sum := "99a807bc2d1993a5a6d69cb1de4af65900ddeb3230a73b3677ac54e798d72ba2", func := "given.example/pub-anacrusis/laws.FnVaFixedOf", spec := "fnVaFixedOf", inPlace := ["math/bits.Add64", "math/bits.Sub64"], unfollowed := true, recurses := true, apart := false }
def FnVaFixedOfSaid : Prop := fnVaFixedOfRow.holds Try.pinned (OpenSpec.ofChange fnVaFixedOfSpec)

/-- ITS FALSE NEIGHBOUR: 'it returns false'. Refute it at one input. -/
def fnVaFixedOfWrong : ChangeSpec := { name := "fnVaFixedOf", fn := fun _ => fun
  | [d] => { results := [.lit (.bool false)], args := [d] }
  | _ => none }
def FnVaFixedOfWrongFalsely : Prop := fnVaFixedOfRow.holds Try.pinned (OpenSpec.ofChange fnVaFixedOfWrong)

/-- 'laws.FnVaFixedBytes': WHATEVER THE INPUT: true; the input reads as it did. -/
def fnVaFixedBytesSpec : ChangeSpec := { name := "fnVaFixedBytes", fn := fun _ => fun
  | [d1, d2] => { results := [.lit (.bool true)], args := [d1, d2] }
  | _ => none }
def fnVaFixedBytesRow : OpenClaim := { program := "ytjikodjljocpmaa", sum := "99a807bc2d1993a5a6d69cb1de4af65900ddeb3230a73b3677ac54e798d72ba2", func := "given.example/pub-anacrusis/laws.FnVaFixedBytes", spec := "fnVaFixedBytes", inPlace := ["math/bits.Add64", "math/bits.Sub64"], unfollowed := true, recurses := true, apart := false }
def FnVaFixedBytesSaid : Prop := fnVaFixedBytesRow.holds Try.pinned (OpenSpec.ofChange fnVaFixedBytesSpec)

/-- ITS FALSE NEIGHBOUR: 'it returns false'. Refute it at one input. -/
def fnVaFixedBytesWrong : ChangeSpec := { name := "fnVaFixedBytes", fn := fun _ => fun
  | [d1, d2] => { results := [.lit (.bool false)], args := [d1, d2] }
  | _ => none }
def FnVaFixedBytesWrongFalsely : Prop := fnVaFixedBytesRow.holds Try.pinned (OpenSpec.ofChange fnVaFixedBytesWrong)

/- THE SECOND FORM. 'bulk': how many values and letters a reading holds, each counted each time it is reached (what is shared counts as often as it is met; a slice's spare places count too). A statement '..UptoSaid' is the law's where the arguments, and the package variables that the reading takes, are together of bulk at most 1048576: NARROWER than '..Said'. Prove '..Said' where nothing that the law and all that it calls make is longer than what came in: it says more and counts as full. Else prove '..UptoSaid'. A law counts once. -/
mutual
def uptoBulk {H : Type} : DataW H → Nat
  | .lit (.string bytes) => bytes.length + 1
  | .lit _ => 1
  | .nil => 1
  | .ptr d => uptoBulk d + 1
  | .slice elems spare => uptoBulkAll elems + uptoBulkAll spare + 1
  | .agg parts => uptoBulkAll parts + 1
  | .iface _ d => uptoBulk d + 1
  | .map entries => uptoBulkEntries entries + 1
  | .held _ => 1
def uptoBulkAll {H : Type} : List (DataW H) → Nat
  | [] => 0
  | d :: r => uptoBulk d + uptoBulkAll r
def uptoBulkEntries {H : Type} : List (Lit × DataW H) → Nat
  | [] => 0
  | x :: r => uptoBulkEntry x + uptoBulkEntries r
def uptoBulkEntry {H : Type} : Lit × DataW H → Nat
  | (.string bytes, d) => bytes.length + uptoBulk d + 1
  | (_, d) => uptoBulk d + 1
 end
def uptoSmall : (H : Type) → List (DataW H) → Bool := fun _ ds => decide (uptoBulkAll ds ≤ 1048576)
def OpenSpec.upto (s : _root_.Go.ChangeSpec) : _root_.Go.OpenSpec := { _root_.Go.OpenSpec.ofChange s with cond := some uptoSmall }

/-- 'laws.FnVaDecimalBytes', WHERE WHAT IT READS IS OF BULK AT MOST 1048576: true; the input reads as it did. -/
def fnVaDecimalBytesUptoRow : OpenClaim := { program := "ytjikodjljocpmaa", sum := "99a807bc2d1993a5a6d69cb1de4af65900ddeb3230a73b3677ac54e798d72ba2", func := "given.example/pub-anacrusis/laws.FnVaDecimalBytes", spec := "fnVaDecimalBytes", unfollowed := true, recurses := true, apart := false, narrowed := true }
def FnVaDecimalBytesUptoSaid : Prop := fnVaDecimalBytesUptoRow.holds Try.pinned (OpenSpec.upto fnVaDecimalBytesSpec)

/-- 'laws.FnVaDecimalBack', WHERE WHAT IT READS IS OF BULK AT MOST 1048576: true; the input reads as it did. -/
def fnVaDecimalBackUptoRow : OpenClaim := { program := "ytjikodjljocpmaa", sum := "99a807bc2d1993a5a6d69cb1de4af65900ddeb3230a73b3677ac54e798d72ba2", func := "given.example/pub-anacrusis/laws.FnVaDecimalBack", spec := "fnVaDecimalBack", unfollowed := true, recurses := true, apart := false, narrowed := true }
def FnVaDecimalBackUptoSaid : Prop := fnVaDecimalBackUptoRow.holds Try.pinned (OpenSpec.upto fnVaDecimalBackSpec)

/-- 'laws.FnVaFixedOf', WHERE WHAT IT READS IS OF BULK AT MOST 1048576: true; the input reads as it did. -/
def fnVaFixedOfUptoRow : OpenClaim := { program := "ytjikodjljocpmaa", sum := "99a807bc2d1993a5a6d69cb1de4af65900ddeb3230a73b3677ac54e798d72ba2", func := "given.example/pub-anacrusis/laws.FnVaFixedOf", spec := "fnVaFixedOf", inPlace := ["math/bits.Add64", "math/bits.Sub64"], unfollowed := true, recurses := true, apart := false, narrowed := true }
def FnVaFixedOfUptoSaid : Prop := fnVaFixedOfUptoRow.holds Try.pinned (OpenSpec.upto fnVaFixedOfSpec)

/-- 'laws.FnVaFixedBytes', WHERE WHAT IT READS IS OF BULK AT MOST 1048576: true; the input reads as it did. -/
def fnVaFixedBytesUptoRow : OpenClaim := { program := "ytjikodjljocpmaa", sum := "99a807bc2d1993a5a6d69cb1de4af65900ddeb3230a73b3677ac54e798d72ba2", func := "given.example/pub-anacrusis/laws.FnVaFixedBytes", spec := "fnVaFixedBytes", inPlace := ["math/bits.Add64", "math/bits.Sub64"], unfollowed := true, recurses := true, apart := false, narrowed := true }
def FnVaFixedBytesUptoSaid : Prop := fnVaFixedBytesUptoRow.holds Try.pinned (OpenSpec.upto fnVaFixedBytesSpec)

end Rows
end Go.Proofs.Ytjikodjljocpmaa
