/-
  NARROWER THAN 'FOR EVERY INPUT', by the rows' own cells (each row's printed sentence says how): FnInit: laid.
  DERIVED. THE GIVEN ROWS OF THIS SEAT. 1 by the template 'for every input the law returns true; each argument reads behind the call as it read before'; 0 by the template 'total and deterministic' (their statements: YtnkengcajechbaaDoorTotals.lean).
  GIVEN WITH THE SEED: the statements are not yours to turn. If you find one false, say at which input.
  Laid BY PROGRAM, IN A SANDBOX (cutbox-rows.mjs): the forced cells as the released guide's own fill.sh prints them over the translation 83352b09a5f76986… (all of the seat's roots in one cut). By AI agents, Wed Nov 11 2026. No macro, syntax, notation, axiom, sorry.
-/
import Derived.Test.YtnkengcajechbaaDoorChecked
import GoSem.Claim
import GoSem.ClaimJoined
import GoSem.ClaimMapViews
import Derived.JoinedTies
import Derived.KernelRfl
namespace Go.Proofs.YtnkengcajechbaaDoor
/- THE CELL 'sum', in the pinned program and in every row, IS THE sha256 OF THE DUMP (.gsa) THAT YtnkengcajechbaaDoorProg.lean LOADS. Nothing in Lean hashes anything: it is a label: what it is worth is what the hold of that sum in a sandbox is worth. -/
noncomputable def Tryd.pinned : Pinned := { name := "ytnkengcajechbaadoor", sum := "83352b09a5f76986f51776297a8b4f919822a5c081584263cfa233f5feecfca3", checked := Tryd.checked }
namespace Rows
def none {H : Type} : Left H := { results := [], args := [] }

/- WHAT THE LISTED PACKAGE-LEVEL VARIABLES READ AS WHEN THE CALL BEGINS. Each datum BY PROGRAM (the guide's laid-datum.mjs) off the statement by which the dump's own 'gosem.cut.vars' lays the variable. In a bare row this is a premise. The card (YtnkengcajechbaaDoorCards.lean) ties it to the program's text. -/
def laid_given_example_pub_anacrusis_pub_gohdb_driver_inner_protocol_initRequestFiller {H : Type} : DataW H := .lit (.int .u32 4294967295)

/-- 'laws.FnInit': WHATEVER THE INPUT: true; the input reads as it did. -/
def fnInitSpec : ChangeSpec := { name := "fnInit", vars := ["given.example/pub-anacrusis/pub/gohdb/driver/inner/protocol.initRequestFiller"], fn := fun _ => fun
  | [d1, d2, d3, d4, d5, d6, g1] => { results := [.lit (.bool true)], args := [d1, d2, d3, d4, d5, d6], vars := [g1] }
  | _ => none }
def fnInitRow : OpenClaim := { program := "ytnkengcajechbaadoor", sum := "83352b09a5f76986f51776297a8b4f919822a5c081584263cfa233f5feecfca3", func := "given.example/pub-anacrusis/laws.FnInit", spec := "fnInit", unfollowed := true, recurses := true, named := ["given.example/pub-anacrusis/pub/gohdb/driver/inner/protocol.initRequestFiller", "encoding/binary.LittleEndian"], apart := false, laid := [("given.example/pub-anacrusis/pub/gohdb/driver/inner/protocol.initRequestFiller", laid_given_example_pub_anacrusis_pub_gohdb_driver_inner_protocol_initRequestFiller)] }
def FnInitSaid : Prop := fnInitRow.holds Tryd.pinned (OpenSpec.ofChange fnInitSpec)

/-- ITS FALSE NEIGHBOUR: 'it returns false'. Refute it at one input. -/
def fnInitWrong : ChangeSpec := { name := "fnInit", vars := ["given.example/pub-anacrusis/pub/gohdb/driver/inner/protocol.initRequestFiller"], fn := fun _ => fun
  | [d1, d2, d3, d4, d5, d6, g1] => { results := [.lit (.bool false)], args := [d1, d2, d3, d4, d5, d6], vars := [g1] }
  | _ => none }
def FnInitWrongFalsely : Prop := fnInitRow.holds Tryd.pinned (OpenSpec.ofChange fnInitWrong)

/- THE SECOND FORM. 'bulk': how many values and letters a reading holds, each counted each time it is reached (what is shared counts as often as it is met; a slice's spare places count too). A statement '..UptoSaid' is the law's where the arguments, and the package variables that the reading takes, are together of bulk at most 1048576: NARROWER than '..Said'. Prove '..Said' where nothing that the law and all that it calls make is longer than what came in: it says more and counts as full. Else prove '..UptoSaid'. A law counts once. -/
mutual
def uptoBulk {H : Type} : DataW H → Nat
  | .lit (.string bytes) => bytes.length + 1
  | .lit _ => 1
  | .nil => 1
  | .ptr d => uptoBulk d + 1
  | .slice elems spare => uptoBulkAll elems + uptoBulkAll spare + 1
  | .agg parts => uptoBulkAll parts + 1
  | .iface _ d => uptoBulk d + 1
  | .map entries => uptoBulkEntries entries + 1
  | .held _ => 1
def uptoBulkAll {H : Type} : List (DataW H) → Nat
  | [] => 0
  | d :: r => uptoBulk d + uptoBulkAll r
def uptoBulkEntries {H : Type} : List (Lit × DataW H) → Nat
  | [] => 0
  | x :: r => uptoBulkEntry x + uptoBulkEntries r
def uptoBulkEntry {H : Type} : Lit × DataW H → Nat
  | (.string bytes, d) => bytes.length + uptoBulk d + 1
  | (_, d) => uptoBulk d + 1
 end
def uptoSmall : (H : Type) → List (DataW H) → Bool := fun _ ds => decide (uptoBulkAll ds ≤ 1048576)
def OpenSpec.upto (s : _root_.Go.ChangeSpec) : _root_.Go.OpenSpec := { _root_.Go.OpenSpec.ofChange s with cond := some uptoSmall }

/-- 'laws.FnInit', WHERE WHAT IT READS IS OF BULK AT MOST 1048576: true; the input reads as it did. -/
def fnInitUptoRow : OpenClaim := { program := "ytnkengcajechbaadoor", sum := "83352b09a5f76986f51776297a8b4f919822a5c081584263cfa233f5feecfca3", func := "given.example/pub-anacrusis/laws.FnInit", spec := "fnInit", unfollowed := true, recurses := true, named := ["given.example/pub-anacrusis/pub/gohdb/driver/inner/protocol.initRequestFiller", "encoding/binary.LittleEndian"], apart := false, laid := [("given.example/pub-anacrusis/pub/gohdb/driver/inner/protocol.initRequestFiller", laid_given_example_pub_anacrusis_pub_gohdb_driver_inner_protocol_initRequestFiller)], narrowed := true }
def FnInitUptoSaid : Prop := fnInitUptoRow.holds Tryd.pinned (OpenSpec.upto fnInitSpec)

end Rows
end Go.Proofs.YtnkengcajechbaaDoor
