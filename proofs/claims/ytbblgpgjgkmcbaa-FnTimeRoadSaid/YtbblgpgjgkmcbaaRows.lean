/-
  No cell of these rows narrows 'for every input' (looked for: loops, veiled, ifaces, maps, wideKeys, modest, calm, conditions, laid).
  DERIVED. THE GIVEN ROWS OF THIS SEAT. 6 by the template 'for every input the law returns true; each argument reads behind the call as it read before'; 0 by the template 'total and deterministic' (their statements: YtbblgpgjgkmcbaaTotals.lean).
  GIVEN WITH THE SEED: the statements are not yours to turn. If you find one false, say at which input.
  Laid BY PROGRAM, IN A SANDBOX (cutbox-rows.mjs): the forced cells as the released guide's own fill.sh prints them over the translation 3b0536602198cc2e… (all of the seat's roots in one cut). By AI agents, Wed Nov 11 2026. No macro, syntax, notation, axiom, sorry.
-/
import Derived.Test.YtbblgpgjgkmcbaaChecked
import GoSem.Claim
import GoSem.ClaimJoined
import GoSem.ClaimMapViews
import Derived.JoinedTies
import Derived.KernelRfl
namespace Go.Proofs.Ytbblgpgjgkmcbaa
/- THE CELL 'sum', in the pinned program and in every row, IS THE sha256 OF THE DUMP (.gsa) THAT YtbblgpgjgkmcbaaProg.lean LOADS. Nothing in Lean hashes anything: it is a label: what it is worth is what the hold of that sum in a sandbox is worth. -/
noncomputable def Try.pinned : Pinned := { name := "ytbblgpgjgkmcbaa", sum := "3b0536602198cc2ecd886d9ffa9862d1b73e4415bdc8205ce10cfbc11f952636", checked := Try.checked }
namespace Rows
def none {H : Type} : Left H := { results := [], args := [] }

/-- 'laws.FnMadeTime': WHATEVER THE INPUT: true; the input reads as it did. -/
def fnMadeTimeSpec : ChangeSpec := { name := "fnMadeTime", fn := fun _ => fun
  | [d] => { results := [.lit (.bool true)], args := [d] }
  | _ => none }
def fnMadeTimeRow : OpenClaim := { program := "ytbblgpgjgkmcbaa", sum := "3b0536602198cc2ecd886d9ffa9862d1b73e4415bdc8205ce10cfbc11f952636", func := "given.example/pub-anacrusis/laws.FnMadeTime", spec := "fnMadeTime", apart := false }
def FnMadeTimeSaid : Prop := fnMadeTimeRow.holds Try.pinned (OpenSpec.ofChange fnMadeTimeSpec)

/-- ITS FALSE NEIGHBOUR: 'it returns false'. Refute it at one input. -/
def fnMadeTimeWrong : ChangeSpec := { name := "fnMadeTime", fn := fun _ => fun
  | [d] => { results := [.lit (.bool false)], args := [d] }
  | _ => none }
def FnMadeTimeWrongFalsely : Prop := fnMadeTimeRow.holds Try.pinned (OpenSpec.ofChange fnMadeTimeWrong)

/-- 'laws.FnJulianDate': WHATEVER THE INPUT: true; the input reads as it did. -/
def fnJulianDateSpec : ChangeSpec := { name := "fnJulianDate", fn := fun _ => fun
  | [d] => { results := [.lit (.bool true)], args := [d] }
  | _ => none }
def fnJulianDateRow : OpenClaim := { program := "ytbblgpgjgkmcbaa", sum := "3b0536602198cc2ecd886d9ffa9862d1b73e4415bdc8205ce10cfbc11f952636", func := "given.example/pub-anacrusis/laws.FnJulianDate", spec := "fnJulianDate", apart := false }
def FnJulianDateSaid : Prop := fnJulianDateRow.holds Try.pinned (OpenSpec.ofChange fnJulianDateSpec)

/-- ITS FALSE NEIGHBOUR: 'it returns false'. Refute it at one input. -/
def fnJulianDateWrong : ChangeSpec := { name := "fnJulianDate", fn := fun _ => fun
  | [d] => { results := [.lit (.bool false)], args := [d] }
  | _ => none }
def FnJulianDateWrongFalsely : Prop := fnJulianDateRow.holds Try.pinned (OpenSpec.ofChange fnJulianDateWrong)

/-- 'laws.FnJulianDay': WHATEVER THE INPUT: true; the input reads as it did. -/
def fnJulianDaySpec : ChangeSpec := { name := "fnJulianDay", fn := fun _ => fun
  | [d] => { results := [.lit (.bool true)], args := [d] }
  | _ => none }
def fnJulianDayRow : OpenClaim := { program := "ytbblgpgjgkmcbaa", sum := "3b0536602198cc2ecd886d9ffa9862d1b73e4415bdc8205ce10cfbc11f952636", func := "given.example/pub-anacrusis/laws.FnJulianDay", spec := "fnJulianDay", apart := false }
def FnJulianDaySaid : Prop := fnJulianDayRow.holds Try.pinned (OpenSpec.ofChange fnJulianDaySpec)

/-- ITS FALSE NEIGHBOUR: 'it returns false'. Refute it at one input. -/
def fnJulianDayWrong : ChangeSpec := { name := "fnJulianDay", fn := fun _ => fun
  | [d] => { results := [.lit (.bool false)], args := [d] }
  | _ => none }
def FnJulianDayWrongFalsely : Prop := fnJulianDayRow.holds Try.pinned (OpenSpec.ofChange fnJulianDayWrong)

/-- 'laws.FnTimeNumbers': WHATEVER THE INPUT: true; the input reads as it did. -/
def fnTimeNumbersSpec : ChangeSpec := { name := "fnTimeNumbers", fn := fun _ => fun
  | [d] => { results := [.lit (.bool true)], args := [d] }
  | _ => none }
def fnTimeNumbersRow : OpenClaim := { program := "ytbblgpgjgkmcbaa", sum := "3b0536602198cc2ecd886d9ffa9862d1b73e4415bdc8205ce10cfbc11f952636", func := "given.example/pub-anacrusis/laws.FnTimeNumbers", spec := "fnTimeNumbers", apart := false }
def FnTimeNumbersSaid : Prop := fnTimeNumbersRow.holds Try.pinned (OpenSpec.ofChange fnTimeNumbersSpec)

/-- ITS FALSE NEIGHBOUR: 'it returns false'. Refute it at one input. -/
def fnTimeNumbersWrong : ChangeSpec := { name := "fnTimeNumbers", fn := fun _ => fun
  | [d] => { results := [.lit (.bool false)], args := [d] }
  | _ => none }
def FnTimeNumbersWrongFalsely : Prop := fnTimeNumbersRow.holds Try.pinned (OpenSpec.ofChange fnTimeNumbersWrong)

/-- 'laws.FnMoments': WHATEVER THE INPUT: true; the input reads as it did. -/
def fnMomentsSpec : ChangeSpec := { name := "fnMoments", fn := fun _ => fun
  | [d] => { results := [.lit (.bool true)], args := [d] }
  | _ => none }
def fnMomentsRow : OpenClaim := { program := "ytbblgpgjgkmcbaa", sum := "3b0536602198cc2ecd886d9ffa9862d1b73e4415bdc8205ce10cfbc11f952636", func := "given.example/pub-anacrusis/laws.FnMoments", spec := "fnMoments", apart := false }
def FnMomentsSaid : Prop := fnMomentsRow.holds Try.pinned (OpenSpec.ofChange fnMomentsSpec)

/-- ITS FALSE NEIGHBOUR: 'it returns false'. Refute it at one input. -/
def fnMomentsWrong : ChangeSpec := { name := "fnMoments", fn := fun _ => fun
  | [d] => { results := [.lit (.bool false)], args := [d] }
  | _ => none }
def FnMomentsWrongFalsely : Prop := fnMomentsRow.holds Try.pinned (OpenSpec.ofChange fnMomentsWrong)

/-- 'laws.FnTimeRoad': WHATEVER THE INPUT: true; the input reads as it did. -/
def fnTimeRoadSpec : ChangeSpec := { name := "fnTimeRoad", fn := fun _ => fun
  | [d] => { results := [.lit (.bool true)], args := [d] }
  | _ => none }
def fnTimeRoadRow : OpenClaim := { program := "ytbblgpgjgkmcbaa", sum := "3b0536602198cc2ecd886d9ffa9862d1b73e4415bdc8205ce10cfbc11f952636", func := "given.example/pub-anacrusis/laws.FnTimeRoad", spec := "fnTimeRoad", apart := false }
def FnTimeRoadSaid : Prop := fnTimeRoadRow.holds Try.pinned (OpenSpec.ofChange fnTimeRoadSpec)

/-- ITS FALSE NEIGHBOUR: 'it returns false'. Refute it at one input. -/
def fnTimeRoadWrong : ChangeSpec := { name := "fnTimeRoad", fn := fun _ => fun
  | [d] => { results := [.lit (.bool false)], args := [d] }
  | _ => none }
def FnTimeRoadWrongFalsely : Prop := fnTimeRoadRow.holds Try.pinned (OpenSpec.ofChange fnTimeRoadWrong)

/- THE SECOND FORM. 'bulk': how many values and letters a reading holds, each counted each time it is reached (what is shared counts as often as it is met; a slice's spare places count too). A statement '..UptoSaid' is the law's where the arguments, and the package variables that the reading takes, are together of bulk at most 1048576: NARROWER than '..Said'. Prove '..Said' where nothing that the law and all that it calls make is longer than what came in: it says more and counts as full. Else prove '..UptoSaid'. A law counts once. -/
mutual
def uptoBulk {H : Type} : DataW H → Nat
  | .lit (.string bytes) => bytes.length + 1
  | .lit _ => 1
  | .nil => 1
  | .ptr d => uptoBulk d + 1
  | .slice elems spare => uptoBulkAll elems + uptoBulkAll spare + 1
  | .agg parts => uptoBulkAll parts + 1
  | .iface _ d => uptoBulk d + 1
  | .map entries => uptoBulkEntries entries + 1
  | .held _ => 1
def uptoBulkAll {H : Type} : List (DataW H) → Nat
  | [] => 0
  | d :: r => uptoBulk d + uptoBulkAll r
def uptoBulkEntries {H : Type} : List (Lit × DataW H) → Nat
  | [] => 0
  | x :: r => uptoBulkEntry x + uptoBulkEntries r
def uptoBulkEntry {H : Type} : Lit × DataW H → Nat
  | (.string bytes, d) => bytes.length + uptoBulk d + 1
  | (_, d) => uptoBulk d + 1
 end
def uptoSmall : (H : Type) → List (DataW H) → Bool := fun _ ds => decide (uptoBulkAll ds ≤ 1048576)
def OpenSpec.upto (s : _root_.Go.ChangeSpec) : _root_.Go.OpenSpec := { _root_.Go.OpenSpec.ofChange s with cond := some uptoSmall }

/-- 'laws.FnMadeTime', WHERE WHAT IT READS IS OF BULK AT MOST 1048576: true; the input reads as it did. -/
def fnMadeTimeUptoRow : OpenClaim := { program := "ytbblgpgjgkmcbaa", sum := "3b0536602198cc2ecd886d9ffa9862d1b73e4415bdc8205ce10cfbc11f952636", func := "given.example/pub-anacrusis/laws.FnMadeTime", spec := "fnMadeTime", apart := false, narrowed := true }
def FnMadeTimeUptoSaid : Prop := fnMadeTimeUptoRow.holds Try.pinned (OpenSpec.upto fnMadeTimeSpec)

/-- 'laws.FnJulianDate', WHERE WHAT IT READS IS OF BULK AT MOST 1048576: true; the input reads as it did. -/
def fnJulianDateUptoRow : OpenClaim := { program := "ytbblgpgjgkmcbaa", sum := "3b0536602198cc2ecd886d9ffa9862d1b73e4415bdc8205ce10cfbc11f952636", func := "given.example/pub-anacrusis/laws.FnJulianDate", spec := "fnJulianDate", apart := false, narrowed := true }
def FnJulianDateUptoSaid : Prop := fnJulianDateUptoRow.holds Try.pinned (OpenSpec.upto fnJulianDateSpec)

/-- 'laws.FnJulianDay', WHERE WHAT IT READS IS OF BULK AT MOST 1048576: true; the input reads as it did. -/
def fnJulianDayUptoRow : OpenClaim := { program := "ytbblgpgjgkmcbaa", sum := "3b0536602198cc2ecd886d9ffa9862d1b73e4415bdc8205ce10cfbc11f952636", func := "given.example/pub-anacrusis/laws.FnJulianDay", spec := "fnJulianDay", apart := false, narrowed := true }
def FnJulianDayUptoSaid : Prop := fnJulianDayUptoRow.holds Try.pinned (OpenSpec.upto fnJulianDaySpec)

/-- 'laws.FnTimeNumbers', WHERE WHAT IT READS IS OF BULK AT MOST 1048576: true; the input reads as it did. -/
def fnTimeNumbersUptoRow : OpenClaim := { program := "ytbblgpgjgkmcbaa", sum := "3b0536602198cc2ecd886d9ffa9862d1b73e4415bdc8205ce10cfbc11f952636", func := "given.example/pub-anacrusis/laws.FnTimeNumbers", spec := "fnTimeNumbers", apart := false, narrowed := true }
def FnTimeNumbersUptoSaid : Prop := fnTimeNumbersUptoRow.holds Try.pinned (OpenSpec.upto fnTimeNumbersSpec)

/-- 'laws.FnMoments', WHERE WHAT IT READS IS OF BULK AT MOST 1048576: true; the input reads as it did. -/
def fnMomentsUptoRow : OpenClaim := { program := "ytbblgpgjgkmcbaa", sum := "3b0536602198cc2ecd886d9ffa9862d1b73e4415bdc8205ce10cfbc11f952636", func := "given.example/pub-anacrusis/laws.FnMoments", spec := "fnMoments", apart := false, narrowed := true }
def FnMomentsUptoSaid : Prop := fnMomentsUptoRow.holds Try.pinned (OpenSpec.upto fnMomentsSpec)

/-- 'laws.FnTimeRoad', WHERE WHAT IT READS IS OF BULK AT MOST 1048576: true; the input reads as it did. -/
def fnTimeRoadUptoRow : OpenClaim := { program := "ytbblgpgjgkmcbaa", sum := "3b0536602198cc2ecd886d9ffa9862d1b73e4415bdc8205ce10cfbc11f952636", func := "given.example/pub-anacrusis/laws.FnTimeRoad", spec := "fnTimeRoad", apart := false, narrowed := true }
def FnTimeRoadUptoSaid : Prop := fnTimeRoadUptoRow.holds Try.pinned (OpenSpec.upto fnTimeRoadSpec)

end Rows
end Go.Proofs.Ytbblgpgjgkmcbaa
