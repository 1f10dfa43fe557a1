/-
  No cell of these rows narrows 'for every input' (looked for: loops, veiled, ifaces, maps, wideKeys, modest, calm, conditions, laid).
  DERIVED. THE GIVEN ROWS OF THIS SEAT. 11 by the template 'for every input the law returns true; each argument reads behind the call as it read before'; 0 by the template 'total and deterministic' (their statements: YtbohjafchfeheaaTotals.lean).
  GIVEN WITH THE SEED: the statements are not yours to turn. If you find one false, say at which input.
  Laid BY PROGRAM, IN A SANDBOX (cutbox-rows.mjs): the forced cells as the released guide's own fill.sh prints them over the translation 6ed5efe8d2fbfaae… (all of the seat's roots in one cut). By AI agents, Wed Nov 11 2026. No macro, syntax, notation, axiom, sorry.
-/
import Derived.Test.YtbohjafchfeheaaChecked
import GoSem.Claim
import GoSem.ClaimJoined
import GoSem.ClaimMapViews
import Derived.JoinedTies
import Derived.KernelRfl
namespace Go.Proofs.Ytbohjafchfeheaa
/- THE CELL 'sum', in the pinned program and in every row, IS THE sha256 OF THE DUMP (.gsa) THAT YtbohjafchfeheaaProg.lean LOADS. Nothing in Lean hashes anything: it is a label: what it is worth is what the hold of that sum in a sandbox is worth. -/
noncomputable def Try.pinned : Pinned := { name := "ytbohjafchfeheaa", sum := "6ed5efe8d2fbfaae16da0d2dc3fc348107042408a1bfe9a4693592b0d2e3dd9e", checked := Try.checked }
namespace Rows
def none {H : Type} : Left H := { results := [], args := [] }

/-- 'laws.FnWriteReply': WHATEVER THE INPUT: true; the input reads as it did. -/
def fnWriteReplySpec : ChangeSpec := { name := "fnWriteReply", fn := fun _ => fun
  | [d] => { results := [.lit (.bool true)], args := [d] }
  | _ => none }
def fnWriteReplyRow : OpenClaim := { program := "ytbohjafchfeheaa", sum := "6ed5efe8d2fbfaae16da0d2dc3fc348107042408a1bfe9a4693592b0d2e3dd9e", func := "given.example/pub-anacrusis/laws.FnWriteReply", spec := "fnWriteReply", unfollowed := true, recurses := true, named := ["encoding/binary.LittleEndian"], apart := false }
def FnWriteReplySaid : Prop := fnWriteReplyRow.holds Try.pinned (OpenSpec.ofChange fnWriteReplySpec)

/-- ITS FALSE NEIGHBOUR: 'it returns false'. Refute it at one input. -/
def fnWriteReplyWrong : ChangeSpec := { name := "fnWriteReply", fn := fun _ => fun
  | [d] => { results := [.lit (.bool false)], args := [d] }
  | _ => none }
def FnWriteReplyWrongFalsely : Prop := fnWriteReplyRow.holds Try.pinned (OpenSpec.ofChange fnWriteReplyWrong)

/-- 'laws.FnLengthOf': WHATEVER THE INPUT: true; the input reads as it did. -/
def fnLengthOfSpec : ChangeSpec := { name := "fnLengthOf", fn := fun _ => fun
  | [d] => { results := [.lit (.bool true)], args := [d] }
  | _ => none }
def fnLengthOfRow : OpenClaim := { program := "ytbohjafchfeheaa", sum := "6ed5efe8d2fbfaae16da0d2dc3fc348107042408a1bfe9a4693592b0d2e3dd9e", func := "given.example/pub-anacrusis/laws.FnLengthOf", spec := "fnLengthOf", unfollowed := true, recurses := true, named := ["encoding/binary.LittleEndian"], apart := false }
def FnLengthOfSaid : Prop := fnLengthOfRow.holds Try.pinned (OpenSpec.ofChange fnLengthOfSpec)

/-- ITS FALSE NEIGHBOUR: 'it returns false'. Refute it at one input. -/
def fnLengthOfWrong : ChangeSpec := { name := "fnLengthOf", fn := fun _ => fun
  | [d] => { results := [.lit (.bool false)], args := [d] }
  | _ => none }
def FnLengthOfWrongFalsely : Prop := fnLengthOfRow.holds Try.pinned (OpenSpec.ofChange fnLengthOfWrong)

/-- 'laws.FnInitReply': WHATEVER THE INPUT: true; the input reads as it did. -/
def fnInitReplySpec : ChangeSpec := { name := "fnInitReply", fn := fun _ => fun
  | [d1, d2, d3, d4] => { results := [.lit (.bool true)], args := [d1, d2, d3, d4] }
  | _ => none }
def fnInitReplyRow : OpenClaim := { program := "ytbohjafchfeheaa", sum := "6ed5efe8d2fbfaae16da0d2dc3fc348107042408a1bfe9a4693592b0d2e3dd9e", func := "given.example/pub-anacrusis/laws.FnInitReply", spec := "fnInitReply", named := ["encoding/binary.LittleEndian"], apart := false }
def FnInitReplySaid : Prop := fnInitReplyRow.holds Try.pinned (OpenSpec.ofChange fnInitReplySpec)

/-- ITS FALSE NEIGHBOUR: 'it returns false'. Refute it at one input. -/
def fnInitReplyWrong : ChangeSpec := { name := "fnInitReply", fn := fun _ => fun
  | [d1, d2, d3, d4] => { results := [.lit (.bool false)], args := [d1, d2, d3, d4] }
  | _ => none }
def FnInitReplyWrongFalsely : Prop := fnInitReplyRow.holds Try.pinned (OpenSpec.ofChange fnInitReplyWrong)

/-- 'laws.FnAffected': WHATEVER THE INPUT: true; the input reads as it did. -/
def fnAffectedSpec : ChangeSpec := { name := "fnAffected", fn := fun _ => fun
  | [d] => { results := [.lit (.bool true)], args := [d] }
  | _ => none }
def fnAffectedRow : OpenClaim := { program := "ytbohjafchfeheaa", sum := "6ed5efe8d2fbfaae16da0d2dc3fc348107042408a1bfe9a4693592b0d2e3dd9e", func := "given.example/pub-anacrusis/laws.FnAffected", spec := "fnAffected", unfollowed := true, recurses := true, named := ["encoding/binary.LittleEndian"], apart := false }
def FnAffectedSaid : Prop := fnAffectedRow.holds Try.pinned (OpenSpec.ofChange fnAffectedSpec)

/-- ITS FALSE NEIGHBOUR: 'it returns false'. Refute it at one input. -/
def fnAffectedWrong : ChangeSpec := { name := "fnAffected", fn := fun _ => fun
  | [d] => { results := [.lit (.bool false)], args := [d] }
  | _ => none }
def FnAffectedWrongFalsely : Prop := fnAffectedRow.holds Try.pinned (OpenSpec.ofChange fnAffectedWrong)

/-- 'laws.FnReadReply': WHATEVER THE INPUT: true; the input reads as it did. -/
def fnReadReplySpec : ChangeSpec := { name := "fnReadReply", fn := fun _ => fun
  | [d1, d2, d3, d4] => { results := [.lit (.bool true)], args := [d1, d2, d3, d4] }
  | _ => none }
def fnReadReplyRow : OpenClaim := { program := "ytbohjafchfeheaa", sum := "6ed5efe8d2fbfaae16da0d2dc3fc348107042408a1bfe9a4693592b0d2e3dd9e", func := "given.example/pub-anacrusis/laws.FnReadReply", spec := "fnReadReply", unfollowed := true, recurses := true, named := ["encoding/binary.LittleEndian"], apart := false }
def FnReadReplySaid : Prop := fnReadReplyRow.holds Try.pinned (OpenSpec.ofChange fnReadReplySpec)

/-- ITS FALSE NEIGHBOUR: 'it returns false'. Refute it at one input. -/
def fnReadReplyWrong : ChangeSpec := { name := "fnReadReply", fn := fun _ => fun
  | [d1, d2, d3, d4] => { results := [.lit (.bool false)], args := [d1, d2, d3, d4] }
  | _ => none }
def FnReadReplyWrongFalsely : Prop := fnReadReplyRow.holds Try.pinned (OpenSpec.ofChange fnReadReplyWrong)

/-- 'laws.FnPart': WHATEVER THE INPUT: true; the input reads as it did. -/
def fnPartSpec : ChangeSpec := { name := "fnPart", fn := fun _ => fun
  | [d1, d2, d3, d4, d5, d6] => { results := [.lit (.bool true)], args := [d1, d2, d3, d4, d5, d6] }
  | _ => none }
def fnPartRow : OpenClaim := { program := "ytbohjafchfeheaa", sum := "6ed5efe8d2fbfaae16da0d2dc3fc348107042408a1bfe9a4693592b0d2e3dd9e", func := "given.example/pub-anacrusis/laws.FnPart", spec := "fnPart", named := ["encoding/binary.LittleEndian"], apart := false }
def FnPartSaid : Prop := fnPartRow.holds Try.pinned (OpenSpec.ofChange fnPartSpec)

/-- ITS FALSE NEIGHBOUR: 'it returns false'. Refute it at one input. -/
def fnPartWrong : ChangeSpec := { name := "fnPart", fn := fun _ => fun
  | [d1, d2, d3, d4, d5, d6] => { results := [.lit (.bool false)], args := [d1, d2, d3, d4, d5, d6] }
  | _ => none }
def FnPartWrongFalsely : Prop := fnPartRow.holds Try.pinned (OpenSpec.ofChange fnPartWrong)

/-- 'laws.FnLengthBytes': WHATEVER THE INPUT: true; the input reads as it did. -/
def fnLengthBytesSpec : ChangeSpec := { name := "fnLengthBytes", fn := fun _ => fun
  | [d] => { results := [.lit (.bool true)], args := [d] }
  | _ => none }
def fnLengthBytesRow : OpenClaim := { program := "ytbohjafchfeheaa", sum := "6ed5efe8d2fbfaae16da0d2dc3fc348107042408a1bfe9a4693592b0d2e3dd9e", func := "given.example/pub-anacrusis/laws.FnLengthBytes", spec := "fnLengthBytes", unfollowed := true, recurses := true, named := ["encoding/binary.LittleEndian"], apart := false }
def FnLengthBytesSaid : Prop := fnLengthBytesRow.holds Try.pinned (OpenSpec.ofChange fnLengthBytesSpec)

/-- ITS FALSE NEIGHBOUR: 'it returns false'. Refute it at one input. -/
def fnLengthBytesWrong : ChangeSpec := { name := "fnLengthBytes", fn := fun _ => fun
  | [d] => { results := [.lit (.bool false)], args := [d] }
  | _ => none }
def FnLengthBytesWrongFalsely : Prop := fnLengthBytesRow.holds Try.pinned (OpenSpec.ofChange fnLengthBytesWrong)

/-- 'laws.FnRead': WHATEVER THE INPUT: true; the input reads as it did. -/
def fnReadSpec : ChangeSpec := { name := "fnRead", fn := fun _ => fun
  | [d1, d2, d3] => { results := [.lit (.bool true)], args := [d1, d2, d3] }
  | _ => none }
def fnReadRow : OpenClaim := { program := "ytbohjafchfeheaa", sum := "6ed5efe8d2fbfaae16da0d2dc3fc348107042408a1bfe9a4693592b0d2e3dd9e", func := "given.example/pub-anacrusis/laws.FnRead", spec := "fnRead", named := ["encoding/binary.LittleEndian"], apart := false }
def FnReadSaid : Prop := fnReadRow.holds Try.pinned (OpenSpec.ofChange fnReadSpec)

/-- ITS FALSE NEIGHBOUR: 'it returns false'. Refute it at one input. -/
def fnReadWrong : ChangeSpec := { name := "fnRead", fn := fun _ => fun
  | [d1, d2, d3] => { results := [.lit (.bool false)], args := [d1, d2, d3] }
  | _ => none }
def FnReadWrongFalsely : Prop := fnReadRow.holds Try.pinned (OpenSpec.ofChange fnReadWrong)

/-- 'laws.FnMessage': WHATEVER THE INPUT: true; the input reads as it did. -/
def fnMessageSpec : ChangeSpec := { name := "fnMessage", fn := fun _ => fun
  | [d1, d2, d3, d4, d5] => { results := [.lit (.bool true)], args := [d1, d2, d3, d4, d5] }
  | _ => none }
def fnMessageRow : OpenClaim := { program := "ytbohjafchfeheaa", sum := "6ed5efe8d2fbfaae16da0d2dc3fc348107042408a1bfe9a4693592b0d2e3dd9e", func := "given.example/pub-anacrusis/laws.FnMessage", spec := "fnMessage", named := ["encoding/binary.LittleEndian"], apart := false }
def FnMessageSaid : Prop := fnMessageRow.holds Try.pinned (OpenSpec.ofChange fnMessageSpec)

/-- ITS FALSE NEIGHBOUR: 'it returns false'. Refute it at one input. -/
def fnMessageWrong : ChangeSpec := { name := "fnMessage", fn := fun _ => fun
  | [d1, d2, d3, d4, d5] => { results := [.lit (.bool false)], args := [d1, d2, d3, d4, d5] }
  | _ => none }
def FnMessageWrongFalsely : Prop := fnMessageRow.holds Try.pinned (OpenSpec.ofChange fnMessageWrong)

/-- 'laws.FnSegment': WHATEVER THE INPUT: true; the input reads as it did. -/
def fnSegmentSpec : ChangeSpec := { name := "fnSegment", fn := fun _ => fun
  | [d1, d2, d3, d4, d5, d6, d7, d8, d9] => { results := [.lit (.bool true)], args := [d1, d2, d3, d4, d5, d6, d7, d8, d9] }
  | _ => none }
def fnSegmentRow : OpenClaim := { program := "ytbohjafchfeheaa", sum := "6ed5efe8d2fbfaae16da0d2dc3fc348107042408a1bfe9a4693592b0d2e3dd9e", func := "given.example/pub-anacrusis/laws.FnSegment", spec := "fnSegment", named := ["encoding/binary.LittleEndian"], apart := false }
def FnSegmentSaid : Prop := fnSegmentRow.holds Try.pinned (OpenSpec.ofChange fnSegmentSpec)

/-- ITS FALSE NEIGHBOUR: 'it returns false'. Refute it at one input. -/
def fnSegmentWrong : ChangeSpec := { name := "fnSegment", fn := fun _ => fun
  | [d1, d2, d3, d4, d5, d6, d7, d8, d9] => { results := [.lit (.bool false)], args := [d1, d2, d3, d4, d5, d6, d7, d8, d9] }
  | _ => none }
def FnSegmentWrongFalsely : Prop := fnSegmentRow.holds Try.pinned (OpenSpec.ofChange fnSegmentWrong)

/-- 'laws.FnWrites': WHATEVER THE INPUT: true; the input reads as it did. -/
def fnWritesSpec : ChangeSpec := { name := "fnWrites", fn := fun _ => fun
  | [d] => { results := [.lit (.bool true)], args := [d] }
  | _ => none }
def fnWritesRow : OpenClaim := { program := "ytbohjafchfeheaa", sum := "6ed5efe8d2fbfaae16da0d2dc3fc348107042408a1bfe9a4693592b0d2e3dd9e", func := "given.example/pub-anacrusis/laws.FnWrites", spec := "fnWrites", unfollowed := true, recurses := true, named := ["encoding/binary.LittleEndian"], apart := false }
def FnWritesSaid : Prop := fnWritesRow.holds Try.pinned (OpenSpec.ofChange fnWritesSpec)

/-- ITS FALSE NEIGHBOUR: 'it returns false'. Refute it at one input. -/
def fnWritesWrong : ChangeSpec := { name := "fnWrites", fn := fun _ => fun
  | [d] => { results := [.lit (.bool false)], args := [d] }
  | _ => none }
def FnWritesWrongFalsely : Prop := fnWritesRow.holds Try.pinned (OpenSpec.ofChange fnWritesWrong)

/- THE SECOND FORM. 'bulk': how many values and letters a reading holds, each counted each time it is reached (what is shared counts as often as it is met; a slice's spare places count too). A statement '..UptoSaid' is the law's where the arguments, and the package variables that the reading takes, are together of bulk at most 1048576: NARROWER than '..Said'. Prove '..Said' where nothing that the law and all that it calls make is longer than what came in: it says more and counts as full. Else prove '..UptoSaid'. A law counts once. -/
mutual
def uptoBulk {H : Type} : DataW H → Nat
  | .lit (.string bytes) => bytes.length + 1
  | .lit _ => 1
  | .nil => 1
  | .ptr d => uptoBulk d + 1
  | .slice elems spare => uptoBulkAll elems + uptoBulkAll spare + 1
  | .agg parts => uptoBulkAll parts + 1
  | .iface _ d => uptoBulk d + 1
  | .map entries => uptoBulkEntries entries + 1
  | .held _ => 1
def uptoBulkAll {H : Type} : List (DataW H) → Nat
  | [] => 0
  | d :: r => uptoBulk d + uptoBulkAll r
def uptoBulkEntries {H : Type} : List (Lit × DataW H) → Nat
  | [] => 0
  | x :: r => uptoBulkEntry x + uptoBulkEntries r
def uptoBulkEntry {H : Type} : Lit × DataW H → Nat
  | (.string bytes, d) => bytes.length + uptoBulk d + 1
  | (_, d) => uptoBulk d + 1
 end
def uptoSmall : (H : Type) → List (DataW H) → Bool := fun _ ds => decide (uptoBulkAll ds ≤ 1048576)
def OpenSpec.upto (s : _root_.Go.ChangeSpec) : _root_.Go.OpenSpec := { _root_.Go.OpenSpec.ofChange s with cond := some uptoSmall }

/-- 'laws.FnWriteReply', WHERE WHAT IT READS IS OF BULK AT MOST 1048576: true; the input reads as it did. -/
def fnWriteReplyUptoRow : OpenClaim := { program := "ytbohjafchfeheaa", sum := "6ed5efe8d2fbfaae16da0d2dc3fc348107042408a1bfe9a4693592b0d2e3dd9e", func := "given.example/pub-anacrusis/laws.FnWriteReply", spec := "fnWriteReply", unfollowed := true, recurses := true, named := ["encoding/binary.LittleEndian"], apart := false, narrowed := true }
def FnWriteReplyUptoSaid : Prop := fnWriteReplyUptoRow.holds Try.pinned (OpenSpec.upto fnWriteReplySpec)

/-- 'laws.FnLengthOf', WHERE WHAT IT READS IS OF BULK AT MOST 1048576: true; the input reads as it did. -/
def fnLengthOfUptoRow : OpenClaim := { program := "ytbohjafchfeheaa", sum := "6ed5efe8d2fbfaae16da0d2dc3fc348107042408a1bfe9a4693592b0d2e3dd9e", func := "given.example/pub-anacrusis/laws.FnLengthOf", spec := "fnLengthOf", unfollowed := true, recurses := true, named := ["encoding/binary.LittleEndian"], apart := false, narrowed := true }
def FnLengthOfUptoSaid : Prop := fnLengthOfUptoRow.holds Try.pinned (OpenSpec.upto fnLengthOfSpec)

/-- 'laws.FnInitReply', WHERE WHAT IT READS IS OF BULK AT MOST 1048576: true; the input reads as it did. -/
def fnInitReplyUptoRow : OpenClaim := { program := "ytbohjafchfeheaa", sum := "6ed5efe8d2fbfaae16da0d2dc3fc348107042408a1bfe9a4693592b0d2e3dd9e", func := "given.example/pub-anacrusis/laws.FnInitReply", spec := "fnInitReply", named := ["encoding/binary.LittleEndian"], apart := false, narrowed := true }
def FnInitReplyUptoSaid : Prop := fnInitReplyUptoRow.holds Try.pinned (OpenSpec.upto fnInitReplySpec)

/-- 'laws.FnAffected', WHERE WHAT IT READS IS OF BULK AT MOST 1048576: true; the input reads as it did. -/
def fnAffectedUptoRow : OpenClaim := { program := "ytbohjafchfeheaa", sum := "6ed5efe8d2fbfaae16da0d2dc3fc348107042408a1bfe9a4693592b0d2e3dd9e", func := "given.example/pub-anacrusis/laws.FnAffected", spec := "fnAffected", unfollowed := true, recurses := true, named := ["encoding/binary.LittleEndian"], apart := false, narrowed := true }
def FnAffectedUptoSaid : Prop := fnAffectedUptoRow.holds Try.pinned (OpenSpec.upto fnAffectedSpec)

/-- 'laws.FnReadReply', WHERE WHAT IT READS IS OF BULK AT MOST 1048576: true; the input reads as it did. -/
def fnReadReplyUptoRow : OpenClaim := { program := "ytbohjafchfeheaa", sum := "6ed5efe8d2fbfaae16da0d2dc3fc348107042408a1bfe9a4693592b0d2e3dd9e", func := "given.example/pub-anacrusis/laws.FnReadReply", spec := "fnReadReply", unfollowed := true, recurses := true, named := ["encoding/binary.LittleEndian"], apart := false, narrowed := true }
def FnReadReplyUptoSaid : Prop := fnReadReplyUptoRow.holds Try.pinned (OpenSpec.upto fnReadReplySpec)

/-- 'laws.FnPart', WHERE WHAT IT READS IS OF BULK AT MOST 1048576: true; the input reads as it did. -/
def fnPartUptoRow : OpenClaim := { program := "ytbohjafchfeheaa", sum := "6ed5efe8d2fbfaae16da0d2dc3fc348107042408a1bfe9a4693592b0d2e3dd9e", func := "given.example/pub-anacrusis/laws.FnPart", spec := "fnPart", named := ["encoding/binary.LittleEndian"], apart := false, narrowed := true }
def FnPartUptoSaid : Prop := fnPartUptoRow.holds Try.pinned (OpenSpec.upto fnPartSpec)

/-- 'laws.FnLengthBytes', WHERE WHAT IT READS IS OF BULK AT MOST 1048576: true; the input reads as it did. -/
def fnLengthBytesUptoRow : OpenClaim := { program := "ytbohjafchfeheaa", sum := "6ed5efe8d2fbfaae16da0d2dc3fc348107042408a1bfe9a4693592b0d2e3dd9e", func := "given.example/pub-anacrusis/laws.FnLengthBytes", spec := "fnLengthBytes", unfollowed := true, recurses := true, named := ["encoding/binary.LittleEndian"], apart := false, narrowed := true }
def FnLengthBytesUptoSaid : Prop := fnLengthBytesUptoRow.holds Try.pinned (OpenSpec.upto fnLengthBytesSpec)

/-- 'laws.FnRead', WHERE WHAT IT READS IS OF BULK AT MOST 1048576: true; the input reads as it did. -/
def fnReadUptoRow : OpenClaim := { program := "ytbohjafchfeheaa", sum := "6ed5efe8d2fbfaae16da0d2dc3fc348107042408a1bfe9a4693592b0d2e3dd9e", func := "given.example/pub-anacrusis/laws.FnRead", spec := "fnRead", named := ["encoding/binary.LittleEndian"], apart := false, narrowed := true }
def FnReadUptoSaid : Prop := fnReadUptoRow.holds Try.pinned (OpenSpec.upto fnReadSpec)

/-- 'laws.FnMessage', WHERE WHAT IT READS IS OF BULK AT MOST 1048576: true; the input reads as it did. -/
def fnMessageUptoRow : OpenClaim := { program := "ytbohjafchfeheaa", sum := "6ed5efe8d2fbfaae16da0d2dc3fc348107042408a1bfe9a4693592b0d2e3dd9e", func := "given.example/pub-anacrusis/laws.FnMessage", spec := "fnMessage", named := ["encoding/binary.LittleEndian"], apart := false, narrowed := true }
def FnMessageUptoSaid : Prop := fnMessageUptoRow.holds Try.pinned (OpenSpec.upto fnMessageSpec)

/-- 'laws.FnSegment', WHERE WHAT IT READS IS OF BULK AT MOST 1048576: true; the input reads as it did. -/
def fnSegmentUptoRow : OpenClaim := { program := "ytbohjafchfeheaa", sum := "6ed5efe8d2fbfaae16da0d2dc3fc348107042408a1bfe9a4693592b0d2e3dd9e", func := "given.example/pub-anacrusis/laws.FnSegment", spec := "fnSegment", named := ["encoding/binary.LittleEndian"], apart := false, narrowed := true }
def FnSegmentUptoSaid : Prop := fnSegmentUptoRow.holds Try.pinned (OpenSpec.upto fnSegmentSpec)

/-- 'laws.FnWrites', WHERE WHAT IT READS IS OF BULK AT MOST 1048576: true; the input reads as it did. -/
def fnWritesUptoRow : OpenClaim := { program := "ytbohjafchfeheaa", sum := "6ed5efe8d2fbfaae16da0d2dc3fc348107042408a1bfe9a4693592b0d2e3dd9e", func := "given.example/pub-anacrusis/laws.FnWrites", spec := "fnWrites", unfollowed := true, recurses := true, named := ["encoding/binary.LittleEndian"], apart := false, narrowed := true }
def FnWritesUptoSaid : Prop := fnWritesUptoRow.holds Try.pinned (OpenSpec.upto fnWritesSpec)

end Rows
end Go.Proofs.Ytbohjafchfeheaa
