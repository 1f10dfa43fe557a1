/- The Encoder's methods that write numbers of one, two, four and eight bytes. -/
import Derived.Test.YtmgckcngedpgoaaDoorEnc
namespace Go.Proofs.YtmgckcngedpgoaaDoor.Kb
open Go Go.RowKit
set_option linter.unusedVariables false
set_option linter.unusedSimpArgs false
set_option maxHeartbeats 1000000
theorem splice_get (Z : List Value) (l : List Int) (hZ : l.length ≤ Z.length) : ∀ j (hj : j < l.length), (splice Z 0 (bc l)).toArray[j]? = some (.int .u8 l[j]) := by
  intro j hj
  simp [splice, List.getElem?_append, hj]
theorem splice_len (Z : List Value) (l : List Int) (hZ : l.length ≤ Z.length) : (splice Z 0 (bc l)).length = Z.length := by
  rw [length_splice]
  simpa using hZ
end Go.Proofs.YtmgckcngedpgoaaDoor.Kb
