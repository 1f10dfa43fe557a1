/- The headers of messages and parts, requests and replies: what encode writes and decode reads. -/
import Derived.Test.YtnkengcajechbaaDoorMake
namespace Go.Proofs.YtnkengcajechbaaDoor.Kb
open Go Go.RowKit
set_option linter.unusedVariables false
set_option linter.unusedSimpArgs false
set_option maxHeartbeats 1000000
theorem wrap32_bounds (x : Int) : -2147483648 ≤ wrap32 x ∧ wrap32 x ≤ 2147483647 := by unfold wrap32; omega
theorem bel_of {B : Nat} {S S' : List Nat} {w w1 w2 : World} (h : Bel B S w w1) (hw : Bel w1.heap.size S' w1 w2) (hB : B ≤ w.heap.size) (hS : ∀ x ∈ S', x ∈ S) : Bel B S w w2 :=
  h.then hw (Nat.le_trans hB h.size) (fun x hx _ => hS x hx)

end Go.Proofs.YtnkengcajechbaaDoor.Kb
