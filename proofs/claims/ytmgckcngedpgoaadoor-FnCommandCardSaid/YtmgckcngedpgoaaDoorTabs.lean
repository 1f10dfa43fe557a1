/- The tables of UTF-8 over calls; bytes of CESU-8. -/
import Derived.Test.YtmgckcngedpgoaaDoorFirstC
namespace Go.Proofs.YtmgckcngedpgoaaDoor.Kb
open Go Go.RowKit
set_option linter.unusedVariables false
set_option linter.unusedSimpArgs false
theorem tabs_below {w w' : World} (hT : Go.Lib.Utf8Tabs 3 4 w) (hb : Below w.heap.size w w') (hg : 4 + 1 ≤ w.heap.size) : Go.Lib.Utf8Tabs 3 4 w' :=
  ⟨fun k hk => by rw [World.cell?_of_block (w := w) (hb.block 3 (by omega))]; exact hT.1 k hk, fun i hi => ⟨(World.cell?_of_block (w := w) (a := ⟨4, 2 * i, none⟩) (hb.block 4 (by omega))).trans (hT.2 i hi).1, (World.cell?_of_block (w := w) (a := ⟨4, 2 * i + 1, none⟩) (hb.block 4 (by omega))).trans (hT.2 i hi).2⟩⟩
theorem encC_byteL (r : Int) (h0 : 0 ≤ r) (h1 : r ≤ 1114111) : ∀ x ∈ encC r, 0 ≤ x ∧ x < 256 := by
  unfold encC encU enc1 hiS loS
  intro x hx
  repeat' split at hx
  all_goals
    simp at hx
    omega
theorem lt_of_cellL {w : World} {a : Addr} {v : Value} (h : w.cell? a = some v) : a.block < w.heap.size := by
  rcases Nat.lt_or_ge a.block w.heap.size with h' | h'
  · exact h'
  · simp [World.cell?, Array.getElem?_eq_none h'] at h
end Go.Proofs.YtmgckcngedpgoaaDoor.Kb
