/- Versions: parseVersion. -/
import Derived.Test.YtagmjdhjhjlffaaDoorVofC
import Derived.Maps.RangeRun
namespace Go.Proofs.YtagmjdhjhjlffaaDoor.Kb
open Go Go.RowKit
set_option linter.unusedVariables false
set_option linter.unusedSimpArgs false
set_option maxHeartbeats 6400000
/-- A version of zeros is 1.00.120. -/
def real (F : Nat → Nat) : Nat → Nat := if isZ F then ver3 1 0 120 else F
def has2 (F : Nat → Nat) : Bool := decide (0 ≤ cmpF F (ver3 2 0 0) 4)
def has4 (F : Nat → Nat) : Bool := decide (0 ≤ cmpF F (ver3 2 0 42) 4)
def featN (a b : Bool) : Nat := (if a then 2 else 0) + (if b then 4 else 0)
def featV (a b : Bool) : Value := .int .u64 (featN a b)
/-- The features of the entries that have been seen. -/
def featS (F : Nat → Nat) (seen : Array Nat) : Value := featV (seen.contains 0 && has2 F) (seen.contains 1 && has4 F)
def Parsed (F : Nat → Nat) (w : World) (e : Ending) (w' : World) : Prop := ∃ b g, e = .returned (.pointer (some ⟨b, 0, none⟩)) ∧ w.heap.size ≤ g ∧ w.heap.size ≤ b ∧ Blk w' b #[.slice (some ⟨g, 0, none⟩) 5 5, featV (has2 (real F)) (has4 (real F))] 45 ∧ Blk w' g (five (real F)) 22 ∧ Below w.heap.size w w'
theorem feats_stamped (g1 g2 : Nat) : MapKept.Stamped (feats g1 g2) 2 := by
  rw [MapKept.stamped_iff]
  refine ⟨?_, ?_, ?_⟩ <;> simp [feats]
theorem featS_all (F : Nat → Nat) (g1 g2 : Nat) (seen : Array Nat) (h : (leftOf (feats g1 g2) seen).size = 0) : featS F seen = featV (has2 F) (has4 F) := by
  have h1 := all_seen (feats g1 g2) seen h ⟨.int .u64 2, .slice (some ⟨g1, 0, none⟩) 5 5, 0⟩ (by simp [feats])
  have h2 := all_seen (feats g1 g2) seen h ⟨.int .u64 4, .slice (some ⟨g2, 0, none⟩) 5 5, 1⟩ (by simp [feats])
  simp only [featS]
  simp only [] at h1 h2
  rw [h1, h2]
  simp
open Go.ChangeMaps (setBlock)
/-- What the loop keeps: the map, its two versions, the version in hand. -/
structure Loop (F : Nat → Nat) (w : World) (g g1 g2 bm r : Nat) (seen : Array Nat) (W : World) : Prop where
  it : W.heap[r]? = some (.mapIter (some bm) 2 seen 2)
  map : W.heap[bm]? = some (.map (feats g1 g2) 2)
  b : Blk W g (five F) 22
  b1 : Blk W g1 (five (ver3 2 0 0)) 22
  b2 : Blk W g2 (five (ver3 2 0 42)) 22
  below : Below w.heap.size w W
theorem Loop.drewN {F : Nat → Nat} {w W : World} {g g1 g2 bm r : Nat} {seen : Array Nat} (h : Loop F w g g1 g2 bm r seen W) (n : Nat) : Loop F w g g1 g2 bm r seen (W.drewN n) :=
  ⟨h.it, h.map, h.b, h.b1, h.b2, h.below.trans ((below_drewN W n).mono h.below.size)⟩
theorem Loop.next {F : Nat → Nat} {w W W1 : World} {g g1 g2 bm r : Nat} {seen seen' : Array Nat} (h : Loop F w g g1 g2 bm r seen W) (h1 : W1 = W ∨ W1 = W.drew) (hr : w.heap.size ≤ r) : Loop F w g g1 g2 bm r seen' (setBlock W1 r (.mapIter (some bm) 2 seen' 2)) := by
  have hl : Loop F w g g1 g2 bm r seen W1 := by
    rcases h1 with rfl | rfl
    · exact h
    · exact ⟨h.it, h.map, h.b, h.b1, h.b2, h.below.drew⟩
  have hlt : r < W1.heap.size := (Array.getElem?_eq_some_iff.1 hl.it).1
  have ne : ∀ (k : Nat) (o : Obj), W1.heap[k]? = some o → (∀ a b c d, o ≠ Obj.mapIter a b c d) → (setBlock W1 r (.mapIter (some bm) 2 seen' 2)).heap[k]? = some o := fun k o hk ho => by
    have hkr : r ≠ k := fun e => by subst e; rw [hl.it] at hk; exact ho _ _ _ _ (Option.some.inj hk).symm
    simp only [setBlock]
    rw [Array.getElem?_setIfInBounds_ne hkr]
    exact hk
  refine ⟨?_, ne _ _ hl.map (by intros; simp), ne _ _ hl.b (by intros; simp), ne _ _ hl.b1 (by intros; simp), ne _ _ hl.b2 (by intros; simp), ?_⟩
  · simp [setBlock, hlt]
  · exact hl.below.trans ⟨rfl, rfl, rfl, by simp [setBlock], fun k hk => by simp only [setBlock]; rw [Array.getElem?_setIfInBounds_ne (by omega)]⟩
end Go.Proofs.YtagmjdhjhjlffaaDoor.Kb
