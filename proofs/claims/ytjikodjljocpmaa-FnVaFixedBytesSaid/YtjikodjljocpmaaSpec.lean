/- The reference's HeBytes and HeRow: numbers as bytes. -/
import Derived.Test.YtjikodjljocpmaaMake
namespace Go.Proofs.Ytjikodjljocpmaa.Kb
open Go Go.RowKit
set_option linter.unusedVariables false
set_option linter.unusedSimpArgs false
set_option maxHeartbeats 1000000
/-- What a row of its own reads as. -/
theorem own_rd {w : World} {B n : Nat} {e : TypeId} {v : Value} {xs : List Int} (h : w.ownsRow B e 1 v n (bc xs)) (hs : n ≤ 140737488351232) : ∃ A c, v = .slice A n c ∧ n ≤ c ∧ c ≤ maxLen ∧ Rd w [] A n xs ∧ (0 < n → A.isSome = true) ∧ ∀ ad, A = some ad → B ≤ ad.block := by
  obtain ⟨h1, h2⟩ := h
  have hl : xs.length = n := by simpa using h1
  rcases h2 with ⟨rfl, h0⟩ | ⟨g, cap, cur, rfl, hg, hh, h3, h4, h5, h6⟩
  · subst h0
    obtain rfl : xs = [] := List.eq_nil_of_length_eq_zero hl
    exact ⟨none, 0, rfl, Nat.le_refl _, Nat.zero_le _, ⟨rfl, by omega, fun j hj => by simp at hj⟩, fun h => by omega, fun ad h => by cases h⟩
  · refine ⟨_, cap, rfl, h3, h4, ⟨hl, hs, fun j hj => ⟨_, rfl, ?_, (Array.getElem?_eq_some_iff.1 hh).1, by simp⟩⟩, fun _ => rfl, fun ad h => by cases h; exact hg⟩
    refine Blk.cellz hh j ?_
    have : (cur.toList.take (n * 1))[j]? = (bc xs)[j]? := by rw [h6]
    rw [List.getElem?_take, if_pos (by omega)] at this
    rw [← Array.getElem?_toList, this]
    simp [hj]
/-- One byte more. -/
theorem splice_snoc (Z : List Value) (l : List Int) (y : Int) (k : Nat) (hl : l.length = k) (hZ : k < Z.length) : (splice Z 0 (bc l)).set k (.int .u8 y) = splice Z 0 (bc (l ++ [y])) := by
  subst hl
  have e1 : splice Z 0 (bc l) = bc l ++ Z.drop l.length := by simp [splice]
  have e2 : splice Z 0 (bc (l ++ [y])) = bc l ++ (.int .u8 y :: Z.drop (l.length + 1)) := by simp [splice]
  have e3 : Z.drop l.length = Z[l.length] :: Z.drop (l.length + 1) := (List.getElem_cons_drop ..).symm
  rw [e1, e2, List.set_append_right _ _ (by simp)]
  simp only [List.length_map, Nat.sub_self]
  rw [e3]
  rfl
theorem leB_snoc (n : Nat) : ∀ x : Int, leB (n + 1) x = leB n x ++ [x / 256 ^ n % 256] := by
  induction n with
  | zero => intro x; simp [leB]
  | succ n ih =>
    intro x
    rw [leB, ih, leB]
    simp only [List.cons_append]
    congr 2
    rw [Int.ediv_ediv_of_nonneg (by omega), Int.pow_succ, Int.mul_comm]
/-- Numbers as bytes, one behind the other. -/
def rowB : List (Int × Nat) → List Int
  | [] => []
  | p :: r => leB p.2 p.1 ++ rowB r
theorem rowB_append (a b : List (Int × Nat)) : rowB (a ++ b) = rowB a ++ rowB b := by
  induction a with
  | nil => rfl
  | cons p r ih => simp [rowB, ih]
theorem rowB_len (L : List (Int × Nat)) (h : ∀ p ∈ L, p.2 ≤ 1000) : (rowB L).length ≤ 1000 * L.length := by
  induction L with
  | nil => simp [rowB]
  | cons p r ih =>
    have h1 := h p List.mem_cons_self
    have h2 := ih (fun q hq => h q (List.mem_cons_of_mem _ hq))
    simp only [rowB, List.length_append, leB_len, List.length_cons]
    omega
end Go.Proofs.Ytjikodjljocpmaa.Kb
