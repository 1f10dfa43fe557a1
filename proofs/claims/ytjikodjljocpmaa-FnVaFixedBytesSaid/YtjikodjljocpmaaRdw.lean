/- Words on rows of bytes that come in. -/
import Derived.Test.YtjikodjljocpmaaPack
import Derived.OpenShut
namespace Go.Proofs.Ytjikodjljocpmaa.Kb
open Go Go.RowKit
set_option linter.unusedVariables false
set_option linter.unusedSimpArgs false
theorem Rd.part {w : World} {S : List Nat} {ad : Addr} {n : Nat} {xs : List Int} (h : Rd w S (some ad) n xs) (p k : Nat) (hk : p + k ≤ n) : Rd w S (some (ad.add p)) k ((xs.drop p).take k) := by
  have hl := h.len
  have hs := h.small
  refine ⟨by simp; omega, by omega, fun j hj => ?_⟩
  simp at hj
  obtain ⟨ad', h1, h2, h3, h4⟩ := h.at_ (p + j) (by omega)
  cases h1
  refine ⟨_, rfl, ?_, by rw [add_block]; exact h3, by rw [add_block]; exact h4⟩
  rw [add_add, h2]
  simp
theorem Rd.first {w : World} {S : List Nat} {A : Option Addr} {n : Nat} {xs : List Int} (h : Rd w S A n xs) (k : Nat) (hk : k ≤ n) : Rd w S A k (xs.take k) := by
  have hl := h.len
  have hs := h.small
  refine ⟨by simp; omega, by omega, fun j hj => ?_⟩
  simp at hj
  obtain ⟨ad, h1, h2, h3, h4⟩ := h.at_ j (by omega)
  exact ⟨ad, h1, by rw [h2]; simp, h3, h4⟩
theorem lt_of_cell {w : World} {a : Addr} {v : Value} (h : w.cell? a = some v) : a.block < w.heap.size := by
  rcases Nat.lt_or_ge a.block w.heap.size with h' | h'
  · exact h'
  · simp [World.cell?, Array.getElem?_eq_none h'] at h
theorem rd_row_in {a : Option Addr} {len cap : Nat} {zs : List Int} {w : World} (h : (a = none ∧ len = 0 ∧ cap = 0 ∧ zs = []) ∨ ∃ x, a = some x ∧ len ≤ cap ∧ cap ≤ maxLen ∧ zs.length = cap ∧ (∀ i, i < zs.length → w.cell? (x.add i) = some (.int .u8 (zs.getD i 0))) ∧ ∀ n ∈ zs, (Lit.int .u8 n).wf = true) (hs : len * 1 ≤ 140737488351232) :
    len ≤ cap ∧ cap ≤ maxLen ∧ Rd w [] a len (zs.take len) ∧ ∀ x ∈ zs.take len, 0 ≤ x ∧ x < 256 := by
  rcases h with ⟨rfl, rfl, rfl, rfl⟩ | ⟨x, rfl, h1, h2, h3, h4, h5⟩
  · exact ⟨Nat.le_refl _, by decide, ⟨rfl, by omega, fun j hj => by simp at hj⟩, by simp⟩
  · refine ⟨h1, h2, ⟨by simp; omega, by omega, fun j hj => ?_⟩, ?_⟩
    · simp at hj
      have hc := h4 j (by omega)
      refine ⟨x, rfl, ?_, ?_, by simp⟩
      · rw [hc, List.getD_eq_getElem?_getD, List.getElem?_eq_getElem (by omega)]
        simp
      · have := lt_of_cell hc
        rwa [add_block] at this
    · intro y hy
      have := bounds_u8 (h5 y (List.mem_of_mem_take hy))
      omega
end Go.Proofs.Ytjikodjljocpmaa.Kb
