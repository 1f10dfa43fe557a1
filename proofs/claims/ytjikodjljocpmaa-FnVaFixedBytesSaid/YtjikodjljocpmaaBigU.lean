/- Inverted bytes: two's complement as a number. -/
import Derived.Test.YtjikodjljocpmaaBigS
namespace Go.Proofs.Ytjikodjljocpmaa.Kb
open Go Go.RowKit
set_option linter.unusedVariables false
set_option linter.unusedSimpArgs false
set_option maxHeartbeats 1000000
theorem beN_cons (x : Int) (xs : List Int) : beN (x :: xs) = x.toNat * 256 ^ xs.length + beN xs := by
  have := beN_append [x] xs
  have e : beN [x] = x.toNat := by simp [beN]
  rw [e] at this
  exact this
/-- The bytes inverted. -/
def invB (xs : List Int) : List Int := xs.map fun x => 255 - x
theorem invB_len (xs : List Int) : (invB xs).length = xs.length := by simp [invB]
theorem invB_byte {xs : List Int} (hby : ∀ x ∈ xs, 0 ≤ x ∧ x < 256) : ∀ x ∈ invB xs, 0 ≤ x ∧ x < 256 := by
  intro x hx
  obtain ⟨y, hy, rfl⟩ := List.mem_map.1 hx
  have := hby y hy
  omega
theorem beN_inv {xs : List Int} (hby : ∀ x ∈ xs, 0 ≤ x ∧ x < 256) : beN (invB xs) + beN xs + 1 = 256 ^ xs.length := by
  induction xs with
  | nil => rfl
  | cons x xs ih =>
    have h1 := ih (fun y hy => hby y (by simp [hy]))
    have h2 := hby x (by simp)
    have e : invB (x :: xs) = (255 - x) :: invB xs := rfl
    rw [e, beN_cons, beN_cons, invB_len, List.length_cons, Nat.pow_succ]
    generalize 256 ^ xs.length = P at *
    have h3 : (255 - x).toNat + x.toNat = 255 := by omega
    have h4 : (255 - x).toNat * P + x.toNat * P = 255 * P := by rw [← Nat.add_mul, h3]
    omega
theorem invB_take (xs : List Int) (n : Nat) : invB (xs.take n) = (invB xs).take n := by simp [invB, List.map_take]
theorem invB_rev (xs : List Int) : invB xs.reverse = (invB xs).reverse := by simp [invB]
/-- The magnitude of a negative number of two's complement. -/
theorem twos {xs : List Int} (hby : ∀ x ∈ xs, 0 ≤ x ∧ x < 256) : beN (invB xs) + 1 = 256 ^ xs.length - beN xs := by
  have := beN_inv hby
  omega
end Go.Proofs.Ytjikodjljocpmaa.Kb
