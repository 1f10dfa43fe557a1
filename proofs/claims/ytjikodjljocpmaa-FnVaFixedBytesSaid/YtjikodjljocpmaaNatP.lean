/- Numbers as limbs of a base: plain arithmetic. -/
import Derived.WalkKit
namespace Go.Proofs.Ytjikodjljocpmaa.Kb
set_option linter.unusedVariables false
set_option linter.unusedSimpArgs false
set_option linter.unusedSectionVars false
/-- The base of the reference's numbers. -/
def LB : Nat := 1000000000
theorem LB_eq : LB = 1000000000 := rfl
/-- The base of machine words. -/
def WB : Nat := 18446744073709551616
theorem WB_eq : WB = 18446744073709551616 := rfl
/-- The limb of a number at a place. -/
def limb (B n j : Nat) : Nat := n / B ^ j % B
section
variable {B : Nat} (hB : 1 < B)
include hB
theorem limb_lt (n j : Nat) : limb B n j < B := Nat.mod_lt _ (by omega)
theorem pow_pos' (j : Nat) : 0 < B ^ j := Nat.pow_pos (by omega)
theorem limb_small {n j : Nat} (h : n < B ^ j) : limb B n j = 0 := by unfold limb; rw [Nat.div_eq_of_lt h]; simp
theorem limb_over {n j k : Nat} (h : n < B ^ j) (hk : j ≤ k) : limb B n k = 0 := limb_small hB (Nat.lt_of_lt_of_le h (Nat.pow_le_pow_right (by omega) hk))
theorem limb_top {n j : Nat} (h : n < B ^ (j + 1)) : limb B n j = n / B ^ j := by
  unfold limb
  refine Nat.mod_eq_of_lt ?_
  rw [Nat.pow_succ] at h
  exact Nat.div_lt_of_lt_mul h
theorem mod_succ (n j : Nat) : n % B ^ (j + 1) = n % B ^ j + limb B n j * B ^ j := by
  rw [Nat.mod_pow_succ]; unfold limb; rw [Nat.mul_comm]
theorem div_split (n j : Nat) : n / B ^ j = n / B ^ (j + 1) * B + limb B n j := by
  unfold limb
  rw [Nat.pow_succ, ← Nat.div_div_eq_div_mul]
  have := Nat.div_add_mod (n / B ^ j) B
  rw [Nat.mul_comm] at this
  exact this.symm
theorem add_mul_div (n x j : Nat) : (n + x * B ^ j) / B ^ j = n / B ^ j + x := Nat.add_mul_div_right _ _ (pow_pos' hB j)
/-- What stands above a place does not touch the limbs below it. -/
theorem limb_low (n x m k : Nat) (h : k < m) : limb B (n + x * B ^ m) k = limb B n k := by
  obtain ⟨d, rfl⟩ : ∃ d, m = k + 1 + d := ⟨m - (k + 1), by omega⟩
  unfold limb
  have e : x * B ^ (k + 1 + d) = (x * B ^ d * B) * B ^ k := by rw [Nat.pow_add, Nat.pow_succ]; simp only [Nat.mul_assoc, Nat.mul_comm, Nat.mul_left_comm]
  rw [e, add_mul_div hB, Nat.add_mul_mod_self_right]
theorem limb_at (n x m : Nat) : limb B (n + x * B ^ m) m = (n / B ^ m + x) % B := by unfold limb; rw [add_mul_div hB]
theorem limb_mod (n m k : Nat) (h : k < m) : limb B (n % B ^ m) k = limb B n k := by
  have e : n = n % B ^ m + n / B ^ m * B ^ m := by rw [Nat.mul_comm]; exact (Nat.mod_add_div _ _).symm
  conv => rhs; rw [e]
  rw [limb_low hB _ _ _ _ h]
theorem mod_lt' (n j : Nat) : n % B ^ j < B ^ j := Nat.mod_lt _ (pow_pos' hB j)
/-- The carry into place i of a sum. -/
def cin (B a b i : Nat) : Nat := (a % B ^ i + b % B ^ i) / B ^ i
theorem cin_zero (a b : Nat) : cin B a b 0 = 0 := by simp [cin, Nat.mod_one]
theorem cin_le (a b i : Nat) : cin B a b i ≤ 1 := by
  unfold cin
  have h1 := mod_lt' hB a i
  have h2 := mod_lt' hB b i
  have : (a % B ^ i + b % B ^ i) / B ^ i < 2 := Nat.div_lt_of_lt_mul (by omega)
  omega
theorem cin_succ (a b i : Nat) : cin B a b (i + 1) = (cin B a b i + limb B a i + limb B b i) / B := by
  unfold cin
  rw [mod_succ hB, mod_succ hB]
  have e : a % B ^ i + limb B a i * B ^ i + (b % B ^ i + limb B b i * B ^ i) = (a % B ^ i + b % B ^ i) + (limb B a i + limb B b i) * B ^ i := by rw [Nat.add_mul]; omega
  rw [e, Nat.pow_succ, ← Nat.div_div_eq_div_mul, add_mul_div hB]
  congr 1
  omega
theorem sum_div (a b i : Nat) : (a + b) / B ^ i = a / B ^ i + b / B ^ i + cin B a b i := by
  unfold cin
  have ea : a = a % B ^ i + a / B ^ i * B ^ i := by rw [Nat.mul_comm]; exact (Nat.mod_add_div _ _).symm
  have eb : b = b % B ^ i + b / B ^ i * B ^ i := by rw [Nat.mul_comm]; exact (Nat.mod_add_div _ _).symm
  have e : a + b = (a % B ^ i + b % B ^ i) + (a / B ^ i + b / B ^ i) * B ^ i := by rw [Nat.add_mul]; omega
  rw [e, add_mul_div hB]
  generalize B ^ i = P
  omega
theorem sum_limb (a b i : Nat) : limb B (a + b) i = (cin B a b i + limb B a i + limb B b i) % B := by
  show (a + b) / B ^ i % B = _
  rw [sum_div hB]
  unfold limb
  rw [Nat.add_comm _ (cin B a b i), ← Nat.add_assoc, Nat.add_mod, Nat.add_mod (cin B a b i) (a / B ^ i) B]
  conv => rhs; rw [Nat.add_mod, Nat.add_mod (cin B a b i) (a / B ^ i % B) B]
  simp
/-- The sum goes on at place i if a number has a limb there, or something is carried. -/
theorem sum_more {a b i : Nat} : B ^ i ≤ a + b ↔ B ^ i ≤ a ∨ B ^ i ≤ b ∨ 0 < cin B a b i := by
  have hp := pow_pos' hB i
  constructor
  · intro h
    by_cases ha : B ^ i ≤ a
    · exact .inl ha
    · by_cases hb : B ^ i ≤ b
      · exact .inr (.inl hb)
      · refine .inr (.inr ?_)
        unfold cin
        rw [Nat.mod_eq_of_lt (by omega), Nat.mod_eq_of_lt (by omega)]
        exact Nat.div_pos h hp
  · rintro (h | h | h)
    · omega
    · omega
    · unfold cin at h
      have h1 : B ^ i ≤ a % B ^ i + b % B ^ i := by
        rcases Nat.lt_or_ge (a % B ^ i + b % B ^ i) (B ^ i) with h2 | h2
        · rw [Nat.div_eq_of_lt h2] at h; omega
        · exact h2
      have := Nat.mod_le a (B ^ i)
      have := Nat.mod_le b (B ^ i)
      omega
/-- A limb of a difference, and what is borrowed. -/
theorem diff_limb {a b i : Nat} (h : b ≤ a) : (limb B a i < cin B (a - b) b i + limb B b i ∧ limb B (a - b) i = limb B a i + B - (cin B (a - b) b i + limb B b i) ∧ cin B (a - b) b (i + 1) = 1) ∨
    (cin B (a - b) b i + limb B b i ≤ limb B a i ∧ limb B (a - b) i = limb B a i - (cin B (a - b) b i + limb B b i) ∧ cin B (a - b) b (i + 1) = 0) := by
  have e : a - b + b = a := by omega
  have h1 := sum_limb hB (a - b) b i
  have h2 := cin_succ hB (a - b) b i
  have h3 := cin_le hB (a - b) b (i + 1)
  rw [e] at h1
  have h4 := limb_lt hB (a - b) i
  have h5 := Nat.div_add_mod (cin B (a - b) b i + limb B (a - b) i + limb B b i) B
  rw [← h1, ← h2] at h5
  have h6 : cin B (a - b) b (i + 1) = 0 ∨ cin B (a - b) b (i + 1) = 1 := by omega
  rcases h6 with h6 | h6
  · rw [h6] at h5 ⊢
    simp at h5
    right
    omega
  · rw [h6] at h5 ⊢
    simp at h5
    left
    have := limb_lt hB a i
    omega
/-- The partial sums of a product: S, the product so far; x, the limb in hand. -/
def prd (B S x b i j : Nat) : Nat := S % B ^ (i + j) + x * (b % B ^ j) * B ^ i
theorem prd_zero (S x b i : Nat) : prd B S x b i 0 = S % B ^ i := by simp [prd, Nat.mod_one]
theorem prd_succ (S x b i j : Nat) : prd B S x b i (j + 1) = prd B S x b i j + (limb B S (i + j) + x * limb B b j) * B ^ (i + j) := by
  unfold prd
  rw [show i + (j + 1) = (i + j) + 1 from rfl, mod_succ hB, mod_succ hB, Nat.pow_add B i j]
  generalize limb B S (i + j) = u
  generalize limb B b j = v
  generalize B ^ i = P
  generalize B ^ j = R
  generalize b % R = y
  rw [Nat.mul_add, Nat.add_mul, Nat.add_mul]
  have : x * (v * R) * P = x * v * (P * R) := by simp only [Nat.mul_assoc, Nat.mul_comm, Nat.mul_left_comm]
  omega
theorem prd_lt {S x b i j : Nat} (hx : x < B) : prd B S x b i j < B ^ (i + j) * B := by
  unfold prd
  have h1 := mod_lt' hB S (i + j)
  have h2 := mod_lt' hB b j
  have h3 : x * (b % B ^ j) * B ^ i ≤ (B - 1) * B ^ (i + j) := by
    rw [Nat.pow_add, Nat.mul_comm (B ^ i) (B ^ j), ← Nat.mul_assoc]
    exact Nat.mul_le_mul_right _ (Nat.mul_le_mul (by omega) (by omega))
  have h4 : (B - 1) * B ^ (i + j) + B ^ (i + j) = B ^ (i + j) * B := by
    obtain ⟨d, rfl⟩ : ∃ d, B = d + 1 := ⟨B - 1, by omega⟩
    simp only [Nat.add_sub_cancel]
    rw [Nat.mul_succ, Nat.mul_comm]
  omega
theorem prd_carry {S x b i j : Nat} (hx : x < B) : prd B S x b i j / B ^ (i + j) < B := Nat.div_lt_of_lt_mul (prd_lt hB hx)
theorem prd_limb (S x b i j : Nat) : limb B (prd B S x b i (j + 1)) (i + j) = (prd B S x b i j / B ^ (i + j) + (limb B S (i + j) + x * limb B b j)) % B := by rw [prd_succ hB, limb_at hB]
theorem prd_low (S x b i j k : Nat) (h : k < i + j) : limb B (prd B S x b i (j + 1)) k = limb B (prd B S x b i j) k := by rw [prd_succ hB, limb_low hB _ _ _ _ h]
theorem prd_next (S x b i j : Nat) : prd B S x b i (j + 1) / B ^ (i + (j + 1)) = (prd B S x b i j / B ^ (i + j) + (limb B S (i + j) + x * limb B b j)) / B := by
  rw [prd_succ hB, show i + (j + 1) = (i + j) + 1 from rfl, Nat.pow_succ, ← Nat.div_div_eq_div_mul, add_mul_div hB]
theorem prd_end {a b i m : Nat} (hb : b < B ^ m) : prd B (a % B ^ i * b) (limb B a i) b i m = a % B ^ (i + 1) * b := by
  unfold prd
  have h1 := mod_lt' hB a i
  have h2 : a % B ^ i * b < B ^ (i + m) := by
    rw [Nat.pow_add]
    rcases Nat.eq_zero_or_pos b with rfl | h0
    · simp; exact Nat.mul_pos (pow_pos' hB i) (pow_pos' hB m)
    · exact Nat.mul_lt_mul_of_lt_of_le h1 (by omega) (by omega)
  rw [Nat.mod_eq_of_lt h2, Nat.mod_eq_of_lt hb, mod_succ hB, Nat.add_mul]
  simp only [Nat.mul_assoc, Nat.mul_comm, Nat.mul_left_comm]
theorem mod_mul_lt {a b i m : Nat} (hb : b < B ^ m) : a % B ^ i * b < B ^ (i + m) := by
  have h1 := mod_lt' hB a i
  rw [Nat.pow_add]
  rcases Nat.eq_zero_or_pos b with rfl | h0
  · simp; exact Nat.mul_pos (pow_pos' hB i) (pow_pos' hB m)
  · exact Nat.mul_lt_mul_of_lt_of_le h1 (by omega) (by omega)
/-- Division by a small number, from the highest limb down: t = rest * B + the limb. -/
theorem short_rest (a b i : Nat) : a / B ^ i % b = (a / B ^ (i + 1) % b * B + limb B a i) % b := by
  rw [div_split hB a i, Nat.add_mod, Nat.mul_mod]
  conv => rhs; rw [Nat.add_mod, Nat.mul_mod]
  simp
theorem short_limb {a b i : Nat} (hb : 0 < b) : limb B (a / b) i = (a / B ^ (i + 1) % b * B + limb B a i) / b := by
  have e1 : a / b / B ^ i = a / B ^ i / b := by rw [Nat.div_div_eq_div_mul, Nat.div_div_eq_div_mul, Nat.mul_comm]
  show a / b / B ^ i % B = _
  rw [e1, div_split hB a i]
  have e2 : a / B ^ (i + 1) = b * (a / B ^ (i + 1) / b) + a / B ^ (i + 1) % b := (Nat.div_add_mod _ _).symm
  generalize hq : a / B ^ (i + 1) / b = q at e2
  generalize hr : a / B ^ (i + 1) % b = r at e2
  have hrb : r < b := by rw [← hr]; exact Nat.mod_lt _ hb
  have hd := limb_lt hB a i
  generalize limb B a i = d at hd ⊢
  rw [e2, Nat.add_mul, Nat.add_assoc, Nat.mul_assoc, Nat.mul_add_div hb, Nat.mul_comm q B, Nat.mul_add_mod]
  refine Nat.mod_eq_of_lt (Nat.div_lt_of_lt_mul ?_)
  calc r * B + d < r * B + B := by omega
    _ = (r + 1) * B := by rw [Nat.succ_mul]
    _ ≤ b * B := Nat.mul_le_mul_right _ hrb
/-- The highest limb is 0 just if the number has fewer limbs. -/
theorem top_zero {n l : Nat} (h : n < B ^ (l + 1)) : limb B n l = 0 ↔ n < B ^ l := by
  rw [limb_top hB h]
  exact ⟨fun e => by
    rcases Nat.lt_or_ge n (B ^ l) with h1 | h1
    · exact h1
    · have := Nat.div_pos h1 (pow_pos' hB l); omega, fun e => Nat.div_eq_of_lt e⟩
/-- So many limbs a number has. -/
theorem lens_eq {n l l' : Nat} (h : n < B ^ l) (g : l = 0 ∨ B ^ (l - 1) ≤ n) (h' : n < B ^ l') (g' : l' = 0 ∨ B ^ (l' - 1) ≤ n) : l = l' := by
  have aux : ∀ {a b : Nat}, n < B ^ a → (b = 0 ∨ B ^ (b - 1) ≤ n) → b ≤ a := by
    intro a b h1 h2
    rcases h2 with h2 | h2
    · omega
    · rcases Nat.lt_or_ge a b with h3 | h3
      · have := Nat.pow_le_pow_right (n := B) (by omega) (show a ≤ b - 1 by omega)
        omega
      · exact h3
  have := aux h g'
  have := aux h' g
  omega
theorem len_less {a b la lb : Nat} (ha : a < B ^ la) (gb : lb = 0 ∨ B ^ (lb - 1) ≤ b) (h : la < lb) : a < b := by
  rcases gb with g | g
  · omega
  · have := Nat.pow_le_pow_right (n := B) (by omega) (show la ≤ lb - 1 by omega)
    omega
/-- Numbers that have the same limbs above place i, and different ones there. -/
theorem cmp_limb {a b i : Nat} (h : a / B ^ (i + 1) = b / B ^ (i + 1)) : (limb B a i < limb B b i → a < b) ∧ (limb B b i < limb B a i → b < a) ∧ (limb B a i = limb B b i → a / B ^ i = b / B ^ i) := by
  have ha := div_split hB a i
  have hb := div_split hB b i
  rw [h] at ha
  have aux : ∀ {x y : Nat}, x / B ^ i < y / B ^ i → x < y := by
    intro x y hxy
    rcases Nat.lt_or_ge x y with h1 | h1
    · exact h1
    · have := Nat.div_le_div_right (c := B ^ i) h1; omega
  refine ⟨fun hlt => aux (by omega), fun hlt => aux (by omega), fun he => by omega⟩
end
end Go.Proofs.Ytjikodjljocpmaa.Kb
