/- Encoder.Decimal: plain arithmetic of its bytes, and its walk. -/
import Derived.Test.YtjikodjljocpmaaBigD
import Derived.Test.YtjikodjljocpmaaNatH
import Derived.Test.YtjikodjljocpmaaPack
namespace Go.Proofs.Ytjikodjljocpmaa.Kb
open Go Go.RowKit
set_option linter.unusedVariables false
set_option linter.unusedSimpArgs false
set_option maxHeartbeats 1000000
theorem WB_256 : WB = 256 ^ 8 := by decide +kernel
/-- A byte of a word. -/
theorem byte_word (a p i : Nat) (hi : i < 8) : limb WB a p / 256 ^ i % 256 = limb 256 a (8 * p + i) := by
  have h := limb_mod B256 (a / 256 ^ (8 * p)) 8 i hi
  unfold limb at h ⊢
  rw [WB_pow, WB_256, h, Nat.div_div_eq_div_mul, ← Nat.pow_add]
theorem decN_split (neg : Bool) (a y : Nat) : decN neg a y = a + (2 * y + (if neg = true then 32768 else 0)) * 256 ^ 14 := by
  unfold decN
  have h1 : (2 : Nat) ^ 113 = 2 * 256 ^ 14 := by decide +kernel
  have h2 : (2 : Nat) ^ 127 = 32768 * 256 ^ 14 := by decide +kernel
  rw [h1, h2]
  generalize (256 : Nat) ^ 14 = P
  have e : (2 * y + 0) * P = y * (2 * P) := by rw [Nat.add_zero, Nat.mul_comm 2 y, Nat.mul_assoc]
  have e2 : (2 * y + 32768) * P = y * (2 * P) + 32768 * P := by rw [Nat.add_mul, Nat.mul_comm 2 y, Nat.mul_assoc]
  split
  · rw [e2]; omega
  · rw [e]; omega
theorem dec_low (neg : Bool) (a y j : Nat) (h : j < 14) : limb 256 (decN neg a y) j = limb 256 a j := by rw [decN_split, limb_low B256 _ _ _ _ h]
theorem a_14 {a : Nat} (ha : a < 2 ^ 113) : a / 256 ^ 14 ≤ 1 ∧ limb 256 a 14 = a / 256 ^ 14 := by
  have h1 : (2 : Nat) ^ 113 = 256 ^ 14 * 2 := by decide +kernel
  rw [h1] at ha
  have := Nat.div_lt_of_lt_mul ha
  refine ⟨by omega, ?_⟩
  unfold limb
  rw [Nat.mod_eq_of_lt (by omega)]
theorem dec_14 (neg : Bool) {a y : Nat} (ha : a < 2 ^ 113) : limb 256 (decN neg a y) 14 = limb 256 a 14 + 2 * y % 256 := by
  obtain ⟨h1, h2⟩ := a_14 ha
  rw [h2, decN_split, limb_at B256]
  generalize a / 256 ^ 14 = u at *
  split <;> omega
theorem dec_15 (neg : Bool) {a y : Nat} (ha : a < 2 ^ 113) (hy : y < 16384) : limb 256 (decN neg a y) 15 = y / 128 + (if neg = true then 128 else 0) := by
  obtain ⟨h1, h2⟩ := a_14 ha
  have e : limb 256 (decN neg a y) 15 = decN neg a y / 256 ^ 14 / 256 % 256 := by unfold limb; rw [Nat.div_div_eq_div_mul]
  rw [e, decN_split, add_mul_div B256]
  generalize a / 256 ^ 14 = u at *
  split <;> omega
theorem or_even : ∀ n : Fin 128, ∀ b : Fin 2, bits .or .u8 ((b.1 : Nat) : Int) ((2 * n.1 : Nat) : Int) = ((b.1 + 2 * n.1 : Nat) : Int) := by decide +kernel
theorem or_128 : ∀ n : Fin 128, bits .or .u8 ((n.1 : Nat) : Int) 128 = ((n.1 + 128 : Nat) : Int) := by decide +kernel
end Go.Proofs.Ytjikodjljocpmaa.Kb
