/- Bytes of a number and of its inverse, the lowest first. -/
import Derived.Test.YtjikodjljocpmaaBigX
import Derived.Test.YtjikodjljocpmaaBigK
import Derived.Test.YtjikodjljocpmaaBigT
namespace Go.Proofs.Ytjikodjljocpmaa.Kb
open Go Go.RowKit
set_option linter.unusedVariables false
set_option linter.unusedSimpArgs false
set_option maxHeartbeats 1000000
theorem inv_mod {N n a q : Nat} (h : n + a + 1 = 256 ^ N) (hq : q ≤ N) : n % 256 ^ q + a % 256 ^ q + 1 = 256 ^ q := by
  have hd : 256 ^ q ∣ n + a + 1 := by rw [h]; exact Nat.pow_dvd_pow 256 hq
  have hp : 0 < 256 ^ q := Nat.pow_pos (by decide)
  generalize 256 ^ q = P at *
  have e : n + a + 1 = (n % P + a % P + 1) + P * (n / P + a / P) := by
    have h1 := Nat.div_add_mod n P
    have h2 := Nat.div_add_mod a P
    rw [Nat.mul_add]
    omega
  rw [e] at hd
  have hd2 : P ∣ n % P + a % P + 1 := (Nat.dvd_add_iff_left (Nat.dvd_mul_right P _)).2 hd
  obtain ⟨z, hz⟩ := hd2
  have h1 := Nat.mod_lt n hp
  have h2 := Nat.mod_lt a hp
  have z1 : z = 1 := by
    rcases Nat.lt_or_ge z 2 with h3 | h3
    · rcases Nat.eq_zero_or_pos z with h4 | h4
      · subst h4; omega
      · omega
    · have := Nat.mul_le_mul_left P h3
      omega
  rw [hz, z1, Nat.mul_one]
theorem inv_limb {N n a q : Nat} (h : n + a + 1 = 256 ^ N) (hq : q < N) : limb 256 a q = 255 - limb 256 n q := by
  have h1 := inv_mod h (Nat.le_of_lt hq)
  have h2 := inv_mod h (show q + 1 ≤ N by omega)
  rw [mod_succ B256, mod_succ B256, Nat.pow_succ] at h2
  have hp : 0 < 256 ^ q := Nat.pow_pos (by decide)
  generalize 256 ^ q = P at *
  have e : (limb 256 n q + limb 256 a q) * P = 255 * P := by rw [Nat.add_mul]; omega
  have := Nat.eq_of_mul_eq_mul_right hp e
  omega
/-- The bytes are those of their number. -/
theorem leL_of {xs : List Int} (hby : ∀ x ∈ xs, 0 ≤ x ∧ x < 256) : leL (beN xs.reverse) xs.length = xs := by
  have h := beL_beN (xs := xs.reverse) (fun x hx => hby x (List.mem_reverse.1 hx))
  rw [List.length_reverse] at h
  have h2 : leL (beN xs.reverse) xs.length = (beL (beN xs.reverse) xs.length).reverse := by
    apply List.ext_getElem
    · simp [leL, beL]
    · intro j h1 h2
      simp only [leL, beL, List.getElem_map, List.getElem_range, List.getElem_reverse, List.length_map, List.length_range]
      have : j < xs.length := by simpa [leL] using h1
      congr 2
      omega
  rw [h2, h, List.reverse_reverse]
theorem scr_spliceN {n N : Nat} {Z : List Value} (hz : Z.length = 4096) (hN : N ≤ 4096) : (splice Z 0 (bc (leL n N))).toArray = scr n N Z := by
  apply Array.ext'
  show splice Z 0 (bc (leL n N)) = (List.range 4096).map (fun q => if q < N then Value.int .u8 (limb 256 n q : Nat) else Z.getD q undef) ++ []
  rw [List.append_nil]
  apply List.ext_getElem?
  intro j
  have hl : (bc (leL n N)).length = N := by simp [leL_len]
  have e1 : splice Z 0 (bc (leL n N)) = bc (leL n N) ++ Z.drop N := by simp [splice, hl, leL_len]
  rw [e1]
  by_cases hj : j < 4096
  · rw [List.getElem?_map, List.getElem?_range hj]
    by_cases h16 : j < N
    · rw [List.getElem?_append_left (by omega)]
      simp [leL, h16]
    · rw [List.getElem?_append_right (by omega), hl, List.getElem?_drop, show N + (j - N) = j by omega]
      simp [h16, List.getD_eq_getElem?_getD, List.getElem?_eq_getElem (show j < Z.length by omega)]
  · rw [List.getElem?_append_right (by omega), List.getElem?_eq_none (by rw [List.length_drop, hl]; omega), List.getElem?_eq_none (by simp; omega)]
theorem and_128 : ∀ n : Fin 256, (bits .and .u8 ((n.1 : Nat) : Int) 128 != 0) = decide (128 ≤ n.1) := by decide +kernel
end Go.Proofs.Ytjikodjljocpmaa.Kb
