/- Numbers as bytes, the lowest one first: plain laws, and the walks of encoding/binary's functions. -/
import Derived.Test.YtjikodjljocpmaaKb
import Derived.Lib.EndianBits
namespace Go.Proofs.Ytjikodjljocpmaa.Kb
open Go Go.RowKit
set_option linter.unusedVariables false
set_option linter.unusedSimpArgs false
set_option maxHeartbeats 1000000
/-- The number of bytes. -/
def leN : List Int → Int
  | [] => 0
  | b :: bs => b + 256 * leN bs
/-- A number as n bytes. -/
def leB : Nat → Int → List Int
  | 0, _ => []
  | n + 1, x => x % 256 :: leB n (x / 256)
theorem leB_len (n : Nat) : ∀ x, (leB n x).length = n := by
  induction n with
  | zero => intro x; rfl
  | succ n ih => intro x; simp [leB, ih]
theorem leB_byte (n : Nat) : ∀ x, ∀ b ∈ leB n x, 0 ≤ b ∧ b < 256 := by
  induction n with
  | zero => intro x b h; cases h
  | succ n ih =>
    intro x b h
    simp only [leB, List.mem_cons] at h
    rcases h with rfl | h
    · omega
    · exact ih _ b h
theorem emod_256 (x m : Int) (hm : 0 < m) : x % (256 * m) = x % 256 + 256 * (x / 256 % m) := by
  have h1 : x / (256 * m) = x / 256 / m := by rw [Int.ediv_ediv_of_nonneg (by omega)]
  rw [Int.emod_def x (256 * m), h1, Int.emod_def (x / 256) m, Int.mul_assoc]
  generalize m * (x / 256 / m) = t
  omega
theorem pow_256 (n : Nat) : ((256 ^ (n + 1) : Nat) : Int) = 256 * ((256 ^ n : Nat) : Int) := by rw [Nat.pow_succ, Nat.mul_comm]; rfl
theorem pow_pos256 (n : Nat) : (0 : Int) < ((256 ^ n : Nat) : Int) := by
  have : 0 < 256 ^ n := Nat.pow_pos (by omega)
  omega
theorem leN_leB (n : Nat) : ∀ x : Int, leN (leB n x) = x % (256 ^ n : Nat) := by
  induction n with
  | zero => intro x; simp [leB, leN]
  | succ n ih =>
    intro x
    simp only [leB, leN, ih]
    rw [pow_256, emod_256 _ _ (pow_pos256 n)]
theorem leN_2 (x : Int) : leN (leB 2 x) = x % 65536 := leN_leB 2 x
theorem leN_4 (x : Int) : leN (leB 4 x) = x % 4294967296 := leN_leB 4 x
theorem leN_8 (x : Int) : leN (leB 8 x) = x % 18446744073709551616 := leN_leB 8 x
theorem leN_1 (x : Int) : leN (leB 1 x) = x % 256 := leN_leB 1 x
theorem leB_mod (n : Nat) : ∀ (x : Int) (m : Nat), n ≤ m → leB n (x % (256 ^ m : Nat)) = leB n x := by
  induction n with
  | zero => intro x m h; rfl
  | succ n ih =>
    intro x m h
    obtain ⟨m, rfl⟩ : ∃ k, m = k + 1 := ⟨m - 1, by omega⟩
    simp only [leB]
    rw [pow_256, emod_256 _ _ (pow_pos256 m), ← ih (x / 256) m (by omega)]
    have e1 : (x % 256 + 256 * (x / 256 % ((256 ^ m : Nat) : Int))) % 256 = x % 256 := by omega
    have e2 : (x % 256 + 256 * (x / 256 % ((256 ^ m : Nat) : Int))) / 256 = x / 256 % ((256 ^ m : Nat) : Int) := by omega
    rw [e1, e2]
theorem set2 (L : List Value) (v0 v1 : Value) (h : 2 ≤ L.length) : ((L).set 0 v0).set 1 v1 = splice L 0 [v0, v1] := by
  match L, h with
  | x0 :: x1 :: r, _ => simp [splice]
theorem set4 (L : List Value) (v0 v1 v2 v3 : Value) (h : 4 ≤ L.length) : ((((L).set 0 v0).set 1 v1).set 2 v2).set 3 v3 = splice L 0 [v0, v1, v2, v3] := by
  match L, h with
  | x0 :: x1 :: x2 :: x3 :: r, _ => simp [splice]
theorem set8 (L : List Value) (v0 v1 v2 v3 v4 v5 v6 v7 : Value) (h : 8 ≤ L.length) : ((((((((L).set 0 v0).set 1 v1).set 2 v2).set 3 v3).set 4 v4).set 5 v5).set 6 v6).set 7 v7 = splice L 0 [v0, v1, v2, v3, v4, v5, v6, v7] := by
  match L, h with
  | x0 :: x1 :: x2 :: x3 :: x4 :: x5 :: x6 :: x7 :: r, _ => simp [splice]
end Go.Proofs.Ytjikodjljocpmaa.Kb
