/- Numbers as bytes, the lowest one first: plain laws, and the walks of encoding/binary's functions. -/
import Derived.Test.YtmgckcngedpgoaaDoorKb
import Derived.Lib.EndianBits
namespace Go.Proofs.YtmgckcngedpgoaaDoor.Kb
open Go Go.RowKit
set_option linter.unusedVariables false
set_option linter.unusedSimpArgs false
set_option maxHeartbeats 1000000
/-- The number of bytes. -/
def leN : List Int → Int
  | [] => 0
  | b :: bs => b + 256 * leN bs
/-- A number as n bytes. -/
def leB : Nat → Int → List Int
  | 0, _ => []
  | n + 1, x => x % 256 :: leB n (x / 256)
theorem leB_len (n : Nat) : ∀ x, (leB n x).length = n := by
  induction n with
  | zero => intro x; rfl
  | succ n ih => intro x; simp [leB, ih]
theorem leB_byte (n : Nat) : ∀ x, ∀ b ∈ leB n x, 0 ≤ b ∧ b < 256 := by
  induction n with
  | zero => intro x b h; cases h
  | succ n ih =>
    intro x b h
    simp only [leB, List.mem_cons] at h
    rcases h with rfl | h
    · omega
    · exact ih _ b h
theorem emod_256 (x m : Int) (hm : 0 < m) : x % (256 * m) = x % 256 + 256 * (x / 256 % m) := by
  have h1 : x / (256 * m) = x / 256 / m := by rw [Int.ediv_ediv_of_nonneg (by omega)]
  rw [Int.emod_def x (256 * m), h1, Int.emod_def (x / 256) m, Int.mul_assoc]
  generalize m * (x / 256 / m) = t
  omega
theorem pow_256 (n : Nat) : ((256 ^ (n + 1) : Nat) : Int) = 256 * ((256 ^ n : Nat) : Int) := by rw [Nat.pow_succ, Nat.mul_comm]; rfl
theorem pow_pos256 (n : Nat) : (0 : Int) < ((256 ^ n : Nat) : Int) := by
  have : 0 < 256 ^ n := Nat.pow_pos (by omega)
  omega
theorem leN_leB (n : Nat) : ∀ x : Int, leN (leB n x) = x % (256 ^ n : Nat) := by
  induction n with
  | zero => intro x; simp [leB, leN]
  | succ n ih =>
    intro x
    simp only [leB, leN, ih]
    rw [pow_256, emod_256 _ _ (pow_pos256 n)]
theorem leN_2 (x : Int) : leN (leB 2 x) = x % 65536 := leN_leB 2 x
theorem leN_4 (x : Int) : leN (leB 4 x) = x % 4294967296 := leN_leB 4 x
theorem leN_8 (x : Int) : leN (leB 8 x) = x % 18446744073709551616 := leN_leB 8 x
theorem leN_1 (x : Int) : leN (leB 1 x) = x % 256 := leN_leB 1 x
theorem leB_mod (n : Nat) : ∀ (x : Int) (m : Nat), n ≤ m → leB n (x % (256 ^ m : Nat)) = leB n x := by
  induction n with
  | zero => intro x m h; rfl
  | succ n ih =>
    intro x m h
    obtain ⟨m, rfl⟩ : ∃ k, m = k + 1 := ⟨m - 1, by omega⟩
    simp only [leB]
    rw [pow_256, emod_256 _ _ (pow_pos256 m), ← ih (x / 256) m (by omega)]
    have e1 : (x % 256 + 256 * (x / 256 % ((256 ^ m : Nat) : Int))) % 256 = x % 256 := by omega
    have e2 : (x % 256 + 256 * (x / 256 % ((256 ^ m : Nat) : Int))) / 256 = x / 256 % ((256 ^ m : Nat) : Int) := by omega
    rw [e1, e2]
set_option maxRecDepth 100000 in
theorem get32 (g n c : Nat) (b0 b1 b2 b3 : Int) (w : World) (hn : 4 ≤ n) (h0 : 0 ≤ b0 ∧ b0 < 256) (h1 : 0 ≤ b1 ∧ b1 < 256) (h2 : 0 ≤ b2 ∧ b2 < 256) (h3 : 0 ≤ b3 ∧ b3 < 256)
    (c0 : w.cell? ⟨g, 0, none⟩ = some (.int .u8 b0)) (c1 : w.cell? ⟨g, 1, none⟩ = some (.int .u8 b1)) (c2 : w.cell? ⟨g, 2, none⟩ = some (.int .u8 b2)) (c3 : w.cell? ⟨g, 3, none⟩ = some (.int .u8 b3)) :
    Calls Tryd.prog 65 #[.agg #[], .slice (some ⟨g, 0, none⟩) n c] w fun e w' => e = .returned (.int .u32 (leN [b0, b1, b2, b3])) ∧ Below w.heap.size w w' := by
  obtain ⟨h0, k0⟩ := h0
  obtain ⟨h1, k1⟩ := h1
  obtain ⟨h2, k2⟩ := h2
  obtain ⟨h3, k3⟩ := h3
  have d0 := cell?_alloc_old (.cells #[] 113) c0
  have d1 := cell?_alloc_old (.cells #[] 113) c1
  have d2 := cell?_alloc_old (.cells #[] 113) c2
  have d3 := cell?_alloc_old (.cells #[] 113) c3
  clear c0 c1 c2 c3
  have q0 : 0 < n := by omega
  have q1 : (1 : Int) < (n : Int) := by omega
  have q2 : (2 : Int) < (n : Int) := by omega
  have q3 : (3 : Int) < (n : Int) := by omega
  have hv : leN [b0, b1, b2, b3] = b0 + b1 * 256 + b2 * 65536 + b3 * 16777216 := by simp only [leN]; omega
  have HV := Hd.mk hv
  clear hv
  go_enter Tryd.func65, Tryd.ntmps65
  go_wp2
  go_quiet (fail)
  go_wp2
  go_ret
  refine ⟨?_, ((Below.refl _ w).alloc (Nat.le_refl _) _).trans ⟨rfl, rfl, rfl, Nat.le_refl _, fun _ _ => rfl⟩⟩
  simp (disch := omega) only [u32_wrap_id, u32_or8, u32_or16, u32_or24]
  rw [HV.out]
  rfl
theorem set2 (L : List Value) (v0 v1 : Value) (h : 2 ≤ L.length) : ((L).set 0 v0).set 1 v1 = splice L 0 [v0, v1] := by
  match L, h with
  | x0 :: x1 :: r, _ => simp [splice]
theorem set4 (L : List Value) (v0 v1 v2 v3 : Value) (h : 4 ≤ L.length) : ((((L).set 0 v0).set 1 v1).set 2 v2).set 3 v3 = splice L 0 [v0, v1, v2, v3] := by
  match L, h with
  | x0 :: x1 :: x2 :: x3 :: r, _ => simp [splice]
theorem set8 (L : List Value) (v0 v1 v2 v3 v4 v5 v6 v7 : Value) (h : 8 ≤ L.length) : ((((((((L).set 0 v0).set 1 v1).set 2 v2).set 3 v3).set 4 v4).set 5 v5).set 6 v6).set 7 v7 = splice L 0 [v0, v1, v2, v3, v4, v5, v6, v7] := by
  match L, h with
  | x0 :: x1 :: x2 :: x3 :: x4 :: x5 :: x6 :: x7 :: r, _ => simp [splice]
end Go.Proofs.YtmgckcngedpgoaaDoor.Kb
