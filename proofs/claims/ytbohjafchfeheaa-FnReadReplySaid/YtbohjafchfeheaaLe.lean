/- Numbers as bytes, the lowest one first: plain laws, and the walks of encoding/binary's functions. -/
import Derived.Test.YtbohjafchfeheaaKb
import Derived.Lib.EndianBits
namespace Go.Proofs.Ytbohjafchfeheaa.Kb
open Go Go.RowKit
set_option linter.unusedVariables false
set_option linter.unusedSimpArgs false
set_option maxHeartbeats 1000000
/-- The number of bytes. -/
def leN : List Int → Int
  | [] => 0
  | b :: bs => b + 256 * leN bs
/-- A number as n bytes. -/
def leB : Nat → Int → List Int
  | 0, _ => []
  | n + 1, x => x % 256 :: leB n (x / 256)
theorem leB_len (n : Nat) : ∀ x, (leB n x).length = n := by
  induction n with
  | zero => intro x; rfl
  | succ n ih => intro x; simp [leB, ih]
theorem leB_byte (n : Nat) : ∀ x, ∀ b ∈ leB n x, 0 ≤ b ∧ b < 256 := by
  induction n with
  | zero => intro x b h; cases h
  | succ n ih =>
    intro x b h
    simp only [leB, List.mem_cons] at h
    rcases h with rfl | h
    · omega
    · exact ih _ b h
theorem emod_256 (x m : Int) (hm : 0 < m) : x % (256 * m) = x % 256 + 256 * (x / 256 % m) := by
  have h1 : x / (256 * m) = x / 256 / m := by rw [Int.ediv_ediv_of_nonneg (by omega)]
  rw [Int.emod_def x (256 * m), h1, Int.emod_def (x / 256) m, Int.mul_assoc]
  generalize m * (x / 256 / m) = t
  omega
theorem pow_256 (n : Nat) : ((256 ^ (n + 1) : Nat) : Int) = 256 * ((256 ^ n : Nat) : Int) := by rw [Nat.pow_succ, Nat.mul_comm]; rfl
theorem pow_pos256 (n : Nat) : (0 : Int) < ((256 ^ n : Nat) : Int) := by
  have : 0 < 256 ^ n := Nat.pow_pos (by omega)
  omega
theorem leN_leB (n : Nat) : ∀ x : Int, leN (leB n x) = x % (256 ^ n : Nat) := by
  induction n with
  | zero => intro x; simp [leB, leN]
  | succ n ih =>
    intro x
    simp only [leB, leN, ih]
    rw [pow_256, emod_256 _ _ (pow_pos256 n)]
theorem leN_2 (x : Int) : leN (leB 2 x) = x % 65536 := leN_leB 2 x
theorem leN_4 (x : Int) : leN (leB 4 x) = x % 4294967296 := leN_leB 4 x
theorem leN_8 (x : Int) : leN (leB 8 x) = x % 18446744073709551616 := leN_leB 8 x
theorem leN_1 (x : Int) : leN (leB 1 x) = x % 256 := leN_leB 1 x
theorem leB_mod (n : Nat) : ∀ (x : Int) (m : Nat), n ≤ m → leB n (x % (256 ^ m : Nat)) = leB n x := by
  induction n with
  | zero => intro x m h; rfl
  | succ n ih =>
    intro x m h
    obtain ⟨m, rfl⟩ : ∃ k, m = k + 1 := ⟨m - 1, by omega⟩
    simp only [leB]
    rw [pow_256, emod_256 _ _ (pow_pos256 m), ← ih (x / 256) m (by omega)]
    have e1 : (x % 256 + 256 * (x / 256 % ((256 ^ m : Nat) : Int))) % 256 = x % 256 := by omega
    have e2 : (x % 256 + 256 * (x / 256 % ((256 ^ m : Nat) : Int))) / 256 = x / 256 % ((256 ^ m : Nat) : Int) := by omega
    rw [e1, e2]
set_option maxRecDepth 100000 in
theorem get16 (g n c : Nat) (b0 b1 : Int) (w : World) (hn : 2 ≤ n) (h0 : 0 ≤ b0 ∧ b0 < 256) (h1 : 0 ≤ b1 ∧ b1 < 256)
    (c0 : w.cell? ⟨g, 0, none⟩ = some (.int .u8 b0)) (c1 : w.cell? ⟨g, 1, none⟩ = some (.int .u8 b1)) :
    Calls Try.prog 123 #[.agg #[], .slice (some ⟨g, 0, none⟩) n c] w fun e w' => e = .returned (.int .u16 (leN [b0, b1])) ∧ Below w.heap.size w w' := by
  obtain ⟨h0, k0⟩ := h0
  obtain ⟨h1, k1⟩ := h1
  have d0 := cell?_alloc_old (.cells #[] 215) c0
  have d1 := cell?_alloc_old (.cells #[] 215) c1
  clear c0 c1
  have q0 : 0 < n := by omega
  have q1 : (1 : Int) < (n : Int) := by omega
  have hv : leN [b0, b1] = b0 + b1 * 256 := by simp only [leN]; omega
  have HV := Hd.mk hv
  clear hv
  go_enter Try.func123, Try.ntmps123
  go_wp2
  go_quiet (fail)
  go_wp2
  go_ret
  refine ⟨?_, ((Below.refl _ w).alloc (Nat.le_refl _) _).trans ⟨rfl, rfl, rfl, Nat.le_refl _, fun _ _ => rfl⟩⟩
  simp (disch := omega) only [u16_wrap_id, u16_or8]
  rw [HV.out]
  rfl
set_option maxRecDepth 100000 in
theorem get32 (g n c : Nat) (b0 b1 b2 b3 : Int) (w : World) (hn : 4 ≤ n) (h0 : 0 ≤ b0 ∧ b0 < 256) (h1 : 0 ≤ b1 ∧ b1 < 256) (h2 : 0 ≤ b2 ∧ b2 < 256) (h3 : 0 ≤ b3 ∧ b3 < 256)
    (c0 : w.cell? ⟨g, 0, none⟩ = some (.int .u8 b0)) (c1 : w.cell? ⟨g, 1, none⟩ = some (.int .u8 b1)) (c2 : w.cell? ⟨g, 2, none⟩ = some (.int .u8 b2)) (c3 : w.cell? ⟨g, 3, none⟩ = some (.int .u8 b3)) :
    Calls Try.prog 124 #[.agg #[], .slice (some ⟨g, 0, none⟩) n c] w fun e w' => e = .returned (.int .u32 (leN [b0, b1, b2, b3])) ∧ Below w.heap.size w w' := by
  obtain ⟨h0, k0⟩ := h0
  obtain ⟨h1, k1⟩ := h1
  obtain ⟨h2, k2⟩ := h2
  obtain ⟨h3, k3⟩ := h3
  have d0 := cell?_alloc_old (.cells #[] 215) c0
  have d1 := cell?_alloc_old (.cells #[] 215) c1
  have d2 := cell?_alloc_old (.cells #[] 215) c2
  have d3 := cell?_alloc_old (.cells #[] 215) c3
  clear c0 c1 c2 c3
  have q0 : 0 < n := by omega
  have q1 : (1 : Int) < (n : Int) := by omega
  have q2 : (2 : Int) < (n : Int) := by omega
  have q3 : (3 : Int) < (n : Int) := by omega
  have hv : leN [b0, b1, b2, b3] = b0 + b1 * 256 + b2 * 65536 + b3 * 16777216 := by simp only [leN]; omega
  have HV := Hd.mk hv
  clear hv
  go_enter Try.func124, Try.ntmps124
  go_wp2
  go_quiet (fail)
  go_wp2
  go_ret
  refine ⟨?_, ((Below.refl _ w).alloc (Nat.le_refl _) _).trans ⟨rfl, rfl, rfl, Nat.le_refl _, fun _ _ => rfl⟩⟩
  simp (disch := omega) only [u32_wrap_id, u32_or8, u32_or16, u32_or24]
  rw [HV.out]
  rfl
set_option maxRecDepth 100000 in
theorem get64 (g n c : Nat) (b0 b1 b2 b3 b4 b5 b6 b7 : Int) (w : World) (hn : 8 ≤ n) (h0 : 0 ≤ b0 ∧ b0 < 256) (h1 : 0 ≤ b1 ∧ b1 < 256) (h2 : 0 ≤ b2 ∧ b2 < 256) (h3 : 0 ≤ b3 ∧ b3 < 256) (h4 : 0 ≤ b4 ∧ b4 < 256) (h5 : 0 ≤ b5 ∧ b5 < 256) (h6 : 0 ≤ b6 ∧ b6 < 256) (h7 : 0 ≤ b7 ∧ b7 < 256)
    (c0 : w.cell? ⟨g, 0, none⟩ = some (.int .u8 b0)) (c1 : w.cell? ⟨g, 1, none⟩ = some (.int .u8 b1)) (c2 : w.cell? ⟨g, 2, none⟩ = some (.int .u8 b2)) (c3 : w.cell? ⟨g, 3, none⟩ = some (.int .u8 b3)) (c4 : w.cell? ⟨g, 4, none⟩ = some (.int .u8 b4)) (c5 : w.cell? ⟨g, 5, none⟩ = some (.int .u8 b5)) (c6 : w.cell? ⟨g, 6, none⟩ = some (.int .u8 b6)) (c7 : w.cell? ⟨g, 7, none⟩ = some (.int .u8 b7)) :
    Calls Try.prog 121 #[.agg #[], .slice (some ⟨g, 0, none⟩) n c] w fun e w' => e = .returned (.int .u64 (leN [b0, b1, b2, b3, b4, b5, b6, b7])) ∧ Below w.heap.size w w' := by
  obtain ⟨h0, k0⟩ := h0
  obtain ⟨h1, k1⟩ := h1
  obtain ⟨h2, k2⟩ := h2
  obtain ⟨h3, k3⟩ := h3
  obtain ⟨h4, k4⟩ := h4
  obtain ⟨h5, k5⟩ := h5
  obtain ⟨h6, k6⟩ := h6
  obtain ⟨h7, k7⟩ := h7
  have d0 := cell?_alloc_old (.cells #[] 215) c0
  have d1 := cell?_alloc_old (.cells #[] 215) c1
  have d2 := cell?_alloc_old (.cells #[] 215) c2
  have d3 := cell?_alloc_old (.cells #[] 215) c3
  have d4 := cell?_alloc_old (.cells #[] 215) c4
  have d5 := cell?_alloc_old (.cells #[] 215) c5
  have d6 := cell?_alloc_old (.cells #[] 215) c6
  have d7 := cell?_alloc_old (.cells #[] 215) c7
  clear c0 c1 c2 c3 c4 c5 c6 c7
  have q0 : 0 < n := by omega
  have q1 : (1 : Int) < (n : Int) := by omega
  have q2 : (2 : Int) < (n : Int) := by omega
  have q3 : (3 : Int) < (n : Int) := by omega
  have q4 : (4 : Int) < (n : Int) := by omega
  have q5 : (5 : Int) < (n : Int) := by omega
  have q6 : (6 : Int) < (n : Int) := by omega
  have q7 : (7 : Int) < (n : Int) := by omega
  have hv : leN [b0, b1, b2, b3, b4, b5, b6, b7] = b0 + b1 * 256 + b2 * 65536 + b3 * 16777216 + b4 * 4294967296 + b5 * 1099511627776 + b6 * 281474976710656 + b7 * 72057594037927936 := by simp only [leN]; omega
  have HV := Hd.mk hv
  clear hv
  go_enter Try.func121, Try.ntmps121
  go_wp2
  go_quiet (fail)
  go_wp2
  go_ret
  refine ⟨?_, ((Below.refl _ w).alloc (Nat.le_refl _) _).trans ⟨rfl, rfl, rfl, Nat.le_refl _, fun _ _ => rfl⟩⟩
  simp (disch := omega) only [u64_wrap_id, u64_or8, u64_or16, u64_or24, u64_or32, u64_or40, u64_or48, u64_or56]
  rw [HV.out]
  rfl
theorem set2 (L : List Value) (v0 v1 : Value) (h : 2 ≤ L.length) : ((L).set 0 v0).set 1 v1 = splice L 0 [v0, v1] := by
  match L, h with
  | x0 :: x1 :: r, _ => simp [splice]
theorem set4 (L : List Value) (v0 v1 v2 v3 : Value) (h : 4 ≤ L.length) : ((((L).set 0 v0).set 1 v1).set 2 v2).set 3 v3 = splice L 0 [v0, v1, v2, v3] := by
  match L, h with
  | x0 :: x1 :: x2 :: x3 :: r, _ => simp [splice]
theorem set8 (L : List Value) (v0 v1 v2 v3 v4 v5 v6 v7 : Value) (h : 8 ≤ L.length) : ((((((((L).set 0 v0).set 1 v1).set 2 v2).set 3 v3).set 4 v4).set 5 v5).set 6 v6).set 7 v7 = splice L 0 [v0, v1, v2, v3, v4, v5, v6, v7] := by
  match L, h with
  | x0 :: x1 :: x2 :: x3 :: x4 :: x5 :: x6 :: x7 :: r, _ => simp [splice]
set_option maxRecDepth 100000 in
theorem put16 (g n c : Nat) (v : Int) (cs : Array Value) (t : TypeId) (w : World) (hn : 2 ≤ n) (hs : 2 ≤ cs.size) (h0 : 0 ≤ v) (h1 : v < 65536) (hg : Blk w g cs t) :
    Calls Try.prog 125 #[.agg #[], .slice (some ⟨g, 0, none⟩) n c, .int .u16 v] w fun e w' => e = .returned (.tuple #[]) ∧ Blk w' g (splice cs.toList 0 (bc (leB 2 v))).toArray t ∧ Bel w.heap.size [g] w w' := by
  have d0 := cell?_alloc_old (.cells #[] 215) (hg.cell 0 (Array.getElem?_eq_getElem (show 0 < cs.size by omega)))
  have d1 := cell?_alloc_old (.cells #[] 215) (hg.cell 1 (Array.getElem?_eq_getElem (show 1 < cs.size by omega)))
  have f0 := (hg.alloc (.cells #[] 215)).free 0
  have f1 := (hg.alloc (.cells #[] 215)).free 1
  generalize cs[0]'(by omega) = x0 at d0
  generalize cs[1]'(by omega) = x1 at d1
  have q0 : 0 < n := by omega
  have q1 : (1 : Int) < (n : Int) := by omega
  have HG := Hd.mk hg
  clear hg
  go_enter Try.func125, Try.ntmps125
  go_wp2
  go_end0
  refine ⟨rfl, (((HG.out.alloc _).set 0 (.int .u8 (v % 256))).set 1 (.int .u8 (v / 256))).cast ?_, (((Bel.refl _ _ _).alloc (Nat.le_refl _) _).set (.inr (by simp)) _).set (.inr (by simp)) _⟩
  apply Array.ext'
  simp only [Array.toList_setIfInBounds]
  rw [set2 _ _ _ (by simpa using hs)]
  simp only [bc, leB, List.map_cons, List.map_nil]
  congr 1
  simp only [List.cons.injEq, Value.int.injEq, true_and, and_true]
  omega
set_option maxRecDepth 100000 in
theorem put32 (g n c : Nat) (v : Int) (cs : Array Value) (t : TypeId) (w : World) (hn : 4 ≤ n) (hs : 4 ≤ cs.size) (h0 : 0 ≤ v) (h1 : v < 4294967296) (hg : Blk w g cs t) :
    Calls Try.prog 127 #[.agg #[], .slice (some ⟨g, 0, none⟩) n c, .int .u32 v] w fun e w' => e = .returned (.tuple #[]) ∧ Blk w' g (splice cs.toList 0 (bc (leB 4 v))).toArray t ∧ Bel w.heap.size [g] w w' := by
  have d0 := cell?_alloc_old (.cells #[] 215) (hg.cell 0 (Array.getElem?_eq_getElem (show 0 < cs.size by omega)))
  have d1 := cell?_alloc_old (.cells #[] 215) (hg.cell 1 (Array.getElem?_eq_getElem (show 1 < cs.size by omega)))
  have d2 := cell?_alloc_old (.cells #[] 215) (hg.cell 2 (Array.getElem?_eq_getElem (show 2 < cs.size by omega)))
  have d3 := cell?_alloc_old (.cells #[] 215) (hg.cell 3 (Array.getElem?_eq_getElem (show 3 < cs.size by omega)))
  have f0 := (hg.alloc (.cells #[] 215)).free 0
  have f1 := (hg.alloc (.cells #[] 215)).free 1
  have f2 := (hg.alloc (.cells #[] 215)).free 2
  have f3 := (hg.alloc (.cells #[] 215)).free 3
  generalize cs[0]'(by omega) = x0 at d0
  generalize cs[1]'(by omega) = x1 at d1
  generalize cs[2]'(by omega) = x2 at d2
  generalize cs[3]'(by omega) = x3 at d3
  have q0 : 0 < n := by omega
  have q1 : (1 : Int) < (n : Int) := by omega
  have q2 : (2 : Int) < (n : Int) := by omega
  have q3 : (3 : Int) < (n : Int) := by omega
  have HG := Hd.mk hg
  clear hg
  go_enter Try.func127, Try.ntmps127
  go_wp2
  go_end0
  refine ⟨rfl, (((((HG.out.alloc _).set 0 (.int .u8 (v % 256))).set 1 (.int .u8 (v / 256 % 256))).set 2 (.int .u8 (v / 65536 % 256))).set 3 (.int .u8 (v / 16777216))).cast ?_, (((((Bel.refl _ _ _).alloc (Nat.le_refl _) _).set (.inr (by simp)) _).set (.inr (by simp)) _).set (.inr (by simp)) _).set (.inr (by simp)) _⟩
  apply Array.ext'
  simp only [Array.toList_setIfInBounds]
  rw [set4 _ _ _ _ _ (by simpa using hs)]
  simp only [bc, leB, List.map_cons, List.map_nil]
  congr 1
  simp only [List.cons.injEq, Value.int.injEq, true_and, and_true]
  omega
set_option maxRecDepth 100000 in
theorem put64 (g n c : Nat) (v : Int) (cs : Array Value) (t : TypeId) (w : World) (hn : 8 ≤ n) (hs : 8 ≤ cs.size) (h0 : 0 ≤ v) (h1 : v < 18446744073709551616) (hg : Blk w g cs t) :
    Calls Try.prog 130 #[.agg #[], .slice (some ⟨g, 0, none⟩) n c, .int .u64 v] w fun e w' => e = .returned (.tuple #[]) ∧ Blk w' g (splice cs.toList 0 (bc (leB 8 v))).toArray t ∧ Bel w.heap.size [g] w w' := by
  have d0 := cell?_alloc_old (.cells #[] 215) (hg.cell 0 (Array.getElem?_eq_getElem (show 0 < cs.size by omega)))
  have d1 := cell?_alloc_old (.cells #[] 215) (hg.cell 1 (Array.getElem?_eq_getElem (show 1 < cs.size by omega)))
  have d2 := cell?_alloc_old (.cells #[] 215) (hg.cell 2 (Array.getElem?_eq_getElem (show 2 < cs.size by omega)))
  have d3 := cell?_alloc_old (.cells #[] 215) (hg.cell 3 (Array.getElem?_eq_getElem (show 3 < cs.size by omega)))
  have d4 := cell?_alloc_old (.cells #[] 215) (hg.cell 4 (Array.getElem?_eq_getElem (show 4 < cs.size by omega)))
  have d5 := cell?_alloc_old (.cells #[] 215) (hg.cell 5 (Array.getElem?_eq_getElem (show 5 < cs.size by omega)))
  have d6 := cell?_alloc_old (.cells #[] 215) (hg.cell 6 (Array.getElem?_eq_getElem (show 6 < cs.size by omega)))
  have d7 := cell?_alloc_old (.cells #[] 215) (hg.cell 7 (Array.getElem?_eq_getElem (show 7 < cs.size by omega)))
  have f0 := (hg.alloc (.cells #[] 215)).free 0
  have f1 := (hg.alloc (.cells #[] 215)).free 1
  have f2 := (hg.alloc (.cells #[] 215)).free 2
  have f3 := (hg.alloc (.cells #[] 215)).free 3
  have f4 := (hg.alloc (.cells #[] 215)).free 4
  have f5 := (hg.alloc (.cells #[] 215)).free 5
  have f6 := (hg.alloc (.cells #[] 215)).free 6
  have f7 := (hg.alloc (.cells #[] 215)).free 7
  generalize cs[0]'(by omega) = x0 at d0
  generalize cs[1]'(by omega) = x1 at d1
  generalize cs[2]'(by omega) = x2 at d2
  generalize cs[3]'(by omega) = x3 at d3
  generalize cs[4]'(by omega) = x4 at d4
  generalize cs[5]'(by omega) = x5 at d5
  generalize cs[6]'(by omega) = x6 at d6
  generalize cs[7]'(by omega) = x7 at d7
  have q0 : 0 < n := by omega
  have q1 : (1 : Int) < (n : Int) := by omega
  have q2 : (2 : Int) < (n : Int) := by omega
  have q3 : (3 : Int) < (n : Int) := by omega
  have q4 : (4 : Int) < (n : Int) := by omega
  have q5 : (5 : Int) < (n : Int) := by omega
  have q6 : (6 : Int) < (n : Int) := by omega
  have q7 : (7 : Int) < (n : Int) := by omega
  have HG := Hd.mk hg
  clear hg
  go_enter Try.func130, Try.ntmps130
  go_wp2
  go_end0
  refine ⟨rfl, (((((((((HG.out.alloc _).set 0 (.int .u8 (v % 256))).set 1 (.int .u8 (v / 256 % 256))).set 2 (.int .u8 (v / 65536 % 256))).set 3 (.int .u8 (v / 16777216 % 256))).set 4 (.int .u8 (v / 4294967296 % 256))).set 5 (.int .u8 (v / 1099511627776 % 256))).set 6 (.int .u8 (v / 281474976710656 % 256))).set 7 (.int .u8 (v / 72057594037927936))).cast ?_, (((((((((Bel.refl _ _ _).alloc (Nat.le_refl _) _).set (.inr (by simp)) _).set (.inr (by simp)) _).set (.inr (by simp)) _).set (.inr (by simp)) _).set (.inr (by simp)) _).set (.inr (by simp)) _).set (.inr (by simp)) _).set (.inr (by simp)) _⟩
  apply Array.ext'
  simp only [Array.toList_setIfInBounds]
  rw [set8 _ _ _ _ _ _ _ _ _ (by simpa using hs)]
  simp only [bc, leB, List.map_cons, List.map_nil]
  congr 1
  simp only [List.cons.injEq, Value.int.injEq, true_and, and_true]
  omega
end Go.Proofs.Ytbohjafchfeheaa.Kb
