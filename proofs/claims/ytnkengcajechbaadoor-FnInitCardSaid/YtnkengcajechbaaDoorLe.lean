/- Numbers as bytes, the lowest one first: plain laws, and the walks of encoding/binary's functions. -/
import Derived.Test.YtnkengcajechbaaDoorKb
import Derived.Lib.EndianBits
namespace Go.Proofs.YtnkengcajechbaaDoor.Kb
open Go Go.RowKit
set_option linter.unusedVariables false
set_option linter.unusedSimpArgs false
set_option maxHeartbeats 1000000
/-- The number of bytes. -/
def leN : List Int → Int
  | [] => 0
  | b :: bs => b + 256 * leN bs
/-- A number as n bytes. -/
def leB : Nat → Int → List Int
  | 0, _ => []
  | n + 1, x => x % 256 :: leB n (x / 256)
theorem leB_len (n : Nat) : ∀ x, (leB n x).length = n := by
  induction n with
  | zero => intro x; rfl
  | succ n ih => intro x; simp [leB, ih]
theorem leB_byte (n : Nat) : ∀ x, ∀ b ∈ leB n x, 0 ≤ b ∧ b < 256 := by
  induction n with
  | zero => intro x b h; cases h
  | succ n ih =>
    intro x b h
    simp only [leB, List.mem_cons] at h
    rcases h with rfl | h
    · omega
    · exact ih _ b h
theorem emod_256 (x m : Int) (hm : 0 < m) : x % (256 * m) = x % 256 + 256 * (x / 256 % m) := by
  have h1 : x / (256 * m) = x / 256 / m := by rw [Int.ediv_ediv_of_nonneg (by omega)]
  rw [Int.emod_def x (256 * m), h1, Int.emod_def (x / 256) m, Int.mul_assoc]
  generalize m * (x / 256 / m) = t
  omega
theorem pow_256 (n : Nat) : ((256 ^ (n + 1) : Nat) : Int) = 256 * ((256 ^ n : Nat) : Int) := by rw [Nat.pow_succ, Nat.mul_comm]; rfl
theorem pow_pos256 (n : Nat) : (0 : Int) < ((256 ^ n : Nat) : Int) := by
  have : 0 < 256 ^ n := Nat.pow_pos (by omega)
  omega
theorem leN_leB (n : Nat) : ∀ x : Int, leN (leB n x) = x % (256 ^ n : Nat) := by
  induction n with
  | zero => intro x; simp [leB, leN]
  | succ n ih =>
    intro x
    simp only [leB, leN, ih]
    rw [pow_256, emod_256 _ _ (pow_pos256 n)]
theorem leN_2 (x : Int) : leN (leB 2 x) = x % 65536 := leN_leB 2 x
theorem leN_4 (x : Int) : leN (leB 4 x) = x % 4294967296 := leN_leB 4 x
theorem leN_8 (x : Int) : leN (leB 8 x) = x % 18446744073709551616 := leN_leB 8 x
theorem leN_1 (x : Int) : leN (leB 1 x) = x % 256 := leN_leB 1 x
theorem leB_mod (n : Nat) : ∀ (x : Int) (m : Nat), n ≤ m → leB n (x % (256 ^ m : Nat)) = leB n x := by
  induction n with
  | zero => intro x m h; rfl
  | succ n ih =>
    intro x m h
    obtain ⟨m, rfl⟩ : ∃ k, m = k + 1 := ⟨m - 1, by omega⟩
    simp only [leB]
    rw [pow_256, emod_256 _ _ (pow_pos256 m), ← ih (x / 256) m (by omega)]
    have e1 : (x % 256 + 256 * (x / 256 % ((256 ^ m : Nat) : Int))) % 256 = x % 256 := by omega
    have e2 : (x % 256 + 256 * (x / 256 % ((256 ^ m : Nat) : Int))) / 256 = x / 256 % ((256 ^ m : Nat) : Int) := by omega
    rw [e1, e2]
set_option maxRecDepth 100000 in
theorem get16 (g n c : Nat) (b0 b1 : Int) (w : World) (hn : 2 ≤ n) (h0 : 0 ≤ b0 ∧ b0 < 256) (h1 : 0 ≤ b1 ∧ b1 < 256)
    (c0 : w.cell? ⟨g, 0, none⟩ = some (.int .u8 b0)) (c1 : w.cell? ⟨g, 1, none⟩ = some (.int .u8 b1)) :
    Calls Tryd.prog 40 #[.agg #[], .slice (some ⟨g, 0, none⟩) n c] w fun e w' => e = .returned (.int .u16 (leN [b0, b1])) ∧ Below w.heap.size w w' := by
  obtain ⟨h0, k0⟩ := h0
  obtain ⟨h1, k1⟩ := h1
  have d0 := cell?_alloc_old (.cells #[] 80) c0
  have d1 := cell?_alloc_old (.cells #[] 80) c1
  clear c0 c1
  have q0 : 0 < n := by omega
  have q1 : (1 : Int) < (n : Int) := by omega
  have hv : leN [b0, b1] = b0 + b1 * 256 := by simp only [leN]; omega
  have HV := Hd.mk hv
  clear hv
  go_enter Tryd.func40, Tryd.ntmps40
  go_wp2
  go_quiet (fail)
  go_wp2
  go_ret
  refine ⟨?_, ((Below.refl _ w).alloc (Nat.le_refl _) _).trans ⟨rfl, rfl, rfl, Nat.le_refl _, fun _ _ => rfl⟩⟩
  simp (disch := omega) only [u16_wrap_id, u16_or8]
  rw [HV.out]
  rfl
theorem set2 (L : List Value) (v0 v1 : Value) (h : 2 ≤ L.length) : ((L).set 0 v0).set 1 v1 = splice L 0 [v0, v1] := by
  match L, h with
  | x0 :: x1 :: r, _ => simp [splice]
theorem set4 (L : List Value) (v0 v1 v2 v3 : Value) (h : 4 ≤ L.length) : ((((L).set 0 v0).set 1 v1).set 2 v2).set 3 v3 = splice L 0 [v0, v1, v2, v3] := by
  match L, h with
  | x0 :: x1 :: x2 :: x3 :: r, _ => simp [splice]
theorem set8 (L : List Value) (v0 v1 v2 v3 v4 v5 v6 v7 : Value) (h : 8 ≤ L.length) : ((((((((L).set 0 v0).set 1 v1).set 2 v2).set 3 v3).set 4 v4).set 5 v5).set 6 v6).set 7 v7 = splice L 0 [v0, v1, v2, v3, v4, v5, v6, v7] := by
  match L, h with
  | x0 :: x1 :: x2 :: x3 :: x4 :: x5 :: x6 :: x7 :: r, _ => simp [splice]
set_option maxRecDepth 100000 in
theorem put16 (g n c : Nat) (v : Int) (cs : Array Value) (t : TypeId) (w : World) (hn : 2 ≤ n) (hs : 2 ≤ cs.size) (h0 : 0 ≤ v) (h1 : v < 65536) (hg : Blk w g cs t) :
    Calls Tryd.prog 35 #[.agg #[], .slice (some ⟨g, 0, none⟩) n c, .int .u16 v] w fun e w' => e = .returned (.tuple #[]) ∧ Blk w' g (splice cs.toList 0 (bc (leB 2 v))).toArray t ∧ Bel w.heap.size [g] w w' := by
  have d0 := cell?_alloc_old (.cells #[] 80) (hg.cell 0 (Array.getElem?_eq_getElem (show 0 < cs.size by omega)))
  have d1 := cell?_alloc_old (.cells #[] 80) (hg.cell 1 (Array.getElem?_eq_getElem (show 1 < cs.size by omega)))
  have f0 := (hg.alloc (.cells #[] 80)).free 0
  have f1 := (hg.alloc (.cells #[] 80)).free 1
  generalize cs[0]'(by omega) = x0 at d0
  generalize cs[1]'(by omega) = x1 at d1
  have q0 : 0 < n := by omega
  have q1 : (1 : Int) < (n : Int) := by omega
  have HG := Hd.mk hg
  clear hg
  go_enter Tryd.func35, Tryd.ntmps35
  go_wp2
  go_end0
  refine ⟨rfl, (((HG.out.alloc _).set 0 (.int .u8 (v % 256))).set 1 (.int .u8 (v / 256))).cast ?_, (((Bel.refl _ _ _).alloc (Nat.le_refl _) _).set (.inr (by simp)) _).set (.inr (by simp)) _⟩
  apply Array.ext'
  simp only [Array.toList_setIfInBounds]
  rw [set2 _ _ _ (by simpa using hs)]
  simp only [bc, leB, List.map_cons, List.map_nil]
  congr 1
  simp only [List.cons.injEq, Value.int.injEq, true_and, and_true]
  omega
set_option maxRecDepth 100000 in
theorem put32 (g n c : Nat) (v : Int) (cs : Array Value) (t : TypeId) (w : World) (hn : 4 ≤ n) (hs : 4 ≤ cs.size) (h0 : 0 ≤ v) (h1 : v < 4294967296) (hg : Blk w g cs t) :
    Calls Tryd.prog 32 #[.agg #[], .slice (some ⟨g, 0, none⟩) n c, .int .u32 v] w fun e w' => e = .returned (.tuple #[]) ∧ Blk w' g (splice cs.toList 0 (bc (leB 4 v))).toArray t ∧ Bel w.heap.size [g] w w' := by
  have d0 := cell?_alloc_old (.cells #[] 80) (hg.cell 0 (Array.getElem?_eq_getElem (show 0 < cs.size by omega)))
  have d1 := cell?_alloc_old (.cells #[] 80) (hg.cell 1 (Array.getElem?_eq_getElem (show 1 < cs.size by omega)))
  have d2 := cell?_alloc_old (.cells #[] 80) (hg.cell 2 (Array.getElem?_eq_getElem (show 2 < cs.size by omega)))
  have d3 := cell?_alloc_old (.cells #[] 80) (hg.cell 3 (Array.getElem?_eq_getElem (show 3 < cs.size by omega)))
  have f0 := (hg.alloc (.cells #[] 80)).free 0
  have f1 := (hg.alloc (.cells #[] 80)).free 1
  have f2 := (hg.alloc (.cells #[] 80)).free 2
  have f3 := (hg.alloc (.cells #[] 80)).free 3
  generalize cs[0]'(by omega) = x0 at d0
  generalize cs[1]'(by omega) = x1 at d1
  generalize cs[2]'(by omega) = x2 at d2
  generalize cs[3]'(by omega) = x3 at d3
  have q0 : 0 < n := by omega
  have q1 : (1 : Int) < (n : Int) := by omega
  have q2 : (2 : Int) < (n : Int) := by omega
  have q3 : (3 : Int) < (n : Int) := by omega
  have HG := Hd.mk hg
  clear hg
  go_enter Tryd.func32, Tryd.ntmps32
  go_wp2
  go_end0
  refine ⟨rfl, (((((HG.out.alloc _).set 0 (.int .u8 (v % 256))).set 1 (.int .u8 (v / 256 % 256))).set 2 (.int .u8 (v / 65536 % 256))).set 3 (.int .u8 (v / 16777216))).cast ?_, (((((Bel.refl _ _ _).alloc (Nat.le_refl _) _).set (.inr (by simp)) _).set (.inr (by simp)) _).set (.inr (by simp)) _).set (.inr (by simp)) _⟩
  apply Array.ext'
  simp only [Array.toList_setIfInBounds]
  rw [set4 _ _ _ _ _ (by simpa using hs)]
  simp only [bc, leB, List.map_cons, List.map_nil]
  congr 1
  simp only [List.cons.injEq, Value.int.injEq, true_and, and_true]
  omega
end Go.Proofs.YtnkengcajechbaaDoor.Kb
