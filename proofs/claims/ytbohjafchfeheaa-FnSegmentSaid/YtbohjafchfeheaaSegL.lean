/- The walk of FnSegment: the law. -/
import Derived.Test.YtbohjafchfeheaaSegB
import Derived.Test.YtbohjafchfeheaaSegO
namespace Go.Proofs.Ytbohjafchfeheaa.Kb
open Go Go.RowKit
set_option linter.unusedVariables false
set_option linter.unusedSimpArgs false
set_option maxHeartbeats 1000000

theorem segDec1 (x0 x1 x2 x3 x5 x7 x8 : Int) (y : Bool) (y6 : Int) (hy : y6 = if y = true then 1 else 0) (b0 : -2147483648 ≤ x0 ∧ x0 ≤ 2147483647) (b1 : -2147483648 ≤ x1 ∧ x1 ≤ 2147483647) (b2 : -32768 ≤ x2 ∧ x2 ≤ 32767) (b3 : -32768 ≤ x3 ∧ x3 ≤ 32767) (b5 : -128 ≤ x5 ∧ x5 ≤ 127) (b7 : -128 ≤ x7 ∧ x7 ≤ 127) (b8 : -32768 ≤ x8 ∧ x8 ≤ 32767) (xs : List Int) (hxs : xs = leB 4 x0 ++ (leB 4 x1 ++ (leB 2 x2 ++ (leB 2 x3 ++ (leB 1 1 ++ (leB 1 x5 ++ ([y6] ++ (leB 1 x7 ++ (List.replicate 8 0))))))))) (K : DK) (hK : K.xs = xs) (W : World) (g : Nat) (h : DecG K W 0 g #[.int .i32 0, .int .i32 0, .int .i16 0, .int .i16 0, .int .i8 0, .int .i8 0, .bool false, .int .i8 0, .int .i16 0] 178) :
    Calls Try.prog 87 #[.pointer (some ⟨g, 0, none⟩), .pointer (some ⟨K.d, 0, none⟩)] W fun e w' => SegDec K W g #[.int .i32 x0, .int .i32 x1, .int .i16 x2, .int .i16 x3, .int .i8 1, .int .i8 x5, .bool y, .int .i8 x7, .int .i16 0] e w' := by
  have hlen : K.xs.length = 24 := by rw [hK, hxs]; simp [leB_len]
  have e0 : wrap32 (K.num 0 4) = x0 := by show wrap32 (numL K.xs 0 4) = x0; rw [hK, hxs, num_here]; unfold wrap32; omega
  have e1 : wrap32 (K.num (0 + 4) 4) = x1 := by show wrap32 (numL K.xs 4 4) = x1; rw [hK, hxs, num_next 4 4 0, num_here]; unfold wrap32; omega
  have e2 : IntKind.i16.wrap (K.num (0 + 8) 2) = x2 := by show IntKind.i16.wrap (numL K.xs 8 2) = x2; rw [hK, hxs, num_next 4 2 4, num_next 4 2 0, num_here]; simp [IntKind.wrap, IntKind.bits, IntKind.signed]; omega
  have e3 : IntKind.i16.wrap (K.num (0 + 10) 2) = x3 := by show IntKind.i16.wrap (numL K.xs 10 2) = x3; rw [hK, hxs, num_next 4 2 6, num_next 4 2 2, num_next 2 2 0, num_here]; simp [IntKind.wrap, IntKind.bits, IntKind.signed]; omega
  have e4 : IntKind.i8.wrap (K.num (0 + 12) 1) = 1 := by show IntKind.i8.wrap (numL K.xs 12 1) = 1; rw [hK, hxs, num_next 4 1 8, num_next 4 1 4, num_next 2 1 2, num_next 2 1 0, num_here]; decide
  have e5 : IntKind.i8.wrap (K.num (0 + 13) 1) = x5 := by show IntKind.i8.wrap (numL K.xs 13 1) = x5; rw [hK, hxs, num_next 4 1 9, num_next 4 1 5, num_next 2 1 3, num_next 2 1 1, num_next 1 1 0, num_here]; simp [IntKind.wrap, IntKind.bits, IntKind.signed]; omega
  have e6 : (K.num (0 + 14) 1 != 0) = y := by
    have hl6 : [y6] = leB 1 y6 := by cases y <;> simp at hy <;> subst hy <;> decide
    show (numL K.xs 14 1 != 0) = y; rw [hK, hxs, hl6, num_next 4 1 10, num_next 4 1 6, num_next 2 1 4, num_next 2 1 2, num_next 1 1 1, num_next 1 1 0, num_here]; cases y <;> simp at hy <;> subst hy <;> decide
  have e7 : IntKind.i8.wrap (K.num (0 + 15) 1) = x7 := by
    have hl6 : [y6] = leB 1 y6 := by cases y <;> simp at hy <;> subst hy <;> decide
    show IntKind.i8.wrap (numL K.xs 15 1) = x7; rw [hK, hxs, hl6, num_next 4 1 11, num_next 4 1 7, num_next 2 1 5, num_next 2 1 3, num_next 1 1 2, num_next 1 1 1, num_next 1 1 0, num_here]; simp [IntKind.wrap, IntKind.bits, IntKind.signed]; omega
  have C := dec_segment1 K 0 g W h (by omega) e4 y e6
  rw [e0, e1, e2, e3, e5, e7] at C
  exact C
theorem segDec2 (x0 x1 x2 x3 x5 x7 x8 : Int) (y : Bool) (y6 : Int) (hy : y6 = if y = true then 1 else 0) (b0 : -2147483648 ≤ x0 ∧ x0 ≤ 2147483647) (b1 : -2147483648 ≤ x1 ∧ x1 ≤ 2147483647) (b2 : -32768 ≤ x2 ∧ x2 ≤ 32767) (b3 : -32768 ≤ x3 ∧ x3 ≤ 32767) (b5 : -128 ≤ x5 ∧ x5 ≤ 127) (b7 : -128 ≤ x7 ∧ x7 ≤ 127) (b8 : -32768 ≤ x8 ∧ x8 ≤ 32767) (xs : List Int) (hxs : xs = leB 4 x0 ++ (leB 4 x1 ++ (leB 2 x2 ++ (leB 2 x3 ++ (leB 1 2 ++ (List.replicate 1 0 ++ (leB 2 x8 ++ (List.replicate 8 0)))))))) (K : DK) (hK : K.xs = xs) (W : World) (g : Nat) (h : DecG K W 0 g #[.int .i32 0, .int .i32 0, .int .i16 0, .int .i16 0, .int .i8 0, .int .i8 0, .bool false, .int .i8 0, .int .i16 0] 178) :
    Calls Try.prog 87 #[.pointer (some ⟨g, 0, none⟩), .pointer (some ⟨K.d, 0, none⟩)] W fun e w' => SegDec K W g #[.int .i32 x0, .int .i32 x1, .int .i16 x2, .int .i16 x3, .int .i8 2, .int .i8 0, .bool false, .int .i8 0, .int .i16 x8] e w' := by
  have hlen : K.xs.length = 24 := by rw [hK, hxs]; simp [leB_len]
  have e0 : wrap32 (K.num 0 4) = x0 := by show wrap32 (numL K.xs 0 4) = x0; rw [hK, hxs, num_here]; unfold wrap32; omega
  have e1 : wrap32 (K.num (0 + 4) 4) = x1 := by show wrap32 (numL K.xs 4 4) = x1; rw [hK, hxs, num_next 4 4 0, num_here]; unfold wrap32; omega
  have e2 : IntKind.i16.wrap (K.num (0 + 8) 2) = x2 := by show IntKind.i16.wrap (numL K.xs 8 2) = x2; rw [hK, hxs, num_next 4 2 4, num_next 4 2 0, num_here]; simp [IntKind.wrap, IntKind.bits, IntKind.signed]; omega
  have e3 : IntKind.i16.wrap (K.num (0 + 10) 2) = x3 := by show IntKind.i16.wrap (numL K.xs 10 2) = x3; rw [hK, hxs, num_next 4 2 6, num_next 4 2 2, num_next 2 2 0, num_here]; simp [IntKind.wrap, IntKind.bits, IntKind.signed]; omega
  have e4 : IntKind.i8.wrap (K.num (0 + 12) 1) = 2 := by show IntKind.i8.wrap (numL K.xs 12 1) = 2; rw [hK, hxs, num_next 4 1 8, num_next 4 1 4, num_next 2 1 2, num_next 2 1 0, num_here]; decide
  have hl5 : List.replicate 1 (0 : Int) = leB 1 0 := by decide
  have e8 : IntKind.i16.wrap (K.num (0 + 14) 2) = x8 := by show IntKind.i16.wrap (numL K.xs 14 2) = x8; rw [hK, hxs, hl5, num_next 4 2 10, num_next 4 2 6, num_next 2 2 4, num_next 2 2 2, num_next 1 2 1, num_next 1 2 0, num_here]; simp [IntKind.wrap, IntKind.bits, IntKind.signed]; omega
  have C := dec_segment2 K 0 g W h (by omega) e4
  rw [e0, e1, e2, e3, e8] at C
  exact C
theorem segDec5 (x0 x1 x2 x3 x5 x7 x8 : Int) (y : Bool) (y6 : Int) (hy : y6 = if y = true then 1 else 0) (b0 : -2147483648 ≤ x0 ∧ x0 ≤ 2147483647) (b1 : -2147483648 ≤ x1 ∧ x1 ≤ 2147483647) (b2 : -32768 ≤ x2 ∧ x2 ≤ 32767) (b3 : -32768 ≤ x3 ∧ x3 ≤ 32767) (b5 : -128 ≤ x5 ∧ x5 ≤ 127) (b7 : -128 ≤ x7 ∧ x7 ≤ 127) (b8 : -32768 ≤ x8 ∧ x8 ≤ 32767) (xs : List Int) (hxs : xs = leB 4 x0 ++ (leB 4 x1 ++ (leB 2 x2 ++ (leB 2 x3 ++ (leB 1 5 ++ (List.replicate 11 0)))))) (K : DK) (hK : K.xs = xs) (W : World) (g : Nat) (h : DecG K W 0 g #[.int .i32 0, .int .i32 0, .int .i16 0, .int .i16 0, .int .i8 0, .int .i8 0, .bool false, .int .i8 0, .int .i16 0] 178) :
    Calls Try.prog 87 #[.pointer (some ⟨g, 0, none⟩), .pointer (some ⟨K.d, 0, none⟩)] W fun e w' => SegDec K W g #[.int .i32 x0, .int .i32 x1, .int .i16 x2, .int .i16 x3, .int .i8 5, .int .i8 0, .bool false, .int .i8 0, .int .i16 0] e w' := by
  have hlen : K.xs.length = 24 := by rw [hK, hxs]; simp [leB_len]
  have e0 : wrap32 (K.num 0 4) = x0 := by show wrap32 (numL K.xs 0 4) = x0; rw [hK, hxs, num_here]; unfold wrap32; omega
  have e1 : wrap32 (K.num (0 + 4) 4) = x1 := by show wrap32 (numL K.xs 4 4) = x1; rw [hK, hxs, num_next 4 4 0, num_here]; unfold wrap32; omega
  have e2 : IntKind.i16.wrap (K.num (0 + 8) 2) = x2 := by show IntKind.i16.wrap (numL K.xs 8 2) = x2; rw [hK, hxs, num_next 4 2 4, num_next 4 2 0, num_here]; simp [IntKind.wrap, IntKind.bits, IntKind.signed]; omega
  have e3 : IntKind.i16.wrap (K.num (0 + 10) 2) = x3 := by show IntKind.i16.wrap (numL K.xs 10 2) = x3; rw [hK, hxs, num_next 4 2 6, num_next 4 2 2, num_next 2 2 0, num_here]; simp [IntKind.wrap, IntKind.bits, IntKind.signed]; omega
  have e4 : IntKind.i8.wrap (K.num (0 + 12) 1) = 5 := by show IntKind.i8.wrap (numL K.xs 12 1) = 5; rw [hK, hxs, num_next 4 1 8, num_next 4 1 4, num_next 2 1 2, num_next 2 1 0, num_here]; decide
  have C := dec_segment5 K 0 g W h (by omega) e4
  rw [e0, e1, e2, e3] at C
  exact C
end Go.Proofs.Ytbohjafchfeheaa.Kb
