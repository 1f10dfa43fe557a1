/- The reference's signed whole numbers. -/
import Derived.Test.YtjikodjljocpmaaBigU
namespace Go.Proofs.Ytjikodjljocpmaa.Kb
open Go Go.RowKit
set_option linter.unusedVariables false
set_option linter.unusedSimpArgs false
set_option maxHeartbeats 1000000
set_option maxRecDepth 100000 in
theorem wholeOfT (A : Option Addr) (l c : Nat) (w : World) :
    Calls Try.prog 38 #[.bool true, .slice A l c] w fun e w' => e = .returned (.agg #[.bool (decide (0 < l)), .slice A l c]) ∧ Below w.heap.size w w' := by
  by_cases h0 : 0 < l
  · have i1 : (0 : Int) < l := by omega
    have K := Blk.new w #[.bool true, .slice A l c] 29
    have e0 := K.cell 0 rfl; have e1 := K.cell 1 rfl
    go_enter Try.func38, Try.ntmps38
    go_wp2
    refine bodyPost_ret (v := .agg #[.bool true, .slice A l c]) (by simp [results, Try.results38, go_sem, e0, e1]) rfl ⟨?_, (Below.refl _ _).alloc (Nat.le_refl _) _⟩
    simp [h0]
  · obtain rfl : l = 0 := by omega
    have K := Blk.new w #[.bool false, .slice A 0 c] 29
    have e0 := K.cell 0 rfl; have e1 := K.cell 1 rfl
    go_enter Try.func38, Try.ntmps38
    go_wp2
    refine bodyPost_ret (v := .agg #[.bool false, .slice A 0 c]) (by simp [results, Try.results38, go_sem, e0, e1]) rfl ⟨?_, (Below.refl _ _).alloc (Nat.le_refl _) _⟩
    rfl
end Go.Proofs.Ytjikodjljocpmaa.Kb
