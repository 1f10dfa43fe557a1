/- FnVaCodeKinds: the kinds of type codes. -/
import Derived.Test.YtenefomcbjeccaaKb
import Derived.Test.YtenefomcbjeccaaPFnVaCodeKindsx
import Derived.OpenShut
namespace Go.Proofs.Ytenefomcbjeccaa.Kb
open Go Go.RowKit Go.Proofs.YtenefomcbjeccaaW.PrintWords Go.Proofs.Ytenefomcbjeccaa.PFnVaCodeKinds
set_option linter.unusedVariables false
set_option linter.unusedSimpArgs false
set_option maxHeartbeats 8000000
/-- The type codes that have a kind of data. -/
def HasKind (c : Int) : Prop := c = 28 ∨ c = 1 ∨ c = 2 ∨ c = 3 ∨ c = 4 ∨ c = 6 ∨ c = 7 ∨ c = 14 ∨ c = 15 ∨ c = 16 ∨ c = 61 ∨ c = 62 ∨ c = 63 ∨ c = 64 ∨ c = 5 ∨ c = 81 ∨ c = 82 ∨ c = 76 ∨ c = 8 ∨ c = 9 ∨ c = 29 ∨ c = 55 ∨ c = 10 ∨ c = 11 ∨ c = 30 ∨ c = 52 ∨ c = 75 ∨ c = 74 ∨ c = 12 ∨ c = 13 ∨ c = 27 ∨ c = 25 ∨ c = 26 ∨ c = 51 ∨ c = 53 ∨ c = 127
/-- What dataType answers: a kind, or a panic. -/
def KindOf (c : Int) (w : World) (e : Ending) (w' : World) : Prop := w' = w ∧ ((HasKind c ∧ ∃ k, 0 ≤ k ∧ k < 256 ∧ e = .returned (.int .u8 k)) ∨ (¬ HasKind c ∧ ∃ T v, e = .panicked [{ v := .iface T v, recovered := false }]))
set_option maxRecDepth 100000 in
theorem dataType (c : Int) (w : World) : Calls Try.prog 39 #[.int .u8 c] w (KindOf c w) := by
  go_enter Try.func39, Try.ntmps39
  go_wp2
  all_goals
    simp only [beq_iff_eq, beq_eq_false_iff_ne, ne_eq] at *
    first
      | (go_ret; exact ⟨rfl, .inl ⟨by unfold HasKind; omega, _, by decide, by decide, rfl⟩⟩)
      | exact ⟨rfl, rfl, .inr ⟨by unfold HasKind; omega, _, _, rfl⟩⟩
theorem zzData_yes (c : Int) (w : World) (hc : HasKind c) : Calls Try.prog 28 #[.int .u8 c] w fun e w' => w = w' ∧ ∃ k, 0 ≤ k ∧ k < 256 ∧ e = .returned (.int .i64 k) := by
  have C := Hd.mk (dataType c w)
  have HC := Hd.mk hc
  clear hc
  go_enter Try.func28, Try.ntmps28
  go_wp2_with fail
  with_reducible refine C.out.mono ?_
  rintro e w1 ⟨rfl, ⟨_, k, k0, k1, rfl⟩ | ⟨h, _⟩⟩
  · go_wp2
    go_ret
    exact ⟨rfl, k, k0, k1, rfl⟩
  · exact absurd HC.out h
theorem zzData_no (c : Int) (w : World) (hc : ¬ HasKind c) : Calls Try.prog 28 #[.int .u8 c] w fun e w' => w = w' ∧ ∃ T v, e = .panicked [{ v := .iface T v, recovered := false }] := by
  have C := Hd.mk (dataType c w)
  have HC := Hd.mk hc
  clear hc
  go_enter Try.func28, Try.ntmps28
  go_wp2_with fail
  with_reducible refine C.out.mono ?_
  rintro e w1 ⟨rfl, ⟨h, _⟩ | ⟨_, T, v, rfl⟩⟩
  · exact absurd h HC.out
  · go_wp2
    exact ⟨rfl, rfl, T, v, rfl⟩
theorem catch_codeData (a0 a1 : Value) (w : World) :
    CallsD Try.prog 27 #[a0, a1] .returning w fun e u' w' => e = .returned (.tuple #[]) ∧ u' = .returning ∧ w' = w := by
  refine callsD_of_wpS Try.func27 rfl fun c₀ cs hu => ?_
  apply wpS_seq
  apply wpS_region
  simp [wpOpsS, go_sem, recoverD, hu, Try.ntmps27, Exit.thenS]
  refine wpS_cond (t := false) (by simp [Act.eval, Array.replicate]) ?_
  simp only [Bool.false_eq_true, if_false]
  refine wpS_of_wp (wp_skip ?_)
  cases c₀
  simp_all [bodyPostS, results, Try.results27]
theorem caught_codeData (p q : Addr) (x y : Int) (u : TypeId) (pv : Value) (older : List PanicEntry) (w : World) (hp : w.cell? p = some (.int .i64 x)) (zp : w.frozen? p = false) (hq : (w.setCell p (.int .i64 0)).cell? q = some (.int .i64 y)) (zq : (w.setCell p (.int .i64 0)).frozen? q = false) :
    CallsD Try.prog 27 #[.pointer (some p), .pointer (some q)] (.panicking ({ v := .iface u pv, recovered := false } :: older)) w fun e u' w' =>
      e = .returned (.tuple #[]) ∧ u' = .panicking ({ v := .iface u pv, recovered := true } :: older) ∧ w' = (w.setCell p (.int .i64 0)).setCell q (.int .i64 2) := by
  refine callsD_of_wpS Try.func27 rfl fun c₀ cs hu => ?_
  apply wpS_seq
  apply wpS_region
  simp [wpOpsS, go_sem, recoverD, hu, Try.ntmps27, Exit.thenS]
  refine wpS_cond (t := true) (by simp [Act.eval, Array.replicate]) ?_
  simp only [if_true]
  apply wpS_region
  simp [wpOpsS, go_sem, hp, zp, hq, zq, bodyPostS, results, Try.results27]
/-- What CodeData tells. -/
def DataOf (w : World) (f : Int) (e : Ending) (w' : World) : Prop := ∃ k, e = .returned (.tuple #[.int .i64 k, .int .i64 f]) ∧ Below w.heap.size w w'
set_option maxRecDepth 100000 in
theorem codeData_yes (c : Int) (w : World) (hc : HasKind c) : Calls Try.prog 14 #[.int .i64 c] w (DataOf w 0) := by
  have hmf : ∀ (fn : Fn) (first cap : Array Value) (w : World), (Instr.makeFunc fn first cap).run Try.prog w = .ok (.func fn first cap) w := fun _ _ _ _ => rfl
  have hc0 : 0 ≤ c := by unfold HasKind at hc; omega
  have hc1 : c < 256 := by unfold HasKind at hc; omega
  have hw : IntKind.u8.wrap c = c := by simp [IntKind.wrap, IntKind.bits, IntKind.signed]; omega
  have hw2 : c % 256 = c := by omega
  have C := Hd.mk (fun w => zzData_yes c w hc)
  clear hc
  go_enter_defers Try.func14, Try.ntmps14
  go_wp2_with fail
  with_reducible refine (C.out _).mono ?_
  rintro e w1 ⟨rfl, k, k0, k1, rfl⟩
  go_wp2
  refine leaves_cons (f := 27) (args := #[.pointer (some ⟨w.heap.size, 0, none⟩), .pointer (some ⟨w.heap.size + 1, 0, none⟩)]) (by simp) (by simp [go_sem]) ?_
  refine (catch_codeData _ _ _).mono ?_
  rintro e u' w'' ⟨rfl, rfl, rfl⟩
  simp [Leaves, settle, results, Try.results14, go_sem]
  exact ⟨k, rfl, ((Below.refl _ _).alloc (Nat.le_refl _) _).alloc (by simp) _⟩
set_option maxRecDepth 100000 in
theorem codeData_no (c : Int) (w : World) (h0 : 0 ≤ c) (h1 : c < 256) (hc : ¬ HasKind c) : Calls Try.prog 14 #[.int .i64 c] w (DataOf w 2) := by
  have hmf : ∀ (fn : Fn) (first cap : Array Value) (w : World), (Instr.makeFunc fn first cap).run Try.prog w = .ok (.func fn first cap) w := fun _ _ _ _ => rfl
  have hw : IntKind.u8.wrap c = c := by simp [IntKind.wrap, IntKind.bits, IntKind.signed]; omega
  have hw2 : c % 256 = c := by omega
  have C := Hd.mk (fun w => zzData_no c w hc)
  clear hc
  go_enter_defers Try.func14, Try.ntmps14
  go_wp2_with fail
  with_reducible refine (C.out _).mono ?_
  rintro e w1 ⟨rfl, T, v, rfl⟩
  go_wp2
  refine leaves_cons (f := 27) (args := #[.pointer (some ⟨w.heap.size, 0, none⟩), .pointer (some ⟨w.heap.size + 1, 0, none⟩)]) (by simp) (by simp [go_sem]) ?_
  refine (caught_codeData ⟨w.heap.size, 0, none⟩ ⟨w.heap.size + 1, 0, none⟩ 0 0 _ _ [] _ (by simp [go_sem]) (by simp [go_sem]) (by simp [go_sem]) (by simp [go_sem])).mono ?_
  rintro e u' w'' ⟨rfl, rfl, rfl⟩
  simp [Leaves, settle, results, Try.results14, go_sem]
  exact ⟨0, rfl, ((Below.refl _ _).alloc (Nat.le_refl _) _).alloc (by simp) _⟩
set_option maxRecDepth 100000 in
theorem FnVaCodeKinds (c : Int) (w : World) (h0 : (Lit.int .u8 c).wf = true) : Calls Try.prog 6 #[.int .u8 c] w fun e w' => e = .returned (.bool true) ∧ Below w.heap.size w w' := by
  have hb := bounds_u8 h0
  obtain ⟨b0, b1⟩ : 0 ≤ c ∧ c < 256 := by omega
  by_cases hc : HasKind c
  · unfold HasKind at hc
    rcases hc with rfl | rfl | rfl | rfl | rfl | rfl | rfl | rfl | rfl | rfl | rfl | rfl | rfl | rfl | rfl | rfl | rfl | rfl | rfl | rfl | rfl | rfl | rfl | rfl | rfl | rfl | rfl | rfl | rfl | rfl | rfl | rfl | rfl | rfl | rfl | rfl
    · go_enter Try.func6, Try.ntmps6
      go_wp2_with fail
      with_reducible refine (codeData_yes _ w (by unfold HasKind; decide)).mono ?_
      rintro e w1 ⟨k, rfl, hb1⟩
      have HB := Hd.mk hb1
      clear hb1
      go_wp2_with fail
      with_reducible refine (impl_CodeKinds.calls 28 false false false false 156 28 w1 (by kernel_rfl)).mono ?_
      rintro e w2 ⟨rfl, hd⟩
      have HB2 := Hd.mk (HB.out.trans (hd.below.mono HB.out.size))
      clear hd HB
      go_wp2
      go_ret
      exact ⟨by simp, HB2.out⟩
    · go_enter Try.func6, Try.ntmps6
      go_wp2_with fail
      with_reducible refine (codeData_yes _ w (by unfold HasKind; decide)).mono ?_
      rintro e w1 ⟨k, rfl, hb1⟩
      have HB := Hd.mk hb1
      clear hb1
      go_wp2_with fail
      with_reducible refine (impl_CodeKinds.calls 1 false false false true 129 1 w1 (by kernel_rfl)).mono ?_
      rintro e w2 ⟨rfl, hd⟩
      have HB2 := Hd.mk (HB.out.trans (hd.below.mono HB.out.size))
      clear hd HB
      go_wp2
      go_ret
      exact ⟨by simp, HB2.out⟩
    · go_enter Try.func6, Try.ntmps6
      go_wp2_with fail
      with_reducible refine (codeData_yes _ w (by unfold HasKind; decide)).mono ?_
      rintro e w1 ⟨k, rfl, hb1⟩
      have HB := Hd.mk hb1
      clear hb1
      go_wp2_with fail
      with_reducible refine (impl_CodeKinds.calls 2 false false false true 130 2 w1 (by kernel_rfl)).mono ?_
      rintro e w2 ⟨rfl, hd⟩
      have HB2 := Hd.mk (HB.out.trans (hd.below.mono HB.out.size))
      clear hd HB
      go_wp2
      go_ret
      exact ⟨by simp, HB2.out⟩
    · go_enter Try.func6, Try.ntmps6
      go_wp2_with fail
      with_reducible refine (codeData_yes _ w (by unfold HasKind; decide)).mono ?_
      rintro e w1 ⟨k, rfl, hb1⟩
      have HB := Hd.mk hb1
      clear hb1
      go_wp2_with fail
      with_reducible refine (impl_CodeKinds.calls 3 false false false true 131 3 w1 (by kernel_rfl)).mono ?_
      rintro e w2 ⟨rfl, hd⟩
      have HB2 := Hd.mk (HB.out.trans (hd.below.mono HB.out.size))
      clear hd HB
      go_wp2
      go_ret
      exact ⟨by simp, HB2.out⟩
    · go_enter Try.func6, Try.ntmps6
      go_wp2_with fail
      with_reducible refine (codeData_yes _ w (by unfold HasKind; decide)).mono ?_
      rintro e w1 ⟨k, rfl, hb1⟩
      have HB := Hd.mk hb1
      clear hb1
      go_wp2_with fail
      with_reducible refine (impl_CodeKinds.calls 4 false false false true 132 4 w1 (by kernel_rfl)).mono ?_
      rintro e w2 ⟨rfl, hd⟩
      have HB2 := Hd.mk (HB.out.trans (hd.below.mono HB.out.size))
      clear hd HB
      go_wp2
      go_ret
      exact ⟨by simp, HB2.out⟩
    · go_enter Try.func6, Try.ntmps6
      go_wp2_with fail
      with_reducible refine (codeData_yes _ w (by unfold HasKind; decide)).mono ?_
      rintro e w1 ⟨k, rfl, hb1⟩
      have HB := Hd.mk hb1
      clear hb1
      go_wp2_with fail
      with_reducible refine (impl_CodeKinds.calls 6 false false false true 134 6 w1 (by kernel_rfl)).mono ?_
      rintro e w2 ⟨rfl, hd⟩
      have HB2 := Hd.mk (HB.out.trans (hd.below.mono HB.out.size))
      clear hd HB
      go_wp2
      go_ret
      exact ⟨by simp, HB2.out⟩
    · go_enter Try.func6, Try.ntmps6
      go_wp2_with fail
      with_reducible refine (codeData_yes _ w (by unfold HasKind; decide)).mono ?_
      rintro e w1 ⟨k, rfl, hb1⟩
      have HB := Hd.mk hb1
      clear hb1
      go_wp2_with fail
      with_reducible refine (impl_CodeKinds.calls 7 false false false true 135 7 w1 (by kernel_rfl)).mono ?_
      rintro e w2 ⟨rfl, hd⟩
      have HB2 := Hd.mk (HB.out.trans (hd.below.mono HB.out.size))
      clear hd HB
      go_wp2
      go_ret
      exact ⟨by simp, HB2.out⟩
    · go_enter Try.func6, Try.ntmps6
      go_wp2_with fail
      with_reducible refine (codeData_yes _ w (by unfold HasKind; decide)).mono ?_
      rintro e w1 ⟨k, rfl, hb1⟩
      have HB := Hd.mk hb1
      clear hb1
      go_wp2_with fail
      with_reducible refine (impl_CodeKinds.calls 14 false false false true 142 14 w1 (by kernel_rfl)).mono ?_
      rintro e w2 ⟨rfl, hd⟩
      have HB2 := Hd.mk (HB.out.trans (hd.below.mono HB.out.size))
      clear hd HB
      go_wp2
      go_ret
      exact ⟨by simp, HB2.out⟩
    · go_enter Try.func6, Try.ntmps6
      go_wp2_with fail
      with_reducible refine (codeData_yes _ w (by unfold HasKind; decide)).mono ?_
      rintro e w1 ⟨k, rfl, hb1⟩
      have HB := Hd.mk hb1
      clear hb1
      go_wp2_with fail
      with_reducible refine (impl_CodeKinds.calls 15 false false false true 143 15 w1 (by kernel_rfl)).mono ?_
      rintro e w2 ⟨rfl, hd⟩
      have HB2 := Hd.mk (HB.out.trans (hd.below.mono HB.out.size))
      clear hd HB
      go_wp2
      go_ret
      exact ⟨by simp, HB2.out⟩
    · go_enter Try.func6, Try.ntmps6
      go_wp2_with fail
      with_reducible refine (codeData_yes _ w (by unfold HasKind; decide)).mono ?_
      rintro e w1 ⟨k, rfl, hb1⟩
      have HB := Hd.mk hb1
      clear hb1
      go_wp2_with fail
      with_reducible refine (impl_CodeKinds.calls 16 false false false true 144 16 w1 (by kernel_rfl)).mono ?_
      rintro e w2 ⟨rfl, hd⟩
      have HB2 := Hd.mk (HB.out.trans (hd.below.mono HB.out.size))
      clear hd HB
      go_wp2
      go_ret
      exact ⟨by simp, HB2.out⟩
    · go_enter Try.func6, Try.ntmps6
      go_wp2_with fail
      with_reducible refine (codeData_yes _ w (by unfold HasKind; decide)).mono ?_
      rintro e w1 ⟨k, rfl, hb1⟩
      have HB := Hd.mk hb1
      clear hb1
      go_wp2_with fail
      with_reducible refine (impl_CodeKinds.calls 61 false false false true 189 61 w1 (by kernel_rfl)).mono ?_
      rintro e w2 ⟨rfl, hd⟩
      have HB2 := Hd.mk (HB.out.trans (hd.below.mono HB.out.size))
      clear hd HB
      go_wp2
      go_ret
      exact ⟨by simp, HB2.out⟩
    · go_enter Try.func6, Try.ntmps6
      go_wp2_with fail
      with_reducible refine (codeData_yes _ w (by unfold HasKind; decide)).mono ?_
      rintro e w1 ⟨k, rfl, hb1⟩
      have HB := Hd.mk hb1
      clear hb1
      go_wp2_with fail
      with_reducible refine (impl_CodeKinds.calls 62 false false false true 190 62 w1 (by kernel_rfl)).mono ?_
      rintro e w2 ⟨rfl, hd⟩
      have HB2 := Hd.mk (HB.out.trans (hd.below.mono HB.out.size))
      clear hd HB
      go_wp2
      go_ret
      exact ⟨by simp, HB2.out⟩
    · go_enter Try.func6, Try.ntmps6
      go_wp2_with fail
      with_reducible refine (codeData_yes _ w (by unfold HasKind; decide)).mono ?_
      rintro e w1 ⟨k, rfl, hb1⟩
      have HB := Hd.mk hb1
      clear hb1
      go_wp2_with fail
      with_reducible refine (impl_CodeKinds.calls 63 false false false true 191 63 w1 (by kernel_rfl)).mono ?_
      rintro e w2 ⟨rfl, hd⟩
      have HB2 := Hd.mk (HB.out.trans (hd.below.mono HB.out.size))
      clear hd HB
      go_wp2
      go_ret
      exact ⟨by simp, HB2.out⟩
    · go_enter Try.func6, Try.ntmps6
      go_wp2_with fail
      with_reducible refine (codeData_yes _ w (by unfold HasKind; decide)).mono ?_
      rintro e w1 ⟨k, rfl, hb1⟩
      have HB := Hd.mk hb1
      clear hb1
      go_wp2_with fail
      with_reducible refine (impl_CodeKinds.calls 64 false false false true 176 64 w1 (by kernel_rfl)).mono ?_
      rintro e w2 ⟨rfl, hd⟩
      have HB2 := Hd.mk (HB.out.trans (hd.below.mono HB.out.size))
      clear hd HB
      go_wp2
      go_ret
      exact ⟨by simp, HB2.out⟩
    · go_enter Try.func6, Try.ntmps6
      go_wp2_with fail
      with_reducible refine (codeData_yes _ w (by unfold HasKind; decide)).mono ?_
      rintro e w1 ⟨k, rfl, hb1⟩
      have HB := Hd.mk hb1
      clear hb1
      go_wp2_with fail
      with_reducible refine (impl_CodeKinds.calls 5 false false true true 133 5 w1 (by kernel_rfl)).mono ?_
      rintro e w2 ⟨rfl, hd⟩
      have HB2 := Hd.mk (HB.out.trans (hd.below.mono HB.out.size))
      clear hd HB
      go_wp2
      go_ret
      exact ⟨by simp, HB2.out⟩
    · go_enter Try.func6, Try.ntmps6
      go_wp2_with fail
      with_reducible refine (codeData_yes _ w (by unfold HasKind; decide)).mono ?_
      rintro e w1 ⟨k, rfl, hb1⟩
      have HB := Hd.mk hb1
      clear hb1
      go_wp2_with fail
      with_reducible refine (impl_CodeKinds.calls 81 false false true true 209 81 w1 (by kernel_rfl)).mono ?_
      rintro e w2 ⟨rfl, hd⟩
      have HB2 := Hd.mk (HB.out.trans (hd.below.mono HB.out.size))
      clear hd HB
      go_wp2
      go_ret
      exact ⟨by simp, HB2.out⟩
    · go_enter Try.func6, Try.ntmps6
      go_wp2_with fail
      with_reducible refine (codeData_yes _ w (by unfold HasKind; decide)).mono ?_
      rintro e w1 ⟨k, rfl, hb1⟩
      have HB := Hd.mk hb1
      clear hb1
      go_wp2_with fail
      with_reducible refine (impl_CodeKinds.calls 82 false false true true 210 82 w1 (by kernel_rfl)).mono ?_
      rintro e w2 ⟨rfl, hd⟩
      have HB2 := Hd.mk (HB.out.trans (hd.below.mono HB.out.size))
      clear hd HB
      go_wp2
      go_ret
      exact ⟨by simp, HB2.out⟩
    · go_enter Try.func6, Try.ntmps6
      go_wp2_with fail
      with_reducible refine (codeData_yes _ w (by unfold HasKind; decide)).mono ?_
      rintro e w1 ⟨k, rfl, hb1⟩
      have HB := Hd.mk hb1
      clear hb1
      go_wp2_with fail
      with_reducible refine (impl_CodeKinds.calls 76 false false true true 204 76 w1 (by kernel_rfl)).mono ?_
      rintro e w2 ⟨rfl, hd⟩
      have HB2 := Hd.mk (HB.out.trans (hd.below.mono HB.out.size))
      clear hd HB
      go_wp2
      go_ret
      exact ⟨by simp, HB2.out⟩
    · go_enter Try.func6, Try.ntmps6
      go_wp2_with fail
      with_reducible refine (codeData_yes _ w (by unfold HasKind; decide)).mono ?_
      rintro e w1 ⟨k, rfl, hb1⟩
      have HB := Hd.mk hb1
      clear hb1
      go_wp2_with fail
      with_reducible refine (impl_CodeKinds.calls 8 false true false true 136 8 w1 (by kernel_rfl)).mono ?_
      rintro e w2 ⟨rfl, hd⟩
      have HB2 := Hd.mk (HB.out.trans (hd.below.mono HB.out.size))
      clear hd HB
      go_wp2
      go_ret
      exact ⟨by simp, HB2.out⟩
    · go_enter Try.func6, Try.ntmps6
      go_wp2_with fail
      with_reducible refine (codeData_yes _ w (by unfold HasKind; decide)).mono ?_
      rintro e w1 ⟨k, rfl, hb1⟩
      have HB := Hd.mk hb1
      clear hb1
      go_wp2_with fail
      with_reducible refine (impl_CodeKinds.calls 9 false true false true 137 9 w1 (by kernel_rfl)).mono ?_
      rintro e w2 ⟨rfl, hd⟩
      have HB2 := Hd.mk (HB.out.trans (hd.below.mono HB.out.size))
      clear hd HB
      go_wp2
      go_ret
      exact ⟨by simp, HB2.out⟩
    · go_enter Try.func6, Try.ntmps6
      go_wp2_with fail
      with_reducible refine (codeData_yes _ w (by unfold HasKind; decide)).mono ?_
      rintro e w1 ⟨k, rfl, hb1⟩
      have HB := Hd.mk hb1
      clear hb1
      go_wp2_with fail
      with_reducible refine (impl_CodeKinds.calls 29 false false false true 157 29 w1 (by kernel_rfl)).mono ?_
      rintro e w2 ⟨rfl, hd⟩
      have HB2 := Hd.mk (HB.out.trans (hd.below.mono HB.out.size))
      clear hd HB
      go_wp2
      go_ret
      exact ⟨by simp, HB2.out⟩
    · go_enter Try.func6, Try.ntmps6
      go_wp2_with fail
      with_reducible refine (codeData_yes _ w (by unfold HasKind; decide)).mono ?_
      rintro e w1 ⟨k, rfl, hb1⟩
      have HB := Hd.mk hb1
      clear hb1
      go_wp2_with fail
      with_reducible refine (impl_CodeKinds.calls 55 false true false true 183 55 w1 (by kernel_rfl)).mono ?_
      rintro e w2 ⟨rfl, hd⟩
      have HB2 := Hd.mk (HB.out.trans (hd.below.mono HB.out.size))
      clear hd HB
      go_wp2
      go_ret
      exact ⟨by simp, HB2.out⟩
    · go_enter Try.func6, Try.ntmps6
      go_wp2_with fail
      with_reducible refine (codeData_yes _ w (by unfold HasKind; decide)).mono ?_
      rintro e w1 ⟨k, rfl, hb1⟩
      have HB := Hd.mk hb1
      clear hb1
      go_wp2_with fail
      with_reducible refine (impl_CodeKinds.calls 10 false true false true 138 10 w1 (by kernel_rfl)).mono ?_
      rintro e w2 ⟨rfl, hd⟩
      have HB2 := Hd.mk (HB.out.trans (hd.below.mono HB.out.size))
      clear hd HB
      go_wp2
      go_ret
      exact ⟨by simp, HB2.out⟩
    · go_enter Try.func6, Try.ntmps6
      go_wp2_with fail
      with_reducible refine (codeData_yes _ w (by unfold HasKind; decide)).mono ?_
      rintro e w1 ⟨k, rfl, hb1⟩
      have HB := Hd.mk hb1
      clear hb1
      go_wp2_with fail
      with_reducible refine (impl_CodeKinds.calls 11 false true false true 139 11 w1 (by kernel_rfl)).mono ?_
      rintro e w2 ⟨rfl, hd⟩
      have HB2 := Hd.mk (HB.out.trans (hd.below.mono HB.out.size))
      clear hd HB
      go_wp2
      go_ret
      exact ⟨by simp, HB2.out⟩
    · go_enter Try.func6, Try.ntmps6
      go_wp2_with fail
      with_reducible refine (codeData_yes _ w (by unfold HasKind; decide)).mono ?_
      rintro e w1 ⟨k, rfl, hb1⟩
      have HB := Hd.mk hb1
      clear hb1
      go_wp2_with fail
      with_reducible refine (impl_CodeKinds.calls 30 false false false true 158 30 w1 (by kernel_rfl)).mono ?_
      rintro e w2 ⟨rfl, hd⟩
      have HB2 := Hd.mk (HB.out.trans (hd.below.mono HB.out.size))
      clear hd HB
      go_wp2
      go_ret
      exact ⟨by simp, HB2.out⟩
    · go_enter Try.func6, Try.ntmps6
      go_wp2_with fail
      with_reducible refine (codeData_yes _ w (by unfold HasKind; decide)).mono ?_
      rintro e w1 ⟨k, rfl, hb1⟩
      have HB := Hd.mk hb1
      clear hb1
      go_wp2_with fail
      with_reducible refine (impl_CodeKinds.calls 52 false true false true 180 52 w1 (by kernel_rfl)).mono ?_
      rintro e w2 ⟨rfl, hd⟩
      have HB2 := Hd.mk (HB.out.trans (hd.below.mono HB.out.size))
      clear hd HB
      go_wp2
      go_ret
      exact ⟨by simp, HB2.out⟩
    · go_enter Try.func6, Try.ntmps6
      go_wp2_with fail
      with_reducible refine (codeData_yes _ w (by unfold HasKind; decide)).mono ?_
      rintro e w1 ⟨k, rfl, hb1⟩
      have HB := Hd.mk hb1
      clear hb1
      go_wp2_with fail
      with_reducible refine (impl_CodeKinds.calls 75 false false false true 203 75 w1 (by kernel_rfl)).mono ?_
      rintro e w2 ⟨rfl, hd⟩
      have HB2 := Hd.mk (HB.out.trans (hd.below.mono HB.out.size))
      clear hd HB
      go_wp2
      go_ret
      exact ⟨by simp, HB2.out⟩
    · go_enter Try.func6, Try.ntmps6
      go_wp2_with fail
      with_reducible refine (codeData_yes _ w (by unfold HasKind; decide)).mono ?_
      rintro e w1 ⟨k, rfl, hb1⟩
      have HB := Hd.mk hb1
      clear hb1
      go_wp2_with fail
      with_reducible refine (impl_CodeKinds.calls 74 false false false true 202 74 w1 (by kernel_rfl)).mono ?_
      rintro e w2 ⟨rfl, hd⟩
      have HB2 := Hd.mk (HB.out.trans (hd.below.mono HB.out.size))
      clear hd HB
      go_wp2
      go_ret
      exact ⟨by simp, HB2.out⟩
    · go_enter Try.func6, Try.ntmps6
      go_wp2_with fail
      with_reducible refine (codeData_yes _ w (by unfold HasKind; decide)).mono ?_
      rintro e w1 ⟨k, rfl, hb1⟩
      have HB := Hd.mk hb1
      clear hb1
      go_wp2_with fail
      with_reducible refine (impl_CodeKinds.calls 12 false true false true 140 12 w1 (by kernel_rfl)).mono ?_
      rintro e w2 ⟨rfl, hd⟩
      have HB2 := Hd.mk (HB.out.trans (hd.below.mono HB.out.size))
      clear hd HB
      go_wp2
      go_ret
      exact ⟨by simp, HB2.out⟩
    · go_enter Try.func6, Try.ntmps6
      go_wp2_with fail
      with_reducible refine (codeData_yes _ w (by unfold HasKind; decide)).mono ?_
      rintro e w1 ⟨k, rfl, hb1⟩
      have HB := Hd.mk hb1
      clear hb1
      go_wp2_with fail
      with_reducible refine (impl_CodeKinds.calls 13 false true false true 141 13 w1 (by kernel_rfl)).mono ?_
      rintro e w2 ⟨rfl, hd⟩
      have HB2 := Hd.mk (HB.out.trans (hd.below.mono HB.out.size))
      clear hd HB
      go_wp2
      go_ret
      exact ⟨by simp, HB2.out⟩
    · go_enter Try.func6, Try.ntmps6
      go_wp2_with fail
      with_reducible refine (codeData_yes _ w (by unfold HasKind; decide)).mono ?_
      rintro e w1 ⟨k, rfl, hb1⟩
      have HB := Hd.mk hb1
      clear hb1
      go_wp2_with fail
      with_reducible refine (impl_CodeKinds.calls 27 true false false true 155 27 w1 (by kernel_rfl)).mono ?_
      rintro e w2 ⟨rfl, hd⟩
      have HB2 := Hd.mk (HB.out.trans (hd.below.mono HB.out.size))
      clear hd HB
      go_wp2
      go_ret
      exact ⟨by simp, HB2.out⟩
    · go_enter Try.func6, Try.ntmps6
      go_wp2_with fail
      with_reducible refine (codeData_yes _ w (by unfold HasKind; decide)).mono ?_
      rintro e w1 ⟨k, rfl, hb1⟩
      have HB := Hd.mk hb1
      clear hb1
      go_wp2_with fail
      with_reducible refine (impl_CodeKinds.calls 25 true false false true 153 25 w1 (by kernel_rfl)).mono ?_
      rintro e w2 ⟨rfl, hd⟩
      have HB2 := Hd.mk (HB.out.trans (hd.below.mono HB.out.size))
      clear hd HB
      go_wp2
      go_ret
      exact ⟨by simp, HB2.out⟩
    · go_enter Try.func6, Try.ntmps6
      go_wp2_with fail
      with_reducible refine (codeData_yes _ w (by unfold HasKind; decide)).mono ?_
      rintro e w1 ⟨k, rfl, hb1⟩
      have HB := Hd.mk hb1
      clear hb1
      go_wp2_with fail
      with_reducible refine (impl_CodeKinds.calls 26 true false false true 154 26 w1 (by kernel_rfl)).mono ?_
      rintro e w2 ⟨rfl, hd⟩
      have HB2 := Hd.mk (HB.out.trans (hd.below.mono HB.out.size))
      clear hd HB
      go_wp2
      go_ret
      exact ⟨by simp, HB2.out⟩
    · go_enter Try.func6, Try.ntmps6
      go_wp2_with fail
      with_reducible refine (codeData_yes _ w (by unfold HasKind; decide)).mono ?_
      rintro e w1 ⟨k, rfl, hb1⟩
      have HB := Hd.mk hb1
      clear hb1
      go_wp2_with fail
      with_reducible refine (impl_CodeKinds.calls 51 true false false true 179 26 w1 (by kernel_rfl)).mono ?_
      rintro e w2 ⟨rfl, hd⟩
      have HB2 := Hd.mk (HB.out.trans (hd.below.mono HB.out.size))
      clear hd HB
      go_wp2
      go_ret
      exact ⟨by simp, HB2.out⟩
    · go_enter Try.func6, Try.ntmps6
      go_wp2_with fail
      with_reducible refine (codeData_yes _ w (by unfold HasKind; decide)).mono ?_
      rintro e w1 ⟨k, rfl, hb1⟩
      have HB := Hd.mk hb1
      clear hb1
      go_wp2_with fail
      with_reducible refine (impl_CodeKinds.calls 53 true false false true 181 26 w1 (by kernel_rfl)).mono ?_
      rintro e w2 ⟨rfl, hd⟩
      have HB2 := Hd.mk (HB.out.trans (hd.below.mono HB.out.size))
      clear hd HB
      go_wp2
      go_ret
      exact ⟨by simp, HB2.out⟩
    · go_enter Try.func6, Try.ntmps6
      go_wp2_with fail
      with_reducible refine (codeData_yes _ w (by unfold HasKind; decide)).mono ?_
      rintro e w1 ⟨k, rfl, hb1⟩
      have HB := Hd.mk hb1
      clear hb1
      go_wp2_with fail
      with_reducible refine (impl_CodeKinds.calls 127 false false false true 255 127 w1 (by kernel_rfl)).mono ?_
      rintro e w2 ⟨rfl, hd⟩
      have HB2 := Hd.mk (HB.out.trans (hd.below.mono HB.out.size))
      clear hd HB
      go_wp2
      go_ret
      exact ⟨by simp, HB2.out⟩
  · have C := Hd.mk (codeData_no c w b0 b1 hc)
    clear hc
    go_enter Try.func6, Try.ntmps6
    go_wp2_with fail
    with_reducible refine C.out.mono ?_
    rintro e w1 ⟨k, rfl, hb1⟩
    have HB := Hd.mk hb1
    clear hb1
    go_wp2
    go_ret
    exact ⟨by simp, HB.out⟩
end Go.Proofs.Ytenefomcbjeccaa.Kb
