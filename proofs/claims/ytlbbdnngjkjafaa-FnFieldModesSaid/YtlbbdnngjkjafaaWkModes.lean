/- The walk of the law FnFieldModes: the call returns true, and nothing that was there is written. -/
import Derived.Test.YtlbbdnngjkjafaaPFnPartFlagsx0
namespace Go.Proofs.Ytlbbdnngjkjafaa.Wk
open Go.RowKit Go.Proofs.YtlbbdnngjkjafaaW.PrintWords Go.Proofs.YtlbbdnngjkjafaaW.PrintLast Go.Proofs.YtlbbdnngjkjafaaW.PrintMore
set_option linter.unusedVariables false
set_option linter.unusedSimpArgs false
set_option maxHeartbeats 1000000
theorem p86 (b : Nat) (w : World) (h : w.cell? ⟨b, 4, none⟩ = some (.int .i8 0)) : Calls Try.prog 86 #[.pointer (some ⟨b, 0, none⟩)] w fun e w' => e = .returned (.bool false) ∧ w = w' := by
  go_enter Try.func86, Try.ntmps86
  go_wp2
  go_ret
  exact ⟨rfl, rfl⟩
theorem p63 (b : Nat) (w : World) (h : w.cell? ⟨b, 4, none⟩ = some (.int .i8 0)) : Calls Try.prog 63 #[.pointer (some ⟨b, 0, none⟩)] w fun e w' => e = .returned (.tuple #[.bool false, .bool true]) ∧ w = w' := by
  go_enter Try.func63, Try.ntmps63
  go_wp2_with ((with_reducible refine (p86 b _ h).mono ?_); rintro e w' ⟨rfl, rfl⟩)
  exact bodyPost_ret (v := .tuple #[.bool false, .bool true]) (by simp [results, Try.results63, go_sem]) rfl ⟨rfl, rfl⟩
theorem p64 (b : Nat) (m : Int) (w : World) (h : w.cell? ⟨b, 6, none⟩ = some (.int .i8 m)) : Calls Try.prog 64 #[.pointer (some ⟨b, 0, none⟩)] w fun e w' => e = .returned (.bool (m == 2 || m == 1)) ∧ w = w' := by
  by_cases c : m = 2
  · subst c
    go_enter Try.func64, Try.ntmps64
    go_wp2
    go_ret
    exact ⟨rfl, rfl⟩
  · go_enter Try.func64, Try.ntmps64
    go_wp2
    go_ret
    exact ⟨by simp [c], rfl⟩
theorem p65 (b : Nat) (m : Int) (w : World) (h : w.cell? ⟨b, 6, none⟩ = some (.int .i8 m)) : Calls Try.prog 65 #[.pointer (some ⟨b, 0, none⟩)] w fun e w' => e = .returned (.bool (m == 2 || m == 4)) ∧ w = w' := by
  by_cases c : m = 2
  · subst c
    go_enter Try.func65, Try.ntmps65
    go_wp2
    go_ret
    exact ⟨rfl, rfl⟩
  · go_enter Try.func65, Try.ntmps65
    go_wp2
    go_ret
    exact ⟨by simp [c], rfl⟩
theorem p66 (b : Nat) (m : Int) (w : World) (h : w.cell? ⟨b, 6, none⟩ = some (.int .i8 m)) : Calls Try.prog 66 #[.pointer (some ⟨b, 0, none⟩)] w fun e w' => e = .returned (.bool (m == 2)) ∧ w = w' := by
  go_enter Try.func66, Try.ntmps66
  go_wp2
  go_ret
  exact ⟨by simp, rfl⟩
theorem p37 (b : Nat) (m : Int) (w : World) (h4 : w.cell? ⟨b, 4, none⟩ = some (.int .i8 0)) (h6 : w.cell? ⟨b, 6, none⟩ = some (.int .i8 m)) : Calls Try.prog 37 #[.pointer (some ⟨b, 0, none⟩)] w fun e w' => e = .returned (.tuple #[.bool (m == 2 || m == 1), .bool (m == 2 || m == 4), .bool (m == 2), .bool false]) ∧ Below w.heap.size w w' := by
  go_enter Try.func37, Try.ntmps37
  go_wp2_with (first | ((with_reducible refine (p63 b _ h4).mono ?_); rintro e w' ⟨rfl, rfl⟩) | ((with_reducible refine (p64 b m _ h6).mono ?_); rintro e w' ⟨rfl, rfl⟩) | ((with_reducible refine (p65 b m _ h6).mono ?_); rintro e w' ⟨rfl, rfl⟩) | ((with_reducible refine (p66 b m _ h6).mono ?_); rintro e w' ⟨rfl, rfl⟩))
  exact bodyPost_ret (v := .tuple #[.bool (m == 2 || m == 1), .bool (m == 2 || m == 4), .bool (m == 2), .bool false]) (by simp [results, Try.results37, go_sem]) rfl ⟨rfl, Below.refl _ _⟩
theorem p19 (m : Int) (w : World) : Calls Try.prog 19 #[.int .i64 m] w fun e w' => e = .returned (.tuple #[.bool (IntKind.i8.wrap m == 2 || IntKind.i8.wrap m == 1), .bool (IntKind.i8.wrap m == 2 || IntKind.i8.wrap m == 4), .bool (IntKind.i8.wrap m == 2)]) ∧ Below w.heap.size w w' := by
  have p38 : ∀ w : World, Calls Try.prog 38 #[.int .u8 1, .int .i64 0, .int .i64 0, .int .i64 m] w fun e w' => e = .returned (.pointer (some ⟨w.heap.size + 1, 0, none⟩)) ∧ Below w.heap.size w w' ∧ w'.cell? ⟨w.heap.size + 1, 4, none⟩ = some (.int .i8 0) ∧ w'.cell? ⟨w.heap.size + 1, 6, none⟩ = some (.int .i8 (IntKind.i8.wrap m)) := by
    intro w
    go_enter Try.func38, Try.ntmps38
    go_wp2
    go_ret
    refine ⟨rfl, ?_, ?_, ?_⟩
    · repeat (first | (with_reducible exact Below.refl _ _) | (with_reducible apply below_alloc))
    · simp [go_sem]
    · simp [go_sem]
  go_enter Try.func19, Try.ntmps19
  go_wp2_with fail
  with_reducible refine (p38 _).mono ?_
  rintro e w1 ⟨rfl, hb, h4, h6⟩
  have HB := Aside0.mk hb
  clear hb p38
  go_wp2_with fail
  with_reducible refine (p37 _ _ _ h4 h6).mono ?_
  rintro e w2 ⟨rfl, hb⟩
  have HB2 := Aside0.mk (below_then HB.out HB.out.size hb)
  clear hb HB h4 h6
  go_wp2
  exact bodyPost_ret (v := .tuple #[.bool (IntKind.i8.wrap m == 2 || IntKind.i8.wrap m == 1), .bool (IntKind.i8.wrap m == 2 || IntKind.i8.wrap m == 4), .bool (IntKind.i8.wrap m == 2)]) (by simp [results, Try.results19, go_sem]) rfl ⟨rfl, HB2.out⟩
theorem q19 (m : Int) (x y z : Bool) (w : World) (hx : (IntKind.i8.wrap m == 2 || IntKind.i8.wrap m == 1) = x) (hy : (IntKind.i8.wrap m == 2 || IntKind.i8.wrap m == 4) = y) (hz : (IntKind.i8.wrap m == 2) = z) :
    Calls Try.prog 19 #[.int .i64 m] w fun e w' => e = .returned (.tuple #[.bool x, .bool y, .bool z]) ∧ Below w.heap.size w w' := by
  subst hx; subst hy; subst hz
  exact p19 m w
theorem law_at (a : Int) (x y z : Bool) (w : World) (h0 : 0 ≤ a) (h1 : a ≤ 255) (hx : (IntKind.i8.wrap a == 2 || IntKind.i8.wrap a == 1) = x) (hy : (IntKind.i8.wrap a == 2 || IntKind.i8.wrap a == 4) = y) (hz : (IntKind.i8.wrap a == 2) = z)
    (ex : (a == 1 || a == 2) = x) (ey : (a == 4 || a == 2) = y) (ez : (a == 2) = z) : Calls Try.prog 7 #[.int .u8 a] w fun e w' => e = .returned (.bool true) ∧ Below w.heap.size w w' := by
  have HX := Aside0.mk hx; have HY := Aside0.mk hy; have HZ := Aside0.mk hz
  have ew : wrap64 a = a := by unfold wrap64; omega
  clear hx hy hz
  go_enter Try.func7, Try.ntmps7
  go_wp2_with fail
  (try rw [ew])
  with_reducible refine (q19 a x y z _ HX.out HY.out HZ.out).mono ?_
  rintro e w1 ⟨rfl, hb⟩
  have HB := Aside0.mk hb
  clear hb
  go_wp2_with fail
  with_reducible refine (q19 2 true true true _ (by decide) (by decide) (by decide)).mono ?_
  rintro e w2 ⟨rfl, hb⟩
  have HB2 := Aside0.mk (below_then HB.out HB.out.size hb)
  clear hb HB
  by_cases c1 : a = 2
  · subst c1
    simp at ex ey ez; subst ex; subst ey; subst ez
    go_wp2
    go_ret
    exact ⟨by simp, HB2.out⟩
  · by_cases c2 : a = 1
    · subst c2
      simp at ex ey ez; subst ex; subst ey; subst ez
      go_wp2
      go_ret
      exact ⟨by simp, HB2.out⟩
    · by_cases c3 : a = 4
      · subst c3
        simp at ex ey ez; subst ex; subst ey; subst ez
        go_wp2
        go_ret
        exact ⟨by simp, HB2.out⟩
      · have g1 : (a == 2) = false := by simpa using c1
        have g2 : (a == 1) = false := by simpa using c2
        have g3 : (a == 4) = false := by simpa using c3
        rw [g1, g2] at ex; rw [g3, g1] at ey; rw [g1] at ez
        simp at ex ey ez; subst ex; subst ey; subst ez
        go_wp2
        go_ret
        exact ⟨by simp [c1, c2, c3], HB2.out⟩
theorem FnFieldModes (a : Int) (w : World) (h0 : 0 ≤ a) (h1 : a ≤ 255) : Calls Try.prog 7 #[.int .u8 a] w fun e w' => e = .returned (.bool true) ∧ Below w.heap.size w w' := by
  have hw : IntKind.i8.wrap a = if a < 128 then a else a - 256 := by simp [IntKind.wrap, IntKind.bits, IntKind.signed]; split <;> split <;> omega
  refine law_at a (a == 1 || a == 2) (a == 4 || a == 2) (a == 2) w h0 h1 ?_ ?_ ?_ rfl rfl rfl
  · rw [hw, Bool.eq_iff_iff]; simp; split <;> omega
  · rw [hw, Bool.eq_iff_iff]; simp; split <;> omega
  · rw [hw, Bool.eq_iff_iff]; simp; split <;> omega
end Go.Proofs.Ytlbbdnngjkjafaa.Wk
