/- Written by a program (print.py, called by prints.sh) for this claim: Go functions as plain Lean functions, and that the code comes to their answers. -/
import Derived.Test.YtbblgpgjgkmcbaaPJalx0
import Derived.Test.YtbblgpgjgkmcbaaPJalx2
namespace Go.Proofs.Ytbblgpgjgkmcbaa.PJal
open Go.RowKit Go.Proofs.YtbblgpgjgkmcbaaW.PrintWords Go.Proofs.YtbblgpgjgkmcbaaW.PrintLast Go.Proofs.YtbblgpgjgkmcbaaW.PrintMore
attribute [local go_sem] max2_int min2_int max_two min_two max_three min_three max_four min_four   -- for this text's walks alone
set_option linter.unusedVariables false
set_option linter.unusedSimpArgs false

/-! ### spec_JuDate: function 26 -/
mutual
def spec_JuDate.l0 : Nat → Int → Bool → Int → Option (Int × Int × Int)
  | 0, _, _, _ => none
  | k + 1, x0, x1, x4 => (spec_JuDay.f (wrap64 (x4 + 1)) 1 1 x1).bind fun t150 => (if t150 ≤ x0 then (spec_JuDate.l0 k x0 x1 (wrap64 (x4 + 1))) else (spec_JuDate.l1 k x0 x1 x4 1))
def spec_JuDate.l1 : Nat → Int → Bool → Int → Int → Option (Int × Int × Int)
  | 0, _, _, _, _ => none
  | k + 1, x0, x1, x4, x5 => if x5 < 12 then ((spec_JuDay.f x4 (wrap64 (x5 + 1)) 1 x1).bind fun t151 => (if t151 ≤ x0 then (spec_JuDate.l1 k x0 x1 x4 (wrap64 (x5 + 1))) else ((spec_JuDay.f x4 x5 1 x1).bind fun t152 => (some (x4, x5, wrap64 ((wrap64 (x0 - t152)) + 1)))))) else ((spec_JuDay.f x4 x5 1 x1).bind fun t153 => (some (x4, x5, wrap64 ((wrap64 (x0 - t153)) + 1))))
end
def spec_JuDate.f (k : Nat) (a0 : Int) (a1 : Bool) : Option (Int × Int × Int) := (spec_juFloor.f (wrap64 (a0 - 1721060)) 366).bind fun t149 => (spec_JuDate.l0 k a0 a1 (wrap64 (t149 - 30)))
theorem spec_JuDate.mono_l : ∀ k, (∀ y0 y1 y2, LeO (spec_JuDate.l0 k y0 y1 y2) (spec_JuDate.l0 (k + 1) y0 y1 y2)) ∧ (∀ y0 y1 y2 y3, LeO (spec_JuDate.l1 k y0 y1 y2 y3) (spec_JuDate.l1 (k + 1) y0 y1 y2 y3))
  | 0 => ⟨fun _ _ _ r h => by simp [spec_JuDate.l0] at h, fun _ _ _ _ r h => by simp [spec_JuDate.l1] at h⟩
  | k + 1 => by
    obtain ⟨ih0, ih1⟩ := spec_JuDate.mono_l k
    refine ⟨?_, ?_⟩
    · intro y0 y1 y2
      unfold spec_JuDate.l0
      repeat' first
      | (with_reducible exact ih0 _ _ _)
      | (with_reducible exact ih1 _ _ _ _)
      | (with_reducible exact LeO.refl _)
      | (with_reducible exact LeO.none _)
      | (with_reducible refine LeO.ite ?_ ?_)
      | (with_reducible refine LeO.bind ?_ (fun _ => ?_))
      | exact ih0 _ _ _
      | exact ih1 _ _ _ _
      | exact LeO.none _
      | refine LeO.ite ?_ ?_
      | refine LeO.bind ?_ (fun _ => ?_)
    · intro y0 y1 y2 y3
      unfold spec_JuDate.l1
      repeat' first
      | (with_reducible exact ih0 _ _ _)
      | (with_reducible exact ih1 _ _ _ _)
      | (with_reducible exact LeO.refl _)
      | (with_reducible exact LeO.none _)
      | (with_reducible refine LeO.ite ?_ ?_)
      | (with_reducible refine LeO.bind ?_ (fun _ => ?_))
      | exact ih0 _ _ _
      | exact ih1 _ _ _ _
      | exact LeO.none _
      | refine LeO.ite ?_ ?_
      | refine LeO.bind ?_ (fun _ => ?_)
theorem spec_JuDate.mono : ∀ a0 a1 k, LeO (spec_JuDate.f k a0 a1) (spec_JuDate.f (k + 1) a0 a1) := by
  intro a0 a1 k
  obtain ⟨ih0, ih1⟩ := spec_JuDate.mono_l k
  unfold spec_JuDate.f
  repeat' first
      | (with_reducible exact ih0 _ _ _)
      | (with_reducible exact ih1 _ _ _ _)
      | (with_reducible exact LeO.refl _)
      | (with_reducible exact LeO.none _)
      | (with_reducible refine LeO.ite ?_ ?_)
      | (with_reducible refine LeO.bind ?_ (fun _ => ?_))
      | exact ih0 _ _ _
      | exact ih1 _ _ _ _
      | exact LeO.none _
      | refine LeO.ite ?_ ?_
      | refine LeO.bind ?_ (fun _ => ?_)
set_option maxHeartbeats 8000000 in
set_option maxRecDepth 100000 in
theorem spec_JuDate.calls (k : Nat) (a0 : Int) (a1 : Bool) (r1 : Int) (r2 : Int) (r3 : Int) (w : World) (h : spec_JuDate.f k a0 a1 = some (r1, r2, r3)) :
    Calls Try.prog 26 #[.int .i64 a0, .bool a1] w fun e w' => e = .returned (.tuple #[.int .i64 r1, .int .i64 r2, .int .i64 r3]) ∧ Drawn0 w w' := by
  have H : ((spec_juFloor.f (wrap64 (a0 - 1721060)) 366).bind fun t149 => (spec_JuDate.l0 k a0 a1 (wrap64 (t149 - 30)))) = some (r1, r2, r3) := h
  clear h
  replace H := Option.bind_eq_some_iff.mp H
  obtain ⟨t149, A30, H⟩ := H
  replace H : (spec_JuDate.l0 k a0 a1 (wrap64 (t149 - 30))) = some (r1, r2, r3) := H
  have A3 := Aside0.mk A30
  clear A30
  have H' := Aside0.mk H
  clear H
  go_enter Try.func26, Try.ntmps26
  go_wp2_with (first | ((with_reducible refine gate_callee (f := 25) rfl ?_); refine goesL_ (some 9) rfl rfl Try.func25 (by kernel_rfl) rfl #[.int .i64 (wrap64 (a0 - 1721060)), .int .i64 366] rfl (by (try simp only [List.map_toArray, List.map_cons, List.map_nil]); first | done | rfl | (simp only [List.length_drop, List.length_take]; rfl)) ?_; (with_reducible refine (spec_juFloor.calls (wrap64 (a0 - 1721060)) 366 t149 _ A3.out).mono ?_); rintro e w' ⟨rfl, ⟨nd, rfl⟩⟩; refine ⟨_, rfl, ?_⟩))
  go_loopg [4] k (fun kq v4 w' => ∃ (x4_1 : Int), v4 = .int .i64 x4_1 ∧ Aside0 (spec_JuDate.l0 kq a0 a1 x4_1 = some (r1, r2, r3)) ∧ Aside0 (kq ≤ k) ∧ Drawn0 w w')
  case atStart => exact ⟨(wrap64 (t149 - 30)), (by first | rfl | (simp; done) | (simp [*]; done)), H', ⟨Nat.le_refl _⟩, by repeat (first | exact Drawn0.refl _ | apply Drawn0.step)⟩
  case round =>
    clear H'
    try clear c2
    try clear p2
    obtain ⟨x4_1, rfl, HA, HK1, ⟨m1, rfl⟩⟩ := hrel
    cases gk with
    | zero => exact absurd HA.out (by simp [spec_JuDate.l0])
    | succ k1 =>
      have H := HA.out
      clear HA
      simp only [spec_JuDate.l0] at H
      replace H := Option.bind_eq_some_iff.mp H
      obtain ⟨t150, A40, H⟩ := H
      replace H : (if t150 ≤ a0 then (spec_JuDate.l0 k1 a0 a1 (wrap64 (x4_1 + 1))) else (spec_JuDate.l1 k1 a0 a1 x4_1 1)) = some (r1, r2, r3) := H
      have A4 := Aside0.mk A40
      clear A40
      by_cases c5 : t150 ≤ a0
      · rw [if_pos c5] at H
        have c5b0 : decide (t150 ≤ a0) = true := decide_eq_true c5
        clear c5
        have H' := Aside0.mk H
        clear H
        go_wp2_with (first | ((with_reducible refine gate_callee (f := 27) rfl ?_); refine goesL_ (some 14) rfl rfl Try.func27 (by kernel_rfl) rfl #[.int .i64 (wrap64 (x4_1 + 1)), .int .i64 1, .int .i64 1, .bool a1] rfl (by (try simp only [List.map_toArray, List.map_cons, List.map_nil]); first | done | rfl | (simp only [List.length_drop, List.length_take]; rfl)) ?_; (with_reducible refine (spec_JuDay.calls (wrap64 (x4_1 + 1)) 1 1 a1 t150 _ A4.out).mono ?_); rintro e w' ⟨rfl, ⟨nd, rfl⟩⟩; refine ⟨_, rfl, ?_⟩))
        go_roundg k1
        case measure => have := HK1.out; omega
        case rel => exact ⟨(wrap64 (x4_1 + 1)), (by first | rfl | (simp; done) | (simp [*]; done)), H', ⟨by have := HK1.out; omega⟩, by repeat (first | exact Drawn0.refl _ | apply Drawn0.step)⟩
      · rw [if_neg c5] at H
        have c5b0 : decide (t150 ≤ a0) = false := decide_eq_false c5
        clear c5
        have H' := Aside0.mk H
        clear H
        go_wp2_with (first | ((with_reducible refine gate_callee (f := 27) rfl ?_); refine goesL_ (some 14) rfl rfl Try.func27 (by kernel_rfl) rfl #[.int .i64 (wrap64 (x4_1 + 1)), .int .i64 1, .int .i64 1, .bool a1] rfl (by (try simp only [List.map_toArray, List.map_cons, List.map_nil]); first | done | rfl | (simp only [List.length_drop, List.length_take]; rfl)) ?_; (with_reducible refine (spec_JuDay.calls (wrap64 (x4_1 + 1)) 1 1 a1 t150 _ A4.out).mono ?_); rintro e w' ⟨rfl, ⟨nd, rfl⟩⟩; refine ⟨_, rfl, ?_⟩))
        go_loopg [5] k1 (fun kq v5 w' => ∃ (x5_2 : Int), v5 = .int .i64 x5_2 ∧ Aside0 (spec_JuDate.l1 kq a0 a1 x4_1 x5_2 = some (r1, r2, r3)) ∧ Aside0 (kq ≤ k1) ∧ Drawn0 w w')
        case atStart => exact ⟨(1), (by first | rfl | (simp; done) | (simp [*]; done)), H', ⟨Nat.le_refl _⟩, by repeat (first | exact Drawn0.refl _ | apply Drawn0.step)⟩
        case round =>
          clear H'
          try clear c2
          try clear p2
          try clear c5
          try clear c5b0
          try clear p2
          obtain ⟨x5_2, rfl, HA, HK2, ⟨m2, rfl⟩⟩ := hrel
          cases gk with
          | zero => exact absurd HA.out (by simp [spec_JuDate.l1])
          | succ k2 =>
            have H := HA.out
            clear HA
            simp only [spec_JuDate.l1] at H
            by_cases c6 : x5_2 < 12
            · rw [if_pos c6] at H
              have c6b0 : decide (x5_2 < 12) = true := decide_eq_true c6
              clear c6
              replace H := Option.bind_eq_some_iff.mp H
              obtain ⟨t151, A70, H⟩ := H
              replace H : (if t151 ≤ a0 then (spec_JuDate.l1 k2 a0 a1 x4_1 (wrap64 (x5_2 + 1))) else ((spec_JuDay.f x4_1 x5_2 1 a1).bind fun t152 => (some (x4_1, x5_2, wrap64 ((wrap64 (a0 - t152)) + 1))))) = some (r1, r2, r3) := H
              have A7 := Aside0.mk A70
              clear A70
              by_cases c8 : t151 ≤ a0
              · rw [if_pos c8] at H
                have c8b0 : decide (t151 ≤ a0) = true := decide_eq_true c8
                clear c8
                have H' := Aside0.mk H
                clear H
                go_wp2_with (first | (go_at_call 27; (with_reducible refine (spec_JuDay.calls x4_1 (wrap64 (x5_2 + 1)) 1 a1 t151 _ A7.out).mono ?_); rintro e w' ⟨rfl, ⟨nd, rfl⟩⟩))
                go_roundg k2
                case measure => have := HK1.out; have := HK2.out; omega
                case rel => exact ⟨(wrap64 (x5_2 + 1)), (by first | rfl | (simp; done) | (simp [*]; done)), H', ⟨by have := HK1.out; have := HK2.out; omega⟩, by repeat (first | exact Drawn0.refl _ | apply Drawn0.step)⟩
              · rw [if_neg c8] at H
                have c8b0 : decide (t151 ≤ a0) = false := decide_eq_false c8
                clear c8
                replace H := Option.bind_eq_some_iff.mp H
                obtain ⟨t152, A90, H⟩ := H
                replace H : (some (x4_1, x5_2, wrap64 ((wrap64 (a0 - t152)) + 1))) = some (r1, r2, r3) := H
                have A9 := Aside0.mk A90
                clear A90
                simp only [Option.some.injEq, Prod.mk.injEq] at H
                obtain ⟨rfl, rfl, rfl⟩ := H
                go_wp2_with (first | (go_at_call 27; (with_reducible refine (spec_JuDay.calls x4_1 (wrap64 (x5_2 + 1)) 1 a1 t151 _ A7.out).mono ?_); rintro e w' ⟨rfl, ⟨nd, rfl⟩⟩) | ((with_reducible refine gate_callee (f := 27) rfl ?_); refine goesL_ (some 38) rfl rfl Try.func27 (by kernel_rfl) rfl #[.int .i64 x4_1, .int .i64 x5_2, .int .i64 1, .bool a1] rfl (by (try simp only [List.map_toArray, List.map_cons, List.map_nil]); first | done | rfl | (simp only [List.length_drop, List.length_take]; rfl)) ?_; (with_reducible refine (spec_JuDay.calls x4_1 x5_2 1 a1 t152 _ A9.out).mono ?_); rintro e w' ⟨rfl, ⟨nd, rfl⟩⟩; refine ⟨_, rfl, ?_⟩))
                go_ret3
                exact ⟨by first | rfl | (simp; done) | (simp [*]; done), by repeat (first | exact Drawn0.refl _ | apply Drawn0.step)⟩
            · rw [if_neg c6] at H
              have c6b0 : decide (x5_2 < 12) = false := decide_eq_false c6
              clear c6
              replace H := Option.bind_eq_some_iff.mp H
              obtain ⟨t153, A100, H⟩ := H
              replace H : (some (x4_1, x5_2, wrap64 ((wrap64 (a0 - t153)) + 1))) = some (r1, r2, r3) := H
              have A10 := Aside0.mk A100
              clear A100
              simp only [Option.some.injEq, Prod.mk.injEq] at H
              obtain ⟨rfl, rfl, rfl⟩ := H
              go_wp2_with (first | ((with_reducible refine gate_callee (f := 27) rfl ?_); refine goesL_ (some 38) rfl rfl Try.func27 (by kernel_rfl) rfl #[.int .i64 x4_1, .int .i64 x5_2, .int .i64 1, .bool a1] rfl (by (try simp only [List.map_toArray, List.map_cons, List.map_nil]); first | done | rfl | (simp only [List.length_drop, List.length_take]; rfl)) ?_; (with_reducible refine (spec_JuDay.calls x4_1 x5_2 1 a1 t153 _ A10.out).mono ?_); rintro e w' ⟨rfl, ⟨nd, rfl⟩⟩; refine ⟨_, rfl, ?_⟩))
              go_ret3
              exact ⟨by first | rfl | (simp; done) | (simp [*]; done), by repeat (first | exact Drawn0.refl _ | apply Drawn0.step)⟩

end Go.Proofs.Ytbblgpgjgkmcbaa.PJal
