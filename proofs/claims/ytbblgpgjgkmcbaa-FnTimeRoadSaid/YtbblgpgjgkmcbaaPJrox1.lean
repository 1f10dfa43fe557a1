/- Written by a program (print.py, called by prints.sh) for this claim: Go functions as plain Lean functions, and that the code comes to their answers. -/
import Derived.Test.YtbblgpgjgkmcbaaPJrox0
namespace Go.Proofs.Ytbblgpgjgkmcbaa.PJro
open Go.RowKit Go.Proofs.YtbblgpgjgkmcbaaW.PrintWords Go.Proofs.YtbblgpgjgkmcbaaW.PrintLast Go.Proofs.YtbblgpgjgkmcbaaW.PrintMore
attribute [local go_sem] max2_int min2_int max_two min_two max_three min_three max_four min_four   -- for this text's walks alone
set_option linter.unusedVariables false
set_option linter.unusedSimpArgs false

/-! ### laws_juTime: function 9 -/
def laws_juTime.f (a0_0 : Int) (a0_1 : Int) (a0_2 : Int) (a0_3 : Int) (a0_4 : Int) (a0_5 : Int) (a0_6 : Int) : Option (Int × Int × Int × Int × Int × Int × Int) := some (wrap64 (4 + (wrap64 (Int.tmod (IntKind.u64.wrap (a0_0)) 9990))), Int.tmod a0_1 20, Int.tmod a0_2 50, Int.tmod a0_3 40, Int.tmod a0_4 100, Int.tmod a0_5 100, Int.tmod a0_6 3000000000)
set_option maxHeartbeats 8000000 in
set_option maxRecDepth 100000 in
theorem laws_juTime.calls (a0_0 : Int) (a0_1 : Int) (a0_2 : Int) (a0_3 : Int) (a0_4 : Int) (a0_5 : Int) (a0_6 : Int) (r1 : Int) (r2 : Int) (r3 : Int) (r4 : Int) (r5 : Int) (r6 : Int) (r7 : Int) (w : World) (h : laws_juTime.f a0_0 a0_1 a0_2 a0_3 a0_4 a0_5 a0_6 = some (r1, r2, r3, r4, r5, r6, r7)) :
    Calls Try.prog 9 #[.agg #[.int .i64 a0_0, .int .i64 a0_1, .int .i64 a0_2, .int .i64 a0_3, .int .i64 a0_4, .int .i64 a0_5, .int .i64 a0_6]] w fun e w' => e = .returned (.agg #[.int .i64 r1, .int .i64 r2, .int .i64 r3, .int .i64 r4, .int .i64 r5, .int .i64 r6, .int .i64 r7]) ∧ Below w.heap.size w w' := by
  have hu23 := Try.underlying23
  have HB := Aside0.mk (Below.refl w.heap.size w)
  have H : (some (wrap64 (4 + (wrap64 (Int.tmod (IntKind.u64.wrap (a0_0)) 9990))), Int.tmod a0_1 20, Int.tmod a0_2 50, Int.tmod a0_3 40, Int.tmod a0_4 100, Int.tmod a0_5 100, Int.tmod a0_6 3000000000)) = some (r1, r2, r3, r4, r5, r6, r7) := h
  clear h
  simp only [Option.some.injEq, Prod.mk.injEq] at H
  obtain ⟨rfl, rfl, rfl, rfl, rfl, rfl, rfl⟩ := H
  go_enter Try.func9, Try.ntmps9
  go_wp2_with (first | ((with_reducible refine gate_dst (N := 1) rfl ?_); refine box_event ?hg (N := 1) ?hd (cs := #[.int .i64 a0_0, .int .i64 a0_1, .int .i64 a0_2, .int .i64 a0_3, .int .i64 a0_4, .int .i64 a0_5, .int .i64 a0_6]) (t := 23) ?hr ?_; (case hd => rfl); (case hg => rfl); (case hr => first | (go_simp; done) | (go_simp; rfl)); intro gb101 hg w2 hbox hb; have n0_ := Aside0.mk (below_step (by repeat (first | (with_reducible first | exact HB.out | apply below_alloc | apply pw_below_drewN | apply below_drew1) | exact HB.out)) hb); have n1_ := Aside0.mk (hbox); have n2_ := Aside0.mk ((by rw [hg]; exact (below_size (by repeat (first | (with_reducible first | exact HB.out | apply below_alloc | apply pw_below_drewN | apply below_drew1) | exact HB.out))) : w.heap.size ≤ gb101)); have n3_ := Aside0.mk ((by rw [hg]; exact (below_size (by repeat (first | (with_reducible first | exact HB.out | apply below_alloc | apply pw_below_drewN | apply below_drew1) | exact HB.out))) : w.heap.size ≤ gb101)); clear HB; have HB := n0_; have BK101 := n1_; have GW101 := n2_; have GE101 := n3_; clear n0_ n1_ n2_ n3_; clear hb hbox hg) | ((with_reducible refine gate_dst (N := 2) rfl ?_); refine box_event ?hg (N := 2) ?hd (cs := #[.int .i64 0, .int .i64 0, .int .i64 0, .int .i64 0, .int .i64 0, .int .i64 0, .int .i64 0]) (t := 23) ?hr ?_; (case hd => rfl); (case hg => rfl); (case hr => first | (go_simp; done) | (go_simp; rfl)); intro gb102 hg w3 hbox hb; have n0_ := Aside0.mk (blk_below (g := gb101) (o := .cells #[.int .i64 a0_0, .int .i64 a0_1, .int .i64 a0_2, .int .i64 a0_3, .int .i64 a0_4, .int .i64 a0_5, .int .i64 a0_6] 23 (0, 0)) (by (with_reducible repeat (first | refine blk_drewN ?_ _ | refine blk_drew ?_ | refine blk_alloc ?_ _)); exact BK101.out) hb); have n1_ := Aside0.mk (below_step (by repeat (first | (with_reducible first | exact HB.out | apply below_alloc | apply pw_below_drewN | apply below_drew1 | refine below_set ?_ GE101.out) | exact HB.out)) hb); have n2_ := Aside0.mk (hbox); have n3_ := Aside0.mk ((by rw [hg]; exact (below_size (by repeat (first | (with_reducible first | exact HB.out | apply below_alloc | apply pw_below_drewN | apply below_drew1 | refine below_set ?_ GE101.out) | exact HB.out))) : w.heap.size ≤ gb102)); have n4_ := Aside0.mk ((by rw [hg]; exact (below_size (by repeat (first | (with_reducible first | exact HB.out | apply below_alloc | apply pw_below_drewN | apply below_drew1 | refine below_set ?_ GE101.out) | exact HB.out))) : w.heap.size ≤ gb102)); have n5_ := Aside0.mk ((by rw [hg]; exact Nat.ne_of_lt (blk_lt (g := gb101) (o := .cells #[.int .i64 a0_0, .int .i64 a0_1, .int .i64 a0_2, .int .i64 a0_3, .int .i64 a0_4, .int .i64 a0_5, .int .i64 a0_6] 23 (0, 0)) (by (with_reducible repeat (first | refine blk_drewN ?_ _ | refine blk_drew ?_ | refine blk_alloc ?_ _)); exact BK101.out)) : gb101 ≠ gb102)); have n6_ := Aside0.mk ((by rw [hg]; exact Nat.ne_of_gt (blk_lt (g := gb101) (o := .cells #[.int .i64 a0_0, .int .i64 a0_1, .int .i64 a0_2, .int .i64 a0_3, .int .i64 a0_4, .int .i64 a0_5, .int .i64 a0_6] 23 (0, 0)) (by (with_reducible repeat (first | refine blk_drewN ?_ _ | refine blk_drew ?_ | refine blk_alloc ?_ _)); exact BK101.out)) : gb102 ≠ gb101)); clear BK101; clear HB; have BK101 := n0_; have HB := n1_; have BK102 := n2_; have GW102 := n3_; have GE102 := n4_; have NB101_102 := n5_; have NB102_101 := n6_; clear n0_ n1_ n2_ n3_ n4_ n5_ n6_; clear hb hbox hg; have hnb4 := NB101_102.out; have hnc4 := NB102_101.out; have hcz5_0 : w3.cell? ⟨gb101, 0, none⟩ = some (.int .i64 a0_0) := (blk_cell BK101.out 0).trans rfl; have hcz5_1 : w3.cell? ⟨gb101, 1, none⟩ = some (.int .i64 a0_1) := (blk_cell BK101.out 1).trans rfl; have hcz5_2 : w3.cell? ⟨gb101, 2, none⟩ = some (.int .i64 a0_2) := (blk_cell BK101.out 2).trans rfl; have hcz5_3 : w3.cell? ⟨gb101, 3, none⟩ = some (.int .i64 a0_3) := (blk_cell BK101.out 3).trans rfl; have hcz5_4 : w3.cell? ⟨gb101, 4, none⟩ = some (.int .i64 a0_4) := (blk_cell BK101.out 4).trans rfl; have hcz5_5 : w3.cell? ⟨gb101, 5, none⟩ = some (.int .i64 a0_5) := (blk_cell BK101.out 5).trans rfl; have hcz5_6 : w3.cell? ⟨gb101, 6, none⟩ = some (.int .i64 a0_6) := (blk_cell BK101.out 6).trans rfl; have hfz5_0 := blk_frozen BK101.out 0; have hfz5_1 := blk_frozen BK101.out 1; have hfz5_2 := blk_frozen BK101.out 2; have hfz5_3 := blk_frozen BK101.out 3; have hfz5_4 := blk_frozen BK101.out 4; have hfz5_5 := blk_frozen BK101.out 5; have hfz5_6 := blk_frozen BK101.out 6; have hcz6_0 : w3.cell? ⟨gb102, 0, none⟩ = some (.int .i64 0) := (blk_cell BK102.out 0).trans rfl; have hcz6_1 : w3.cell? ⟨gb102, 1, none⟩ = some (.int .i64 0) := (blk_cell BK102.out 1).trans rfl; have hcz6_2 : w3.cell? ⟨gb102, 2, none⟩ = some (.int .i64 0) := (blk_cell BK102.out 2).trans rfl; have hcz6_3 : w3.cell? ⟨gb102, 3, none⟩ = some (.int .i64 0) := (blk_cell BK102.out 3).trans rfl; have hcz6_4 : w3.cell? ⟨gb102, 4, none⟩ = some (.int .i64 0) := (blk_cell BK102.out 4).trans rfl; have hcz6_5 : w3.cell? ⟨gb102, 5, none⟩ = some (.int .i64 0) := (blk_cell BK102.out 5).trans rfl; have hcz6_6 : w3.cell? ⟨gb102, 6, none⟩ = some (.int .i64 0) := (blk_cell BK102.out 6).trans rfl; have hfz6_0 := blk_frozen BK102.out 0; have hfz6_1 := blk_frozen BK102.out 1; have hfz6_2 := blk_frozen BK102.out 2; have hfz6_3 := blk_frozen BK102.out 3; have hfz6_4 := blk_frozen BK102.out 4; have hfz6_5 := blk_frozen BK102.out 5; have hfz6_6 := blk_frozen BK102.out 6))
  refine bodyPost_ret (results_cell_row rfl _ _ gb102 23 #[.int .i64 (wrap64 (4 + (wrap64 (Int.tmod (IntKind.u64.wrap (a0_0)) 9990)))), .int .i64 (Int.tmod a0_1 20), .int .i64 (Int.tmod a0_2 50), .int .i64 (Int.tmod a0_3 40), .int .i64 (Int.tmod a0_4 100), .int .i64 (Int.tmod a0_5 100), .int .i64 (Int.tmod a0_6 3000000000)] (0, 0) _ rfl (by (with_reducible repeat (first | refine blk_drewN ?_ _ | refine blk_drew ?_ | refine blk_alloc ?_ _)); refine blk_put (cs := #[.int .i64 (wrap64 (4 + (wrap64 (Int.tmod (IntKind.u64.wrap (a0_0)) 9990)))), .int .i64 (Int.tmod a0_1 20), .int .i64 (Int.tmod a0_2 50), .int .i64 (Int.tmod a0_3 40), .int .i64 (Int.tmod a0_4 100), .int .i64 (Int.tmod a0_5 100), .int .i64 0]) ?_ 6 _ rfl; (with_reducible repeat (first | refine blk_drewN ?_ _ | refine blk_drew ?_ | refine blk_alloc ?_ _)); refine blk_put (cs := #[.int .i64 (wrap64 (4 + (wrap64 (Int.tmod (IntKind.u64.wrap (a0_0)) 9990)))), .int .i64 (Int.tmod a0_1 20), .int .i64 (Int.tmod a0_2 50), .int .i64 (Int.tmod a0_3 40), .int .i64 (Int.tmod a0_4 100), .int .i64 0, .int .i64 0]) ?_ 5 _ rfl; (with_reducible repeat (first | refine blk_drewN ?_ _ | refine blk_drew ?_ | refine blk_alloc ?_ _)); refine blk_put (cs := #[.int .i64 (wrap64 (4 + (wrap64 (Int.tmod (IntKind.u64.wrap (a0_0)) 9990)))), .int .i64 (Int.tmod a0_1 20), .int .i64 (Int.tmod a0_2 50), .int .i64 (Int.tmod a0_3 40), .int .i64 0, .int .i64 0, .int .i64 0]) ?_ 4 _ rfl; (with_reducible repeat (first | refine blk_drewN ?_ _ | refine blk_drew ?_ | refine blk_alloc ?_ _)); refine blk_put (cs := #[.int .i64 (wrap64 (4 + (wrap64 (Int.tmod (IntKind.u64.wrap (a0_0)) 9990)))), .int .i64 (Int.tmod a0_1 20), .int .i64 (Int.tmod a0_2 50), .int .i64 0, .int .i64 0, .int .i64 0, .int .i64 0]) ?_ 3 _ rfl; (with_reducible repeat (first | refine blk_drewN ?_ _ | refine blk_drew ?_ | refine blk_alloc ?_ _)); refine blk_put (cs := #[.int .i64 (wrap64 (4 + (wrap64 (Int.tmod (IntKind.u64.wrap (a0_0)) 9990)))), .int .i64 (Int.tmod a0_1 20), .int .i64 0, .int .i64 0, .int .i64 0, .int .i64 0, .int .i64 0]) ?_ 2 _ rfl; (with_reducible repeat (first | refine blk_drewN ?_ _ | refine blk_drew ?_ | refine blk_alloc ?_ _)); refine blk_put (cs := #[.int .i64 (wrap64 (4 + (wrap64 (Int.tmod (IntKind.u64.wrap (a0_0)) 9990)))), .int .i64 0, .int .i64 0, .int .i64 0, .int .i64 0, .int .i64 0, .int .i64 0]) ?_ 1 _ rfl; (with_reducible repeat (first | refine blk_drewN ?_ _ | refine blk_drew ?_ | refine blk_alloc ?_ _)); refine blk_put (cs := #[.int .i64 0, .int .i64 0, .int .i64 0, .int .i64 0, .int .i64 0, .int .i64 0, .int .i64 0]) ?_ 0 _ rfl; (with_reducible repeat (first | refine blk_drewN ?_ _ | refine blk_drew ?_ | refine blk_alloc ?_ _)); exact BK102.out) Try.underlying23 rfl (by kernel_rfl)) rfl ?_
  exact ⟨by first | rfl | (simp [errW_none, errW_some] <;> rfl) | (simp [*, errW_none, errW_some] <;> rfl), by repeat (first | (with_reducible first | exact HB.out | apply below_alloc | apply pw_below_drewN | apply below_drew1 | refine below_set ?_ GE101.out | refine below_set ?_ GE102.out) | exact HB.out)⟩

/-! ### spec_juFloor: function 25 -/
def spec_juFloor.f (a0 : Int) (a1 : Int) : Option (Int) := if a1 = 0 then (none) else (if (Int.tmod a0 a1) < 0 then (some (wrap64 ((wrap64 (Int.tdiv a0 a1)) - 1))) else (some (wrap64 (Int.tdiv a0 a1))))
set_option maxHeartbeats 8000000 in
set_option maxRecDepth 100000 in
theorem spec_juFloor.calls (a0 : Int) (a1 : Int) (r : Int) (w : World) (h : spec_juFloor.f a0 a1 = some r) :
    Calls Try.prog 25 #[.int .i64 a0, .int .i64 a1] w fun e w' => e = .returned (.int .i64 r) ∧ Drawn0 w w' := by
  have H : (if a1 = 0 then (none) else (if (Int.tmod a0 a1) < 0 then (some (wrap64 ((wrap64 (Int.tdiv a0 a1)) - 1))) else (some (wrap64 (Int.tdiv a0 a1))))) = some r := h
  clear h
  by_cases c3 : a1 = 0
  · rw [if_pos c3] at H
    exact absurd H (by simp)
  · rw [if_neg c3] at H
    have c3b0 : (a1 == 0) = false := beq_eq_false_iff_ne.mpr c3
    have c3b1 : (a1 != 0) = true := bne_iff_ne.mpr c3
    by_cases c4 : (Int.tmod a0 a1) < 0
    · rw [if_pos c4] at H
      have c4b0 : decide ((Int.tmod a0 a1) < 0) = true := decide_eq_true c4
      clear c4
      obtain rfl := Option.some.inj H
      go_enter Try.func25, Try.ntmps25
      go_wp2
      go_ret
      exact ⟨by first | rfl | (simp; done) | (simp [*]; done), by repeat (first | exact Drawn0.refl _ | apply Drawn0.step)⟩
    · rw [if_neg c4] at H
      have c4b0 : decide ((Int.tmod a0 a1) < 0) = false := decide_eq_false c4
      clear c4
      obtain rfl := Option.some.inj H
      go_enter Try.func25, Try.ntmps25
      go_wp2
      go_ret
      exact ⟨by first | rfl | (simp; done) | (simp [*]; done), by repeat (first | exact Drawn0.refl _ | apply Drawn0.step)⟩

/-! ### spec_JuDay: function 27 -/
def spec_JuDay.f (a0 : Int) (a1 : Int) (a2 : Int) (a3 : Bool) : Option (Int) := (spec_juFloor.f (wrap64 ((wrap64 (a0 + 4800)) - (wrap64 (Int.tdiv (wrap64 (14 - a1)) 12)))) 4).bind fun t103 => (if a3 = true then ((spec_juFloor.f (wrap64 ((wrap64 (a0 + 4800)) - (wrap64 (Int.tdiv (wrap64 (14 - a1)) 12)))) 100).bind fun t104 => ((spec_juFloor.f (wrap64 ((wrap64 (a0 + 4800)) - (wrap64 (Int.tdiv (wrap64 (14 - a1)) 12)))) 400).bind fun t105 => (some (wrap64 ((wrap64 ((wrap64 ((wrap64 ((wrap64 ((wrap64 (a2 + (wrap64 (Int.tdiv (wrap64 ((wrap64 (153 * (wrap64 ((wrap64 (a1 + (wrap64 (12 * (wrap64 (Int.tdiv (wrap64 (14 - a1)) 12)))))) - 3)))) + 2)) 5)))) + (wrap64 (365 * (wrap64 ((wrap64 (a0 + 4800)) - (wrap64 (Int.tdiv (wrap64 (14 - a1)) 12)))))))) + t103)) - t104)) + t105)) - 32045))))) else (some (wrap64 ((wrap64 ((wrap64 ((wrap64 (a2 + (wrap64 (Int.tdiv (wrap64 ((wrap64 (153 * (wrap64 ((wrap64 (a1 + (wrap64 (12 * (wrap64 (Int.tdiv (wrap64 (14 - a1)) 12)))))) - 3)))) + 2)) 5)))) + (wrap64 (365 * (wrap64 ((wrap64 (a0 + 4800)) - (wrap64 (Int.tdiv (wrap64 (14 - a1)) 12)))))))) + t103)) - 32083))))
set_option maxHeartbeats 8000000 in
set_option maxRecDepth 100000 in
theorem spec_JuDay.calls (a0 : Int) (a1 : Int) (a2 : Int) (a3 : Bool) (r : Int) (w : World) (h : spec_JuDay.f a0 a1 a2 a3 = some r) :
    Calls Try.prog 27 #[.int .i64 a0, .int .i64 a1, .int .i64 a2, .bool a3] w fun e w' => e = .returned (.int .i64 r) ∧ Drawn0 w w' := by
  have H : ((spec_juFloor.f (wrap64 ((wrap64 (a0 + 4800)) - (wrap64 (Int.tdiv (wrap64 (14 - a1)) 12)))) 4).bind fun t103 => (if a3 = true then ((spec_juFloor.f (wrap64 ((wrap64 (a0 + 4800)) - (wrap64 (Int.tdiv (wrap64 (14 - a1)) 12)))) 100).bind fun t104 => ((spec_juFloor.f (wrap64 ((wrap64 (a0 + 4800)) - (wrap64 (Int.tdiv (wrap64 (14 - a1)) 12)))) 400).bind fun t105 => (some (wrap64 ((wrap64 ((wrap64 ((wrap64 ((wrap64 ((wrap64 (a2 + (wrap64 (Int.tdiv (wrap64 ((wrap64 (153 * (wrap64 ((wrap64 (a1 + (wrap64 (12 * (wrap64 (Int.tdiv (wrap64 (14 - a1)) 12)))))) - 3)))) + 2)) 5)))) + (wrap64 (365 * (wrap64 ((wrap64 (a0 + 4800)) - (wrap64 (Int.tdiv (wrap64 (14 - a1)) 12)))))))) + t103)) - t104)) + t105)) - 32045))))) else (some (wrap64 ((wrap64 ((wrap64 ((wrap64 (a2 + (wrap64 (Int.tdiv (wrap64 ((wrap64 (153 * (wrap64 ((wrap64 (a1 + (wrap64 (12 * (wrap64 (Int.tdiv (wrap64 (14 - a1)) 12)))))) - 3)))) + 2)) 5)))) + (wrap64 (365 * (wrap64 ((wrap64 (a0 + 4800)) - (wrap64 (Int.tdiv (wrap64 (14 - a1)) 12)))))))) + t103)) - 32083))))) = some r := h
  clear h
  replace H := Option.bind_eq_some_iff.mp H
  obtain ⟨t103, A50, H⟩ := H
  replace H : (if a3 = true then ((spec_juFloor.f (wrap64 ((wrap64 (a0 + 4800)) - (wrap64 (Int.tdiv (wrap64 (14 - a1)) 12)))) 100).bind fun t104 => ((spec_juFloor.f (wrap64 ((wrap64 (a0 + 4800)) - (wrap64 (Int.tdiv (wrap64 (14 - a1)) 12)))) 400).bind fun t105 => (some (wrap64 ((wrap64 ((wrap64 ((wrap64 ((wrap64 ((wrap64 (a2 + (wrap64 (Int.tdiv (wrap64 ((wrap64 (153 * (wrap64 ((wrap64 (a1 + (wrap64 (12 * (wrap64 (Int.tdiv (wrap64 (14 - a1)) 12)))))) - 3)))) + 2)) 5)))) + (wrap64 (365 * (wrap64 ((wrap64 (a0 + 4800)) - (wrap64 (Int.tdiv (wrap64 (14 - a1)) 12)))))))) + t103)) - t104)) + t105)) - 32045))))) else (some (wrap64 ((wrap64 ((wrap64 ((wrap64 (a2 + (wrap64 (Int.tdiv (wrap64 ((wrap64 (153 * (wrap64 ((wrap64 (a1 + (wrap64 (12 * (wrap64 (Int.tdiv (wrap64 (14 - a1)) 12)))))) - 3)))) + 2)) 5)))) + (wrap64 (365 * (wrap64 ((wrap64 (a0 + 4800)) - (wrap64 (Int.tdiv (wrap64 (14 - a1)) 12)))))))) + t103)) - 32083)))) = some r := H
  have A5 := Aside0.mk A50
  clear A50
  by_cases c6 : a3 = true
  · subst c6
    have H1 : ((spec_juFloor.f (wrap64 ((wrap64 (a0 + 4800)) - (wrap64 (Int.tdiv (wrap64 (14 - a1)) 12)))) 100).bind fun t104 => ((spec_juFloor.f (wrap64 ((wrap64 (a0 + 4800)) - (wrap64 (Int.tdiv (wrap64 (14 - a1)) 12)))) 400).bind fun t105 => (some (wrap64 ((wrap64 ((wrap64 ((wrap64 ((wrap64 ((wrap64 (a2 + (wrap64 (Int.tdiv (wrap64 ((wrap64 (153 * (wrap64 ((wrap64 (a1 + (wrap64 (12 * (wrap64 (Int.tdiv (wrap64 (14 - a1)) 12)))))) - 3)))) + 2)) 5)))) + (wrap64 (365 * (wrap64 ((wrap64 (a0 + 4800)) - (wrap64 (Int.tdiv (wrap64 (14 - a1)) 12)))))))) + t103)) - t104)) + t105)) - 32045))))) = some r := by rw [if_pos rfl] at H; exact H
    clear H
    have H := H1
    clear H1
    replace H := Option.bind_eq_some_iff.mp H
    obtain ⟨t104, A70, H⟩ := H
    replace H : ((spec_juFloor.f (wrap64 ((wrap64 (a0 + 4800)) - (wrap64 (Int.tdiv (wrap64 (14 - a1)) 12)))) 400).bind fun t105 => (some (wrap64 ((wrap64 ((wrap64 ((wrap64 ((wrap64 ((wrap64 (a2 + (wrap64 (Int.tdiv (wrap64 ((wrap64 (153 * (wrap64 ((wrap64 (a1 + (wrap64 (12 * (wrap64 (Int.tdiv (wrap64 (14 - a1)) 12)))))) - 3)))) + 2)) 5)))) + (wrap64 (365 * (wrap64 ((wrap64 (a0 + 4800)) - (wrap64 (Int.tdiv (wrap64 (14 - a1)) 12)))))))) + t103)) - t104)) + t105)) - 32045)))) = some r := H
    have A7 := Aside0.mk A70
    clear A70
    replace H := Option.bind_eq_some_iff.mp H
    obtain ⟨t105, A80, H⟩ := H
    replace H : (some (wrap64 ((wrap64 ((wrap64 ((wrap64 ((wrap64 ((wrap64 (a2 + (wrap64 (Int.tdiv (wrap64 ((wrap64 (153 * (wrap64 ((wrap64 (a1 + (wrap64 (12 * (wrap64 (Int.tdiv (wrap64 (14 - a1)) 12)))))) - 3)))) + 2)) 5)))) + (wrap64 (365 * (wrap64 ((wrap64 (a0 + 4800)) - (wrap64 (Int.tdiv (wrap64 (14 - a1)) 12)))))))) + t103)) - t104)) + t105)) - 32045))) = some r := H
    have A8 := Aside0.mk A80
    clear A80
    obtain rfl := Option.some.inj H
    go_enter Try.func27, Try.ntmps27
    go_wp2_with (first | ((with_reducible refine gate_callee (f := 25) rfl ?_); refine goesL_ (some 35) rfl rfl Try.func25 (by kernel_rfl) rfl #[.int .i64 (wrap64 ((wrap64 (a0 + 4800)) - (wrap64 (Int.tdiv (wrap64 (14 - a1)) 12)))), .int .i64 4] rfl (by (try simp only [List.map_toArray, List.map_cons, List.map_nil]); first | done | rfl | (simp only [List.length_drop, List.length_take]; rfl)) ?_; (with_reducible refine (spec_juFloor.calls (wrap64 ((wrap64 (a0 + 4800)) - (wrap64 (Int.tdiv (wrap64 (14 - a1)) 12)))) 4 t103 _ A5.out).mono ?_); rintro e w' ⟨rfl, ⟨nd, rfl⟩⟩; refine ⟨_, rfl, ?_⟩) | ((with_reducible refine gate_callee (f := 25) rfl ?_); refine goesL_ (some 40) rfl rfl Try.func25 (by kernel_rfl) rfl #[.int .i64 (wrap64 ((wrap64 (a0 + 4800)) - (wrap64 (Int.tdiv (wrap64 (14 - a1)) 12)))), .int .i64 100] rfl (by (try simp only [List.map_toArray, List.map_cons, List.map_nil]); first | done | rfl | (simp only [List.length_drop, List.length_take]; rfl)) ?_; (with_reducible refine (spec_juFloor.calls (wrap64 ((wrap64 (a0 + 4800)) - (wrap64 (Int.tdiv (wrap64 (14 - a1)) 12)))) 100 t104 _ A7.out).mono ?_); rintro e w' ⟨rfl, ⟨nd, rfl⟩⟩; refine ⟨_, rfl, ?_⟩) | ((with_reducible refine gate_callee (f := 25) rfl ?_); refine goesL_ (some 43) rfl rfl Try.func25 (by kernel_rfl) rfl #[.int .i64 (wrap64 ((wrap64 (a0 + 4800)) - (wrap64 (Int.tdiv (wrap64 (14 - a1)) 12)))), .int .i64 400] rfl (by (try simp only [List.map_toArray, List.map_cons, List.map_nil]); first | done | rfl | (simp only [List.length_drop, List.length_take]; rfl)) ?_; (with_reducible refine (spec_juFloor.calls (wrap64 ((wrap64 (a0 + 4800)) - (wrap64 (Int.tdiv (wrap64 (14 - a1)) 12)))) 400 t105 _ A8.out).mono ?_); rintro e w' ⟨rfl, ⟨nd, rfl⟩⟩; refine ⟨_, rfl, ?_⟩))
    go_ret
    exact ⟨by first | rfl | (simp; done) | (simp [*]; done), by repeat (first | exact Drawn0.refl _ | apply Drawn0.step)⟩
  · replace c6 := Bool.eq_false_iff.mpr c6
    subst c6
    have H1 : (some (wrap64 ((wrap64 ((wrap64 ((wrap64 (a2 + (wrap64 (Int.tdiv (wrap64 ((wrap64 (153 * (wrap64 ((wrap64 (a1 + (wrap64 (12 * (wrap64 (Int.tdiv (wrap64 (14 - a1)) 12)))))) - 3)))) + 2)) 5)))) + (wrap64 (365 * (wrap64 ((wrap64 (a0 + 4800)) - (wrap64 (Int.tdiv (wrap64 (14 - a1)) 12)))))))) + t103)) - 32083))) = some r := by rw [if_neg (show ¬ (false = true) by decide)] at H; exact H
    clear H
    have H := H1
    clear H1
    obtain rfl := Option.some.inj H
    go_enter Try.func27, Try.ntmps27
    go_wp2_with (first | ((with_reducible refine gate_callee (f := 25) rfl ?_); refine goesL_ (some 35) rfl rfl Try.func25 (by kernel_rfl) rfl #[.int .i64 (wrap64 ((wrap64 (a0 + 4800)) - (wrap64 (Int.tdiv (wrap64 (14 - a1)) 12)))), .int .i64 4] rfl (by (try simp only [List.map_toArray, List.map_cons, List.map_nil]); first | done | rfl | (simp only [List.length_drop, List.length_take]; rfl)) ?_; (with_reducible refine (spec_juFloor.calls (wrap64 ((wrap64 (a0 + 4800)) - (wrap64 (Int.tdiv (wrap64 (14 - a1)) 12)))) 4 t103 _ A5.out).mono ?_); rintro e w' ⟨rfl, ⟨nd, rfl⟩⟩; refine ⟨_, rfl, ?_⟩))
    go_ret
    exact ⟨by first | rfl | (simp; done) | (simp [*]; done), by repeat (first | exact Drawn0.refl _ | apply Drawn0.step)⟩

/-! ### spec_JuDate: function 26 -/
mutual
def spec_JuDate.l0 : Nat → Int → Bool → Int → Option (Int × Int × Int)
  | 0, _, _, _ => none
  | k + 1, x0, x1, x4 => (spec_JuDay.f (wrap64 (x4 + 1)) 1 1 x1).bind fun t107 => (if t107 ≤ x0 then (spec_JuDate.l0 k x0 x1 (wrap64 (x4 + 1))) else (spec_JuDate.l1 k x0 x1 x4 1))
def spec_JuDate.l1 : Nat → Int → Bool → Int → Int → Option (Int × Int × Int)
  | 0, _, _, _, _ => none
  | k + 1, x0, x1, x4, x5 => if x5 < 12 then ((spec_JuDay.f x4 (wrap64 (x5 + 1)) 1 x1).bind fun t108 => (if t108 ≤ x0 then (spec_JuDate.l1 k x0 x1 x4 (wrap64 (x5 + 1))) else ((spec_JuDay.f x4 x5 1 x1).bind fun t109 => (some (x4, x5, wrap64 ((wrap64 (x0 - t109)) + 1)))))) else ((spec_JuDay.f x4 x5 1 x1).bind fun t110 => (some (x4, x5, wrap64 ((wrap64 (x0 - t110)) + 1))))
end
def spec_JuDate.f (k : Nat) (a0 : Int) (a1 : Bool) : Option (Int × Int × Int) := (spec_juFloor.f (wrap64 (a0 - 1721060)) 366).bind fun t106 => (spec_JuDate.l0 k a0 a1 (wrap64 (t106 - 30)))
theorem spec_JuDate.mono_l : ∀ k, (∀ y0 y1 y2, LeO (spec_JuDate.l0 k y0 y1 y2) (spec_JuDate.l0 (k + 1) y0 y1 y2)) ∧ (∀ y0 y1 y2 y3, LeO (spec_JuDate.l1 k y0 y1 y2 y3) (spec_JuDate.l1 (k + 1) y0 y1 y2 y3))
  | 0 => ⟨fun _ _ _ r h => by simp [spec_JuDate.l0] at h, fun _ _ _ _ r h => by simp [spec_JuDate.l1] at h⟩
  | k + 1 => by
    obtain ⟨ih0, ih1⟩ := spec_JuDate.mono_l k
    refine ⟨?_, ?_⟩
    · intro y0 y1 y2
      unfold spec_JuDate.l0
      repeat' first
      | (with_reducible exact ih0 _ _ _)
      | (with_reducible exact ih1 _ _ _ _)
      | (with_reducible exact LeO.refl _)
      | (with_reducible exact LeO.none _)
      | (with_reducible refine LeO.ite ?_ ?_)
      | (with_reducible refine LeO.bind ?_ (fun _ => ?_))
      | exact ih0 _ _ _
      | exact ih1 _ _ _ _
      | exact LeO.none _
      | refine LeO.ite ?_ ?_
      | refine LeO.bind ?_ (fun _ => ?_)
    · intro y0 y1 y2 y3
      unfold spec_JuDate.l1
      repeat' first
      | (with_reducible exact ih0 _ _ _)
      | (with_reducible exact ih1 _ _ _ _)
      | (with_reducible exact LeO.refl _)
      | (with_reducible exact LeO.none _)
      | (with_reducible refine LeO.ite ?_ ?_)
      | (with_reducible refine LeO.bind ?_ (fun _ => ?_))
      | exact ih0 _ _ _
      | exact ih1 _ _ _ _
      | exact LeO.none _
      | refine LeO.ite ?_ ?_
      | refine LeO.bind ?_ (fun _ => ?_)
theorem spec_JuDate.mono : ∀ a0 a1 k, LeO (spec_JuDate.f k a0 a1) (spec_JuDate.f (k + 1) a0 a1) := by
  intro a0 a1 k
  obtain ⟨ih0, ih1⟩ := spec_JuDate.mono_l k
  unfold spec_JuDate.f
  repeat' first
      | (with_reducible exact ih0 _ _ _)
      | (with_reducible exact ih1 _ _ _ _)
      | (with_reducible exact LeO.refl _)
      | (with_reducible exact LeO.none _)
      | (with_reducible refine LeO.ite ?_ ?_)
      | (with_reducible refine LeO.bind ?_ (fun _ => ?_))
      | exact ih0 _ _ _
      | exact ih1 _ _ _ _
      | exact LeO.none _
      | refine LeO.ite ?_ ?_
      | refine LeO.bind ?_ (fun _ => ?_)
set_option maxHeartbeats 8000000 in
set_option maxRecDepth 100000 in
theorem spec_JuDate.calls (k : Nat) (a0 : Int) (a1 : Bool) (r1 : Int) (r2 : Int) (r3 : Int) (w : World) (h : spec_JuDate.f k a0 a1 = some (r1, r2, r3)) :
    Calls Try.prog 26 #[.int .i64 a0, .bool a1] w fun e w' => e = .returned (.tuple #[.int .i64 r1, .int .i64 r2, .int .i64 r3]) ∧ Drawn0 w w' := by
  have H : ((spec_juFloor.f (wrap64 (a0 - 1721060)) 366).bind fun t106 => (spec_JuDate.l0 k a0 a1 (wrap64 (t106 - 30)))) = some (r1, r2, r3) := h
  clear h
  replace H := Option.bind_eq_some_iff.mp H
  obtain ⟨t106, A30, H⟩ := H
  replace H : (spec_JuDate.l0 k a0 a1 (wrap64 (t106 - 30))) = some (r1, r2, r3) := H
  have A3 := Aside0.mk A30
  clear A30
  have H' := Aside0.mk H
  clear H
  go_enter Try.func26, Try.ntmps26
  go_wp2_with (first | ((with_reducible refine gate_callee (f := 25) rfl ?_); refine goesL_ (some 9) rfl rfl Try.func25 (by kernel_rfl) rfl #[.int .i64 (wrap64 (a0 - 1721060)), .int .i64 366] rfl (by (try simp only [List.map_toArray, List.map_cons, List.map_nil]); first | done | rfl | (simp only [List.length_drop, List.length_take]; rfl)) ?_; (with_reducible refine (spec_juFloor.calls (wrap64 (a0 - 1721060)) 366 t106 _ A3.out).mono ?_); rintro e w' ⟨rfl, ⟨nd, rfl⟩⟩; refine ⟨_, rfl, ?_⟩))
  go_loopg [4] k (fun kq v4 w' => ∃ (x4_1 : Int), v4 = .int .i64 x4_1 ∧ Aside0 (spec_JuDate.l0 kq a0 a1 x4_1 = some (r1, r2, r3)) ∧ Aside0 (kq ≤ k) ∧ Drawn0 w w')
  case atStart => exact ⟨(wrap64 (t106 - 30)), (by first | rfl | (simp; done) | (simp [*]; done)), H', ⟨Nat.le_refl _⟩, by repeat (first | exact Drawn0.refl _ | apply Drawn0.step)⟩
  case round =>
    clear H'
    try clear c2
    try clear p2
    obtain ⟨x4_1, rfl, HA, HK1, ⟨m1, rfl⟩⟩ := hrel
    cases gk with
    | zero => exact absurd HA.out (by simp [spec_JuDate.l0])
    | succ k1 =>
      have H := HA.out
      clear HA
      simp only [spec_JuDate.l0] at H
      replace H := Option.bind_eq_some_iff.mp H
      obtain ⟨t107, A40, H⟩ := H
      replace H : (if t107 ≤ a0 then (spec_JuDate.l0 k1 a0 a1 (wrap64 (x4_1 + 1))) else (spec_JuDate.l1 k1 a0 a1 x4_1 1)) = some (r1, r2, r3) := H
      have A4 := Aside0.mk A40
      clear A40
      by_cases c5 : t107 ≤ a0
      · rw [if_pos c5] at H
        have c5b0 : decide (t107 ≤ a0) = true := decide_eq_true c5
        clear c5
        have H' := Aside0.mk H
        clear H
        go_wp2_with (first | ((with_reducible refine gate_callee (f := 27) rfl ?_); refine goesL_ (some 14) rfl rfl Try.func27 (by kernel_rfl) rfl #[.int .i64 (wrap64 (x4_1 + 1)), .int .i64 1, .int .i64 1, .bool a1] rfl (by (try simp only [List.map_toArray, List.map_cons, List.map_nil]); first | done | rfl | (simp only [List.length_drop, List.length_take]; rfl)) ?_; (with_reducible refine (spec_JuDay.calls (wrap64 (x4_1 + 1)) 1 1 a1 t107 _ A4.out).mono ?_); rintro e w' ⟨rfl, ⟨nd, rfl⟩⟩; refine ⟨_, rfl, ?_⟩))
        go_roundg k1
        case measure => have := HK1.out; omega
        case rel => exact ⟨(wrap64 (x4_1 + 1)), (by first | rfl | (simp; done) | (simp [*]; done)), H', ⟨by have := HK1.out; omega⟩, by repeat (first | exact Drawn0.refl _ | apply Drawn0.step)⟩
      · rw [if_neg c5] at H
        have c5b0 : decide (t107 ≤ a0) = false := decide_eq_false c5
        clear c5
        have H' := Aside0.mk H
        clear H
        go_wp2_with (first | ((with_reducible refine gate_callee (f := 27) rfl ?_); refine goesL_ (some 14) rfl rfl Try.func27 (by kernel_rfl) rfl #[.int .i64 (wrap64 (x4_1 + 1)), .int .i64 1, .int .i64 1, .bool a1] rfl (by (try simp only [List.map_toArray, List.map_cons, List.map_nil]); first | done | rfl | (simp only [List.length_drop, List.length_take]; rfl)) ?_; (with_reducible refine (spec_JuDay.calls (wrap64 (x4_1 + 1)) 1 1 a1 t107 _ A4.out).mono ?_); rintro e w' ⟨rfl, ⟨nd, rfl⟩⟩; refine ⟨_, rfl, ?_⟩))
        go_loopg [5] k1 (fun kq v5 w' => ∃ (x5_2 : Int), v5 = .int .i64 x5_2 ∧ Aside0 (spec_JuDate.l1 kq a0 a1 x4_1 x5_2 = some (r1, r2, r3)) ∧ Aside0 (kq ≤ k1) ∧ Drawn0 w w')
        case atStart => exact ⟨(1), (by first | rfl | (simp; done) | (simp [*]; done)), H', ⟨Nat.le_refl _⟩, by repeat (first | exact Drawn0.refl _ | apply Drawn0.step)⟩
        case round =>
          clear H'
          try clear c2
          try clear p2
          try clear c5
          try clear c5b0
          try clear p2
          obtain ⟨x5_2, rfl, HA, HK2, ⟨m2, rfl⟩⟩ := hrel
          cases gk with
          | zero => exact absurd HA.out (by simp [spec_JuDate.l1])
          | succ k2 =>
            have H := HA.out
            clear HA
            simp only [spec_JuDate.l1] at H
            by_cases c6 : x5_2 < 12
            · rw [if_pos c6] at H
              have c6b0 : decide (x5_2 < 12) = true := decide_eq_true c6
              clear c6
              replace H := Option.bind_eq_some_iff.mp H
              obtain ⟨t108, A70, H⟩ := H
              replace H : (if t108 ≤ a0 then (spec_JuDate.l1 k2 a0 a1 x4_1 (wrap64 (x5_2 + 1))) else ((spec_JuDay.f x4_1 x5_2 1 a1).bind fun t109 => (some (x4_1, x5_2, wrap64 ((wrap64 (a0 - t109)) + 1))))) = some (r1, r2, r3) := H
              have A7 := Aside0.mk A70
              clear A70
              by_cases c8 : t108 ≤ a0
              · rw [if_pos c8] at H
                have c8b0 : decide (t108 ≤ a0) = true := decide_eq_true c8
                clear c8
                have H' := Aside0.mk H
                clear H
                go_wp2_with (first | (go_at_call 27; (with_reducible refine (spec_JuDay.calls x4_1 (wrap64 (x5_2 + 1)) 1 a1 t108 _ A7.out).mono ?_); rintro e w' ⟨rfl, ⟨nd, rfl⟩⟩))
                go_roundg k2
                case measure => have := HK1.out; have := HK2.out; omega
                case rel => exact ⟨(wrap64 (x5_2 + 1)), (by first | rfl | (simp; done) | (simp [*]; done)), H', ⟨by have := HK1.out; have := HK2.out; omega⟩, by repeat (first | exact Drawn0.refl _ | apply Drawn0.step)⟩
              · rw [if_neg c8] at H
                have c8b0 : decide (t108 ≤ a0) = false := decide_eq_false c8
                clear c8
                replace H := Option.bind_eq_some_iff.mp H
                obtain ⟨t109, A90, H⟩ := H
                replace H : (some (x4_1, x5_2, wrap64 ((wrap64 (a0 - t109)) + 1))) = some (r1, r2, r3) := H
                have A9 := Aside0.mk A90
                clear A90
                simp only [Option.some.injEq, Prod.mk.injEq] at H
                obtain ⟨rfl, rfl, rfl⟩ := H
                go_wp2_with (first | (go_at_call 27; (with_reducible refine (spec_JuDay.calls x4_1 (wrap64 (x5_2 + 1)) 1 a1 t108 _ A7.out).mono ?_); rintro e w' ⟨rfl, ⟨nd, rfl⟩⟩) | ((with_reducible refine gate_callee (f := 27) rfl ?_); refine goesL_ (some 38) rfl rfl Try.func27 (by kernel_rfl) rfl #[.int .i64 x4_1, .int .i64 x5_2, .int .i64 1, .bool a1] rfl (by (try simp only [List.map_toArray, List.map_cons, List.map_nil]); first | done | rfl | (simp only [List.length_drop, List.length_take]; rfl)) ?_; (with_reducible refine (spec_JuDay.calls x4_1 x5_2 1 a1 t109 _ A9.out).mono ?_); rintro e w' ⟨rfl, ⟨nd, rfl⟩⟩; refine ⟨_, rfl, ?_⟩))
                go_ret3
                exact ⟨by first | rfl | (simp; done) | (simp [*]; done), by repeat (first | exact Drawn0.refl _ | apply Drawn0.step)⟩
            · rw [if_neg c6] at H
              have c6b0 : decide (x5_2 < 12) = false := decide_eq_false c6
              clear c6
              replace H := Option.bind_eq_some_iff.mp H
              obtain ⟨t110, A100, H⟩ := H
              replace H : (some (x4_1, x5_2, wrap64 ((wrap64 (a0 - t110)) + 1))) = some (r1, r2, r3) := H
              have A10 := Aside0.mk A100
              clear A100
              simp only [Option.some.injEq, Prod.mk.injEq] at H
              obtain ⟨rfl, rfl, rfl⟩ := H
              go_wp2_with (first | ((with_reducible refine gate_callee (f := 27) rfl ?_); refine goesL_ (some 38) rfl rfl Try.func27 (by kernel_rfl) rfl #[.int .i64 x4_1, .int .i64 x5_2, .int .i64 1, .bool a1] rfl (by (try simp only [List.map_toArray, List.map_cons, List.map_nil]); first | done | rfl | (simp only [List.length_drop, List.length_take]; rfl)) ?_; (with_reducible refine (spec_JuDay.calls x4_1 x5_2 1 a1 t110 _ A10.out).mono ?_); rintro e w' ⟨rfl, ⟨nd, rfl⟩⟩; refine ⟨_, rfl, ?_⟩))
              go_ret3
              exact ⟨by first | rfl | (simp; done) | (simp [*]; done), by repeat (first | exact Drawn0.refl _ | apply Drawn0.step)⟩

end Go.Proofs.Ytbblgpgjgkmcbaa.PJro
