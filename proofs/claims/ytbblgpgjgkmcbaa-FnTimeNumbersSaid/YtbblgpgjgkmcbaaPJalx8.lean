/- Written by a program (print.py, called by prints.sh) for this claim: Go functions as plain Lean functions, and that the code comes to their answers. -/
import Derived.Test.YtbblgpgjgkmcbaaPJalx0
import Derived.Test.YtbblgpgjgkmcbaaPJalx2
import Derived.Test.YtbblgpgjgkmcbaaPJalx4
import Derived.Test.YtbblgpgjgkmcbaaPJalx5
import Derived.Test.YtbblgpgjgkmcbaaPJalx6
import Derived.Test.YtbblgpgjgkmcbaaPJalx7
namespace Go.Proofs.Ytbblgpgjgkmcbaa.PJal
open Go.RowKit Go.Proofs.YtbblgpgjgkmcbaaW.PrintWords Go.Proofs.YtbblgpgjgkmcbaaW.PrintLast Go.Proofs.YtbblgpgjgkmcbaaW.PrintMore
attribute [local go_sem] max2_int min2_int max_two min_two max_three min_three max_four min_four   -- for this text's walks alone
set_option linter.unusedVariables false
set_option linter.unusedSimpArgs false

/-! ### laws_FnTimeNumbers: function 6 -/
def laws_FnTimeNumbers.f (k : Nat) (a0_0 : Int) (a0_1 : Int) (a0_2 : Int) (a0_3 : Int) (a0_4 : Int) (a0_5 : Int) (a0_6 : Int) : Option (Bool) := (laws_juTime.f a0_0 a0_1 a0_2 a0_3 a0_4 a0_5 a0_6).bind fun bt332 => ((spec_JuMade.f k bt332.1 bt332.2.1 bt332.2.2.1 bt332.2.2.2.1 bt332.2.2.2.2.1 bt332.2.2.2.2.2.1 bt332.2.2.2.2.2.2).bind fun bt339 => ((spec_JuDayOf.f k bt339.1 bt339.2.1 bt339.2.2.1 bt339.2.2.2.1 bt339.2.2.2.2.1 bt339.2.2.2.2.2.1 bt339.2.2.2.2.2.2).bind fun t346 => ((spec_JuSeconds.f bt339.1 bt339.2.1 bt339.2.2.1 bt339.2.2.2.1 bt339.2.2.2.2.1 bt339.2.2.2.2.2.1 bt339.2.2.2.2.2.2).bind fun t347 => ((impl_TimeNumbers.f k bt339.1 bt339.2.1 bt339.2.2.1 bt339.2.2.2.1 bt339.2.2.2.2.1 bt339.2.2.2.2.2.1 bt339.2.2.2.2.2.2).bind fun bt348 => (if bt348.2.2.2.2 = 0 then (if bt348.1 = (wrap64 ((wrap64 ((wrap64 ((wrap64 ((wrap64 ((wrap64 (t346 - 1721424)) * 86400)) + t347)) * 10000000)) + (wrap64 (Int.tdiv bt339.2.2.2.2.2.2 100)))) + 1)) then (if bt348.2.1 = (wrap64 ((wrap64 ((wrap64 ((wrap64 (t346 - 1721424)) * 86400)) + t347)) + 1)) then (if bt348.2.2.1 = (wrap64 ((wrap64 (t346 - 1721424)) + 1)) then (some (bt348.2.2.2.1 == (wrap64 (t347 + 1)))) else (some false)) else (some false)) else (some false)) else (some false))))))
theorem laws_FnTimeNumbers.mono : ∀ a0 a1 a2 a3 a4 a5 a6 k, LeO (laws_FnTimeNumbers.f k a0 a1 a2 a3 a4 a5 a6) (laws_FnTimeNumbers.f (k + 1) a0 a1 a2 a3 a4 a5 a6) := by
  intro a0 a1 a2 a3 a4 a5 a6 k
  unfold laws_FnTimeNumbers.f
  repeat' first
      | (with_reducible exact impl_TimeNumbers.mono _ _ _ _ _ _ _ _)
      | (with_reducible exact spec_JuDayOf.mono _ _ _ _ _ _ _ _)
      | (with_reducible exact spec_JuMade.mono _ _ _ _ _ _ _ _)
      | (with_reducible exact LeO.refl _)
      | (with_reducible exact LeO.none _)
      | (with_reducible refine LeO.ite ?_ ?_)
      | (with_reducible refine LeO.bind ?_ (fun _ => ?_))
      | exact impl_TimeNumbers.mono _ _ _ _ _ _ _ _
      | exact spec_JuDayOf.mono _ _ _ _ _ _ _ _
      | exact spec_JuMade.mono _ _ _ _ _ _ _ _
      | exact LeO.none _
      | refine LeO.ite ?_ ?_
      | refine LeO.bind ?_ (fun _ => ?_)
set_option maxHeartbeats 8000000 in
set_option maxRecDepth 100000 in
theorem laws_FnTimeNumbers.calls (k : Nat) (a0_0 : Int) (a0_1 : Int) (a0_2 : Int) (a0_3 : Int) (a0_4 : Int) (a0_5 : Int) (a0_6 : Int) (r : Bool) (w : World) (h : laws_FnTimeNumbers.f k a0_0 a0_1 a0_2 a0_3 a0_4 a0_5 a0_6 = some r) :
    Calls Try.prog 6 #[.agg #[.int .i64 a0_0, .int .i64 a0_1, .int .i64 a0_2, .int .i64 a0_3, .int .i64 a0_4, .int .i64 a0_5, .int .i64 a0_6]] w fun e w' => e = .returned (.bool r) ∧ Below w.heap.size w w' := by
  have hu23 := Try.underlying23
  have HB := Aside0.mk (Below.refl w.heap.size w)
  have H : ((laws_juTime.f a0_0 a0_1 a0_2 a0_3 a0_4 a0_5 a0_6).bind fun bt332 => ((spec_JuMade.f k bt332.1 bt332.2.1 bt332.2.2.1 bt332.2.2.2.1 bt332.2.2.2.2.1 bt332.2.2.2.2.2.1 bt332.2.2.2.2.2.2).bind fun bt339 => ((spec_JuDayOf.f k bt339.1 bt339.2.1 bt339.2.2.1 bt339.2.2.2.1 bt339.2.2.2.2.1 bt339.2.2.2.2.2.1 bt339.2.2.2.2.2.2).bind fun t346 => ((spec_JuSeconds.f bt339.1 bt339.2.1 bt339.2.2.1 bt339.2.2.2.1 bt339.2.2.2.2.1 bt339.2.2.2.2.2.1 bt339.2.2.2.2.2.2).bind fun t347 => ((impl_TimeNumbers.f k bt339.1 bt339.2.1 bt339.2.2.1 bt339.2.2.2.1 bt339.2.2.2.2.1 bt339.2.2.2.2.2.1 bt339.2.2.2.2.2.2).bind fun bt348 => (if bt348.2.2.2.2 = 0 then (if bt348.1 = (wrap64 ((wrap64 ((wrap64 ((wrap64 ((wrap64 ((wrap64 (t346 - 1721424)) * 86400)) + t347)) * 10000000)) + (wrap64 (Int.tdiv bt339.2.2.2.2.2.2 100)))) + 1)) then (if bt348.2.1 = (wrap64 ((wrap64 ((wrap64 ((wrap64 (t346 - 1721424)) * 86400)) + t347)) + 1)) then (if bt348.2.2.1 = (wrap64 ((wrap64 (t346 - 1721424)) + 1)) then (some (bt348.2.2.2.1 == (wrap64 (t347 + 1)))) else (some false)) else (some false)) else (some false)) else (some false))))))) = some r := h
  clear h
  replace H := Option.bind_eq_some_iff.mp H
  obtain ⟨⟨t332, t333, t334, t335, t336, t337, t338⟩, A20, H⟩ := H
  replace H : ((spec_JuMade.f k t332 t333 t334 t335 t336 t337 t338).bind fun bt339 => ((spec_JuDayOf.f k bt339.1 bt339.2.1 bt339.2.2.1 bt339.2.2.2.1 bt339.2.2.2.2.1 bt339.2.2.2.2.2.1 bt339.2.2.2.2.2.2).bind fun t346 => ((spec_JuSeconds.f bt339.1 bt339.2.1 bt339.2.2.1 bt339.2.2.2.1 bt339.2.2.2.2.1 bt339.2.2.2.2.2.1 bt339.2.2.2.2.2.2).bind fun t347 => ((impl_TimeNumbers.f k bt339.1 bt339.2.1 bt339.2.2.1 bt339.2.2.2.1 bt339.2.2.2.2.1 bt339.2.2.2.2.2.1 bt339.2.2.2.2.2.2).bind fun bt348 => (if bt348.2.2.2.2 = 0 then (if bt348.1 = (wrap64 ((wrap64 ((wrap64 ((wrap64 ((wrap64 ((wrap64 (t346 - 1721424)) * 86400)) + t347)) * 10000000)) + (wrap64 (Int.tdiv bt339.2.2.2.2.2.2 100)))) + 1)) then (if bt348.2.1 = (wrap64 ((wrap64 ((wrap64 ((wrap64 (t346 - 1721424)) * 86400)) + t347)) + 1)) then (if bt348.2.2.1 = (wrap64 ((wrap64 (t346 - 1721424)) + 1)) then (some (bt348.2.2.2.1 == (wrap64 (t347 + 1)))) else (some false)) else (some false)) else (some false)) else (some false)))))) = some r := H
  have A2 := Aside0.mk A20
  clear A20
  replace H := Option.bind_eq_some_iff.mp H
  obtain ⟨⟨t339, t340, t341, t342, t343, t344, t345⟩, A30, H⟩ := H
  replace H : ((spec_JuDayOf.f k t339 t340 t341 t342 t343 t344 t345).bind fun t346 => ((spec_JuSeconds.f t339 t340 t341 t342 t343 t344 t345).bind fun t347 => ((impl_TimeNumbers.f k t339 t340 t341 t342 t343 t344 t345).bind fun bt348 => (if bt348.2.2.2.2 = 0 then (if bt348.1 = (wrap64 ((wrap64 ((wrap64 ((wrap64 ((wrap64 ((wrap64 (t346 - 1721424)) * 86400)) + t347)) * 10000000)) + (wrap64 (Int.tdiv t345 100)))) + 1)) then (if bt348.2.1 = (wrap64 ((wrap64 ((wrap64 ((wrap64 (t346 - 1721424)) * 86400)) + t347)) + 1)) then (if bt348.2.2.1 = (wrap64 ((wrap64 (t346 - 1721424)) + 1)) then (some (bt348.2.2.2.1 == (wrap64 (t347 + 1)))) else (some false)) else (some false)) else (some false)) else (some false))))) = some r := H
  have A3 := Aside0.mk A30
  clear A30
  replace H := Option.bind_eq_some_iff.mp H
  obtain ⟨t346, A40, H⟩ := H
  replace H : ((spec_JuSeconds.f t339 t340 t341 t342 t343 t344 t345).bind fun t347 => ((impl_TimeNumbers.f k t339 t340 t341 t342 t343 t344 t345).bind fun bt348 => (if bt348.2.2.2.2 = 0 then (if bt348.1 = (wrap64 ((wrap64 ((wrap64 ((wrap64 ((wrap64 ((wrap64 (t346 - 1721424)) * 86400)) + t347)) * 10000000)) + (wrap64 (Int.tdiv t345 100)))) + 1)) then (if bt348.2.1 = (wrap64 ((wrap64 ((wrap64 ((wrap64 (t346 - 1721424)) * 86400)) + t347)) + 1)) then (if bt348.2.2.1 = (wrap64 ((wrap64 (t346 - 1721424)) + 1)) then (some (bt348.2.2.2.1 == (wrap64 (t347 + 1)))) else (some false)) else (some false)) else (some false)) else (some false)))) = some r := H
  have A4 := Aside0.mk A40
  clear A40
  replace H := Option.bind_eq_some_iff.mp H
  obtain ⟨t347, A50, H⟩ := H
  replace H : ((impl_TimeNumbers.f k t339 t340 t341 t342 t343 t344 t345).bind fun bt348 => (if bt348.2.2.2.2 = 0 then (if bt348.1 = (wrap64 ((wrap64 ((wrap64 ((wrap64 ((wrap64 ((wrap64 (t346 - 1721424)) * 86400)) + t347)) * 10000000)) + (wrap64 (Int.tdiv t345 100)))) + 1)) then (if bt348.2.1 = (wrap64 ((wrap64 ((wrap64 ((wrap64 (t346 - 1721424)) * 86400)) + t347)) + 1)) then (if bt348.2.2.1 = (wrap64 ((wrap64 (t346 - 1721424)) + 1)) then (some (bt348.2.2.2.1 == (wrap64 (t347 + 1)))) else (some false)) else (some false)) else (some false)) else (some false))) = some r := H
  have A5 := Aside0.mk A50
  clear A50
  replace H := Option.bind_eq_some_iff.mp H
  obtain ⟨⟨t348, t349, t350, t351, t352⟩, A60, H⟩ := H
  replace H : (if t352 = 0 then (if t348 = (wrap64 ((wrap64 ((wrap64 ((wrap64 ((wrap64 ((wrap64 (t346 - 1721424)) * 86400)) + t347)) * 10000000)) + (wrap64 (Int.tdiv t345 100)))) + 1)) then (if t349 = (wrap64 ((wrap64 ((wrap64 ((wrap64 (t346 - 1721424)) * 86400)) + t347)) + 1)) then (if t350 = (wrap64 ((wrap64 (t346 - 1721424)) + 1)) then (some (t351 == (wrap64 (t347 + 1)))) else (some false)) else (some false)) else (some false)) else (some false)) = some r := H
  have A6 := Aside0.mk A60
  clear A60
  by_cases c7 : t352 = 0
  · rw [if_pos c7] at H
    have c7b0 : (t352 == 0) = true := beq_iff_eq.mpr c7
    have c7b1 : (t352 != 0) = false := bne_eq_false_iff_eq.mpr c7
    clear c7
    by_cases c8 : t348 = (wrap64 ((wrap64 ((wrap64 ((wrap64 ((wrap64 ((wrap64 (t346 - 1721424)) * 86400)) + t347)) * 10000000)) + (wrap64 (Int.tdiv t345 100)))) + 1))
    · rw [if_pos c8] at H
      have c8b0 : (t348 == (wrap64 ((wrap64 ((wrap64 ((wrap64 ((wrap64 ((wrap64 (t346 - 1721424)) * 86400)) + t347)) * 10000000)) + (wrap64 (Int.tdiv t345 100)))) + 1))) = true := beq_iff_eq.mpr c8
      have c8b1 : (t348 != (wrap64 ((wrap64 ((wrap64 ((wrap64 ((wrap64 ((wrap64 (t346 - 1721424)) * 86400)) + t347)) * 10000000)) + (wrap64 (Int.tdiv t345 100)))) + 1))) = false := bne_eq_false_iff_eq.mpr c8
      clear c8
      by_cases c9 : t349 = (wrap64 ((wrap64 ((wrap64 ((wrap64 (t346 - 1721424)) * 86400)) + t347)) + 1))
      · rw [if_pos c9] at H
        have c9b0 : (t349 == (wrap64 ((wrap64 ((wrap64 ((wrap64 (t346 - 1721424)) * 86400)) + t347)) + 1))) = true := beq_iff_eq.mpr c9
        have c9b1 : (t349 != (wrap64 ((wrap64 ((wrap64 ((wrap64 (t346 - 1721424)) * 86400)) + t347)) + 1))) = false := bne_eq_false_iff_eq.mpr c9
        clear c9
        by_cases c10 : t350 = (wrap64 ((wrap64 (t346 - 1721424)) + 1))
        · rw [if_pos c10] at H
          have c10b0 : (t350 == (wrap64 ((wrap64 (t346 - 1721424)) + 1))) = true := beq_iff_eq.mpr c10
          have c10b1 : (t350 != (wrap64 ((wrap64 (t346 - 1721424)) + 1))) = false := bne_eq_false_iff_eq.mpr c10
          clear c10
          obtain rfl := Option.some.inj H
          go_enter Try.func6, Try.ntmps6
          try go_wp2_with (first | ((with_reducible refine gate_dst (N := 1) rfl ?_); refine box_event ?hg (N := 1) ?hd (cs := #[.int .i64 a0_0, .int .i64 a0_1, .int .i64 a0_2, .int .i64 a0_3, .int .i64 a0_4, .int .i64 a0_5, .int .i64 a0_6]) (t := 23) ?hr ?_; (case hd => rfl); (case hg => rfl); (case hr => first | (go_simp; done) | (go_simp; rfl)); intro gb331 hg w11 hbox hb; have n0_ := Aside0.mk (below_step (by repeat (first | (with_reducible first | exact HB.out | apply below_alloc | apply pw_below_drewN | apply below_drew1) | exact HB.out)) hb); have n1_ := Aside0.mk (hbox); have n2_ := Aside0.mk ((by rw [hg]; exact (below_size (by repeat (first | (with_reducible first | exact HB.out | apply below_alloc | apply pw_below_drewN | apply below_drew1) | exact HB.out))) : w.heap.size ≤ gb331)); have n3_ := Aside0.mk ((by rw [hg]; exact (below_size (by repeat (first | (with_reducible first | exact HB.out | apply below_alloc | apply pw_below_drewN | apply below_drew1) | exact HB.out))) : w.heap.size ≤ gb331)); clear HB; have HB := n0_; have BK331 := n1_; have GW331 := n2_; have GE331 := n3_; clear n0_ n1_ n2_ n3_; clear hb hbox hg; have hcz12_0 : w11.cell? ⟨gb331, 0, none⟩ = some (.int .i64 a0_0) := (blk_cell BK331.out 0).trans rfl; have hcz12_1 : w11.cell? ⟨gb331, 1, none⟩ = some (.int .i64 a0_1) := (blk_cell BK331.out 1).trans rfl; have hcz12_2 : w11.cell? ⟨gb331, 2, none⟩ = some (.int .i64 a0_2) := (blk_cell BK331.out 2).trans rfl; have hcz12_3 : w11.cell? ⟨gb331, 3, none⟩ = some (.int .i64 a0_3) := (blk_cell BK331.out 3).trans rfl; have hcz12_4 : w11.cell? ⟨gb331, 4, none⟩ = some (.int .i64 a0_4) := (blk_cell BK331.out 4).trans rfl; have hcz12_5 : w11.cell? ⟨gb331, 5, none⟩ = some (.int .i64 a0_5) := (blk_cell BK331.out 5).trans rfl; have hcz12_6 : w11.cell? ⟨gb331, 6, none⟩ = some (.int .i64 a0_6) := (blk_cell BK331.out 6).trans rfl; have hfz12_0 := blk_frozen BK331.out 0; have hfz12_1 := blk_frozen BK331.out 1; have hfz12_2 := blk_frozen BK331.out 2; have hfz12_3 := blk_frozen BK331.out 3; have hfz12_4 := blk_frozen BK331.out 4; have hfz12_5 := blk_frozen BK331.out 5; have hfz12_6 := blk_frozen BK331.out 6) | ((with_reducible refine gate_callee (f := 9) rfl ?_); refine goesL_ (some 11) rfl rfl Try.func9 (by kernel_rfl) rfl #[.agg #[.int .i64 a0_0, .int .i64 a0_1, .int .i64 a0_2, .int .i64 a0_3, .int .i64 a0_4, .int .i64 a0_5, .int .i64 a0_6]] rfl (by (try simp only [List.map_toArray, List.map_cons, List.map_nil]); first | done | rfl | (simp only [List.length_drop, List.length_take]; rfl)) ?_; (with_reducible refine (laws_juTime.calls a0_0 a0_1 a0_2 a0_3 a0_4 a0_5 a0_6 t332 t333 t334 t335 t336 t337 t338 _ A2.out).mono ?_); rintro e w13 ⟨rfl, hb⟩; refine ⟨_, rfl, ?_⟩; have n0_ := Aside0.mk (blk_below (g := gb331) (o := .cells #[.int .i64 a0_0, .int .i64 a0_1, .int .i64 a0_2, .int .i64 a0_3, .int .i64 a0_4, .int .i64 a0_5, .int .i64 a0_6] 23 (0, 0)) (by (with_reducible repeat (first | refine blk_drewN ?_ _ | refine blk_drew ?_ | refine blk_alloc ?_ _)); exact BK331.out) hb); have n1_ := Aside0.mk (below_step (by repeat (first | (with_reducible first | exact HB.out | apply below_alloc | apply pw_below_drewN | apply below_drew1 | refine below_set ?_ GE331.out) | exact HB.out)) hb); clear BK331; clear HB; have BK331 := n0_; have HB := n1_; clear n0_ n1_; (try clear hb); (try clear hb2); (try clear hk); (try clear hi)) | ((with_reducible refine gate_callee (f := 11) rfl ?_); refine goesL_ (some 12) rfl rfl Try.func11 (by kernel_rfl) rfl #[.agg #[.int .i64 t332, .int .i64 t333, .int .i64 t334, .int .i64 t335, .int .i64 t336, .int .i64 t337, .int .i64 t338]] rfl (by (try simp only [List.map_toArray, List.map_cons, List.map_nil]); first | done | rfl | (simp only [List.length_drop, List.length_take]; rfl)) ?_; (with_reducible refine (spec_JuMade.calls k t332 t333 t334 t335 t336 t337 t338 t339 t340 t341 t342 t343 t344 t345 _ A3.out).mono ?_); rintro e w14 ⟨rfl, hb⟩; refine ⟨_, rfl, ?_⟩; have n0_ := Aside0.mk (blk_below (g := gb331) (o := .cells #[.int .i64 a0_0, .int .i64 a0_1, .int .i64 a0_2, .int .i64 a0_3, .int .i64 a0_4, .int .i64 a0_5, .int .i64 a0_6] 23 (0, 0)) (by (with_reducible repeat (first | refine blk_drewN ?_ _ | refine blk_drew ?_ | refine blk_alloc ?_ _)); exact BK331.out) hb); have n1_ := Aside0.mk (below_step (by repeat (first | (with_reducible first | exact HB.out | apply below_alloc | apply pw_below_drewN | apply below_drew1 | refine below_set ?_ GE331.out) | exact HB.out)) hb); clear BK331; clear HB; have BK331 := n0_; have HB := n1_; clear n0_ n1_; (try clear hb); (try clear hb2); (try clear hk); (try clear hi); have hcz15_0 : w14.cell? ⟨gb331, 0, none⟩ = some (.int .i64 a0_0) := (blk_cell BK331.out 0).trans rfl; have hcz15_1 : w14.cell? ⟨gb331, 1, none⟩ = some (.int .i64 a0_1) := (blk_cell BK331.out 1).trans rfl; have hcz15_2 : w14.cell? ⟨gb331, 2, none⟩ = some (.int .i64 a0_2) := (blk_cell BK331.out 2).trans rfl; have hcz15_3 : w14.cell? ⟨gb331, 3, none⟩ = some (.int .i64 a0_3) := (blk_cell BK331.out 3).trans rfl; have hcz15_4 : w14.cell? ⟨gb331, 4, none⟩ = some (.int .i64 a0_4) := (blk_cell BK331.out 4).trans rfl; have hcz15_5 : w14.cell? ⟨gb331, 5, none⟩ = some (.int .i64 a0_5) := (blk_cell BK331.out 5).trans rfl; have hcz15_6 : w14.cell? ⟨gb331, 6, none⟩ = some (.int .i64 a0_6) := (blk_cell BK331.out 6).trans rfl; have hfz15_0 := blk_frozen BK331.out 0; have hfz15_1 := blk_frozen BK331.out 1; have hfz15_2 := blk_frozen BK331.out 2; have hfz15_3 := blk_frozen BK331.out 3; have hfz15_4 := blk_frozen BK331.out 4; have hfz15_5 := blk_frozen BK331.out 5; have hfz15_6 := blk_frozen BK331.out 6))
          have n0_ : Aside0 ((((((((w14.setCell ⟨gb331, 0, none⟩ (.int .i64 t339)).setCell ⟨gb331, 1, none⟩ (.int .i64 t340)).setCell ⟨gb331, 2, none⟩ (.int .i64 t341)).setCell ⟨gb331, 3, none⟩ (.int .i64 t342)).setCell ⟨gb331, 4, none⟩ (.int .i64 t343)).setCell ⟨gb331, 5, none⟩ (.int .i64 t344)).setCell ⟨gb331, 6, none⟩ (.int .i64 t345)).heap[gb331]? = some (.cells #[.int .i64 t339, .int .i64 t340, .int .i64 t341, .int .i64 t342, .int .i64 t343, .int .i64 t344, .int .i64 t345] 23 (0, 0))) := ⟨by (with_reducible repeat (first | refine blk_drewN ?_ _ | refine blk_drew ?_ | refine blk_alloc ?_ _)); refine blk_put (cs := #[.int .i64 t339, .int .i64 t340, .int .i64 t341, .int .i64 t342, .int .i64 t343, .int .i64 t344, .int .i64 a0_6]) ?_ 6 _ rfl; (with_reducible repeat (first | refine blk_drewN ?_ _ | refine blk_drew ?_ | refine blk_alloc ?_ _)); refine blk_put (cs := #[.int .i64 t339, .int .i64 t340, .int .i64 t341, .int .i64 t342, .int .i64 t343, .int .i64 a0_5, .int .i64 a0_6]) ?_ 5 _ rfl; (with_reducible repeat (first | refine blk_drewN ?_ _ | refine blk_drew ?_ | refine blk_alloc ?_ _)); refine blk_put (cs := #[.int .i64 t339, .int .i64 t340, .int .i64 t341, .int .i64 t342, .int .i64 a0_4, .int .i64 a0_5, .int .i64 a0_6]) ?_ 4 _ rfl; (with_reducible repeat (first | refine blk_drewN ?_ _ | refine blk_drew ?_ | refine blk_alloc ?_ _)); refine blk_put (cs := #[.int .i64 t339, .int .i64 t340, .int .i64 t341, .int .i64 a0_3, .int .i64 a0_4, .int .i64 a0_5, .int .i64 a0_6]) ?_ 3 _ rfl; (with_reducible repeat (first | refine blk_drewN ?_ _ | refine blk_drew ?_ | refine blk_alloc ?_ _)); refine blk_put (cs := #[.int .i64 t339, .int .i64 t340, .int .i64 a0_2, .int .i64 a0_3, .int .i64 a0_4, .int .i64 a0_5, .int .i64 a0_6]) ?_ 2 _ rfl; (with_reducible repeat (first | refine blk_drewN ?_ _ | refine blk_drew ?_ | refine blk_alloc ?_ _)); refine blk_put (cs := #[.int .i64 t339, .int .i64 a0_1, .int .i64 a0_2, .int .i64 a0_3, .int .i64 a0_4, .int .i64 a0_5, .int .i64 a0_6]) ?_ 1 _ rfl; (with_reducible repeat (first | refine blk_drewN ?_ _ | refine blk_drew ?_ | refine blk_alloc ?_ _)); refine blk_put (cs := #[.int .i64 a0_0, .int .i64 a0_1, .int .i64 a0_2, .int .i64 a0_3, .int .i64 a0_4, .int .i64 a0_5, .int .i64 a0_6]) ?_ 0 _ rfl; (with_reducible repeat (first | refine blk_drewN ?_ _ | refine blk_drew ?_ | refine blk_alloc ?_ _)); exact BK331.out⟩
          have n1_ : Aside0 (Below w.heap.size w (((((((w14.setCell ⟨gb331, 0, none⟩ (.int .i64 t339)).setCell ⟨gb331, 1, none⟩ (.int .i64 t340)).setCell ⟨gb331, 2, none⟩ (.int .i64 t341)).setCell ⟨gb331, 3, none⟩ (.int .i64 t342)).setCell ⟨gb331, 4, none⟩ (.int .i64 t343)).setCell ⟨gb331, 5, none⟩ (.int .i64 t344)).setCell ⟨gb331, 6, none⟩ (.int .i64 t345))) := ⟨by repeat (first | (with_reducible first | exact HB.out | apply below_alloc | apply pw_below_drewN | apply below_drew1 | refine below_set ?_ GE331.out) | exact HB.out)⟩
          (try clear BK331)
          (try clear HB)
          generalize (((((((w14.setCell ⟨gb331, 0, none⟩ (.int .i64 t339)).setCell ⟨gb331, 1, none⟩ (.int .i64 t340)).setCell ⟨gb331, 2, none⟩ (.int .i64 t341)).setCell ⟨gb331, 3, none⟩ (.int .i64 t342)).setCell ⟨gb331, 4, none⟩ (.int .i64 t343)).setCell ⟨gb331, 5, none⟩ (.int .i64 t344)).setCell ⟨gb331, 6, none⟩ (.int .i64 t345)) = w16 at n0_ n1_ ⊢
          have BK331 := n0_
          have HB := n1_
          clear n0_ n1_
          have n0_ := Aside0.mk (blk_drew BK331.out)
          have n1_ := Aside0.mk (below_drew1 HB.out)
          clear BK331
          clear HB
          have BK331 := n0_
          have HB := n1_
          clear n0_ n1_
          refine start_ (n := 7) (S := fun w' => w'.cell? ⟨gb331, 0, none⟩ = some (.int .i64 t339) ∧ w'.cell? ⟨gb331, 1, none⟩ = some (.int .i64 t340) ∧ w'.cell? ⟨gb331, 2, none⟩ = some (.int .i64 t341) ∧ w'.cell? ⟨gb331, 3, none⟩ = some (.int .i64 t342) ∧ w'.cell? ⟨gb331, 4, none⟩ = some (.int .i64 t343) ∧ w'.cell? ⟨gb331, 5, none⟩ = some (.int .i64 t344) ∧ w'.cell? ⟨gb331, 6, none⟩ = some (.int .i64 t345)) (ds := []) #[false, false, false, false, false, false, false] (by kernel_rfl) rfl rfl ⟨(blk_cell BK331.out 0).trans rfl, (blk_cell BK331.out 1).trans rfl, (blk_cell BK331.out 2).trans rfl, (blk_cell BK331.out 3).trans rfl, (blk_cell BK331.out 4).trans rfl, (blk_cell BK331.out 5).trans rfl, (blk_cell BK331.out 6).trans rfl⟩ (fun hHeld => ?_)
          generalize w16.drew = w17 at BK331 HB hHeld ⊢
          refine take_ (i := 0) (N := some 13) (v := ?_) (a' := ?_) #[true, false, false, false, false, false, false] rfl rfl (by kernel_rfl) (fun _ _ _ h => h) (Or.inl ⟨by rfl, ?_⟩) hHeld ?_ ?_
          rotate_left
          · rintro w' ⟨s0, s1, s2, s3, s4, s5, s6⟩
            go_simp
            with_reducible rfl
          rotate_left
          · simp only [Act.put, List.setIfInBounds_toArray, List.set_cons_zero, List.set_cons_succ, i64_w, i32_w]
            rfl
          refine take_ (i := 3) (N := some 16) (v := ?_) (a' := ?_) #[true, false, false, true, false, false, false] rfl rfl (by kernel_rfl) (fun _ _ _ h => h) (Or.inl ⟨by rfl, ?_⟩) hHeld ?_ ?_
          rotate_left
          · rintro w' ⟨s0, s1, s2, s3, s4, s5, s6⟩
            go_simp
            with_reducible rfl
          rotate_left
          · simp only [Act.put, List.setIfInBounds_toArray, List.set_cons_zero, List.set_cons_succ, i64_w, i32_w]
            rfl
          refine one_ (i := 1) (N := some 14) #[true, true, false, true, false, false, false] rfl rfl (by kernel_rfl) (by decide) (fun K hK => ?_)
          refine goes_ Try.func15 (by kernel_rfl) rfl #[.agg #[.int .i64 t339, .int .i64 t340, .int .i64 t341, .int .i64 t342, .int .i64 t343, .int .i64 t344, .int .i64 t345]] (by rfl) rfl rfl (by (try simp only [List.map_toArray, List.map_cons, List.map_nil]); first | done | rfl | (simp only [List.length_drop, List.length_take]; rfl)) ?_
          with_reducible refine (spec_JuDayOf.calls k t339 t340 t341 t342 t343 t344 t345 t346 _ A4.out).mono ?_
          rintro e w18 ⟨rfl, hb⟩
          refine ⟨_, rfl, ?_⟩
          have n0_ := Aside0.mk (blk_below (g := gb331) (o := .cells #[.int .i64 t339, .int .i64 t340, .int .i64 t341, .int .i64 t342, .int .i64 t343, .int .i64 t344, .int .i64 t345] 23 (0, 0)) (by (with_reducible repeat (first | refine blk_drewN ?_ _ | refine blk_drew ?_ | refine blk_alloc ?_ _)); exact BK331.out) hb)
          have n1_ := Aside0.mk (below_step (by repeat (first | (with_reducible first | exact HB.out | apply below_alloc | apply pw_below_drewN | apply below_drew1 | refine below_set ?_ GE331.out) | exact HB.out)) hb)
          clear BK331
          clear HB
          have BK331 := n0_
          have HB := n1_
          clear n0_ n1_
          (try clear hb)
          (try clear hb2)
          (try clear hk)
          (try clear hi)
          refine hK.out _ _ ⟨(blk_cell BK331.out 0).trans rfl, (blk_cell BK331.out 1).trans rfl, (blk_cell BK331.out 2).trans rfl, (blk_cell BK331.out 3).trans rfl, (blk_cell BK331.out 4).trans rfl, (blk_cell BK331.out 5).trans rfl, (blk_cell BK331.out 6).trans rfl⟩ (fun hHeld => ?_)
          clear hK K
          refine norm_ (a' := ?_) ?_ ?_
          rotate_left
          · show Act.put _ (some 14) _ = _
            simp only [Act.put, List.setIfInBounds_toArray, List.set_cons_zero, List.set_cons_succ, i64_w, i32_w]
            rfl
          refine pure_ (i := 2) (N := some 15) (v := ?_) (a' := ?_) #[true, true, true, true, false, false, false] rfl rfl (by kernel_rfl) (fun _ _ _ h => h) (Or.inl ⟨by rfl, ?_⟩) ?_ ?_
          rotate_left
          · intro w'
            go_simp
            with_reducible rfl
          rotate_left
          · simp only [Act.put, List.setIfInBounds_toArray, List.set_cons_zero, List.set_cons_succ, i64_w, i32_w]
            rfl
          refine one_ (i := 4) (N := some 17) #[true, true, true, true, true, false, false] rfl rfl (by kernel_rfl) (by decide) (fun K hK => ?_)
          refine goes_ Try.func16 (by kernel_rfl) rfl #[.agg #[.int .i64 t339, .int .i64 t340, .int .i64 t341, .int .i64 t342, .int .i64 t343, .int .i64 t344, .int .i64 t345]] (by rfl) rfl rfl (by (try simp only [List.map_toArray, List.map_cons, List.map_nil]); first | done | rfl | (simp only [List.length_drop, List.length_take]; rfl)) ?_
          with_reducible refine (spec_JuSeconds.calls t339 t340 t341 t342 t343 t344 t345 t347 _ A5.out).mono ?_
          rintro e w19 ⟨rfl, hb⟩
          refine ⟨_, rfl, ?_⟩
          have n0_ := Aside0.mk (blk_below (g := gb331) (o := .cells #[.int .i64 t339, .int .i64 t340, .int .i64 t341, .int .i64 t342, .int .i64 t343, .int .i64 t344, .int .i64 t345] 23 (0, 0)) (by (with_reducible repeat (first | refine blk_drewN ?_ _ | refine blk_drew ?_ | refine blk_alloc ?_ _)); exact BK331.out) hb)
          have n1_ := Aside0.mk (below_step (by repeat (first | (with_reducible first | exact HB.out | apply below_alloc | apply pw_below_drewN | apply below_drew1 | refine below_set ?_ GE331.out) | exact HB.out)) hb)
          clear BK331
          clear HB
          have BK331 := n0_
          have HB := n1_
          clear n0_ n1_
          (try clear hb)
          (try clear hb2)
          (try clear hk)
          (try clear hi)
          refine hK.out _ _ ⟨(blk_cell BK331.out 0).trans rfl, (blk_cell BK331.out 1).trans rfl, (blk_cell BK331.out 2).trans rfl, (blk_cell BK331.out 3).trans rfl, (blk_cell BK331.out 4).trans rfl, (blk_cell BK331.out 5).trans rfl, (blk_cell BK331.out 6).trans rfl⟩ (fun hHeld => ?_)
          clear hK K
          refine norm_ (a' := ?_) ?_ ?_
          rotate_left
          · show Act.put _ (some 17) _ = _
            simp only [Act.put, List.setIfInBounds_toArray, List.set_cons_zero, List.set_cons_succ, i64_w, i32_w]
            rfl
          refine pure_ (i := 5) (N := some 3) (v := ?_) (a' := ?_) #[true, true, true, true, true, true, false] rfl rfl (by kernel_rfl) (fun _ _ _ h => h) (Or.inl ⟨by rfl, ?_⟩) ?_ ?_
          rotate_left
          · intro w'
            go_simp
            with_reducible rfl
          rotate_left
          · simp only [Act.put, List.setIfInBounds_toArray, List.set_cons_zero, List.set_cons_succ, i64_w, i32_w]
            rfl
          refine pure_ (i := 6) (N := some 4) (v := ?_) (a' := ?_) #[true, true, true, true, true, true, true] rfl rfl (by kernel_rfl) (fun _ _ _ h => h) (Or.inl ⟨by rfl, ?_⟩) ?_ ?_
          rotate_left
          · intro w'
            go_simp
            with_reducible rfl
          rotate_left
          · simp only [Act.put, List.setIfInBounds_toArray, List.set_cons_zero, List.set_cons_succ, i64_w, i32_w]
            rfl
          refine done_ (by kernel_rfl) ?_
          have hcz20_0 : w19.cell? ⟨gb331, 0, none⟩ = some (.int .i64 t339) := (blk_cell BK331.out 0).trans rfl
          have hcz20_1 : w19.cell? ⟨gb331, 1, none⟩ = some (.int .i64 t340) := (blk_cell BK331.out 1).trans rfl
          have hcz20_2 : w19.cell? ⟨gb331, 2, none⟩ = some (.int .i64 t341) := (blk_cell BK331.out 2).trans rfl
          have hcz20_3 : w19.cell? ⟨gb331, 3, none⟩ = some (.int .i64 t342) := (blk_cell BK331.out 3).trans rfl
          have hcz20_4 : w19.cell? ⟨gb331, 4, none⟩ = some (.int .i64 t343) := (blk_cell BK331.out 4).trans rfl
          have hcz20_5 : w19.cell? ⟨gb331, 5, none⟩ = some (.int .i64 t344) := (blk_cell BK331.out 5).trans rfl
          have hcz20_6 : w19.cell? ⟨gb331, 6, none⟩ = some (.int .i64 t345) := (blk_cell BK331.out 6).trans rfl
          have hfz20_0 := blk_frozen BK331.out 0
          have hfz20_1 := blk_frozen BK331.out 1
          have hfz20_2 := blk_frozen BK331.out 2
          have hfz20_3 := blk_frozen BK331.out 3
          have hfz20_4 := blk_frozen BK331.out 4
          have hfz20_5 := blk_frozen BK331.out 5
          have hfz20_6 := blk_frozen BK331.out 6
          try go_wp2_with (first | ((with_reducible refine gate_callee (f := 17) rfl ?_); refine goesL_ (some 20) rfl rfl Try.func17 (by kernel_rfl) rfl #[.agg #[.int .i64 t339, .int .i64 t340, .int .i64 t341, .int .i64 t342, .int .i64 t343, .int .i64 t344, .int .i64 t345]] rfl (by (try simp only [List.map_toArray, List.map_cons, List.map_nil]); first | done | rfl | (simp only [List.length_drop, List.length_take]; rfl)) ?_; (with_reducible refine (impl_TimeNumbers.calls k t339 t340 t341 t342 t343 t344 t345 t348 t349 t350 t351 t352 _ A6.out).mono ?_); rintro e w21 ⟨rfl, hb⟩; refine ⟨_, rfl, ?_⟩; have n0_ := Aside0.mk (blk_below (g := gb331) (o := .cells #[.int .i64 t339, .int .i64 t340, .int .i64 t341, .int .i64 t342, .int .i64 t343, .int .i64 t344, .int .i64 t345] 23 (0, 0)) (by (with_reducible repeat (first | refine blk_drewN ?_ _ | refine blk_drew ?_ | refine blk_alloc ?_ _)); exact BK331.out) hb); have n1_ := Aside0.mk (below_step (by repeat (first | (with_reducible first | exact HB.out | apply below_alloc | apply pw_below_drewN | apply below_drew1 | refine below_set ?_ GE331.out) | exact HB.out)) hb); clear BK331; clear HB; have BK331 := n0_; have HB := n1_; clear n0_ n1_; (try clear hb); (try clear hb2); (try clear hk); (try clear hi); have hcz22_0 : w21.cell? ⟨gb331, 0, none⟩ = some (.int .i64 t339) := (blk_cell BK331.out 0).trans rfl; have hcz22_1 : w21.cell? ⟨gb331, 1, none⟩ = some (.int .i64 t340) := (blk_cell BK331.out 1).trans rfl; have hcz22_2 : w21.cell? ⟨gb331, 2, none⟩ = some (.int .i64 t341) := (blk_cell BK331.out 2).trans rfl; have hcz22_3 : w21.cell? ⟨gb331, 3, none⟩ = some (.int .i64 t342) := (blk_cell BK331.out 3).trans rfl; have hcz22_4 : w21.cell? ⟨gb331, 4, none⟩ = some (.int .i64 t343) := (blk_cell BK331.out 4).trans rfl; have hcz22_5 : w21.cell? ⟨gb331, 5, none⟩ = some (.int .i64 t344) := (blk_cell BK331.out 5).trans rfl; have hcz22_6 : w21.cell? ⟨gb331, 6, none⟩ = some (.int .i64 t345) := (blk_cell BK331.out 6).trans rfl; have hfz22_0 := blk_frozen BK331.out 0; have hfz22_1 := blk_frozen BK331.out 1; have hfz22_2 := blk_frozen BK331.out 2; have hfz22_3 := blk_frozen BK331.out 3; have hfz22_4 := blk_frozen BK331.out 4; have hfz22_5 := blk_frozen BK331.out 5; have hfz22_6 := blk_frozen BK331.out 6))
          go_ret
          exact ⟨by first | rfl | (simp [errW_none, errW_some] <;> rfl) | (simp [*, errW_none, errW_some] <;> rfl), by repeat (first | (with_reducible first | exact HB.out | apply below_alloc | apply pw_below_drewN | apply below_drew1 | refine below_set ?_ GE331.out) | exact HB.out)⟩
        · rw [if_neg c10] at H
          have c10b0 : (t350 == (wrap64 ((wrap64 (t346 - 1721424)) + 1))) = false := beq_eq_false_iff_ne.mpr c10
          have c10b1 : (t350 != (wrap64 ((wrap64 (t346 - 1721424)) + 1))) = true := bne_iff_ne.mpr c10
          obtain rfl := Option.some.inj H
          go_enter Try.func6, Try.ntmps6
          try go_wp2_with (first | ((with_reducible refine gate_dst (N := 1) rfl ?_); refine box_event ?hg (N := 1) ?hd (cs := #[.int .i64 a0_0, .int .i64 a0_1, .int .i64 a0_2, .int .i64 a0_3, .int .i64 a0_4, .int .i64 a0_5, .int .i64 a0_6]) (t := 23) ?hr ?_; (case hd => rfl); (case hg => rfl); (case hr => first | (go_simp; done) | (go_simp; rfl)); intro gb331 hg w23 hbox hb; have n0_ := Aside0.mk (below_step (by repeat (first | (with_reducible first | exact HB.out | apply below_alloc | apply pw_below_drewN | apply below_drew1) | exact HB.out)) hb); have n1_ := Aside0.mk (hbox); have n2_ := Aside0.mk ((by rw [hg]; exact (below_size (by repeat (first | (with_reducible first | exact HB.out | apply below_alloc | apply pw_below_drewN | apply below_drew1) | exact HB.out))) : w.heap.size ≤ gb331)); have n3_ := Aside0.mk ((by rw [hg]; exact (below_size (by repeat (first | (with_reducible first | exact HB.out | apply below_alloc | apply pw_below_drewN | apply below_drew1) | exact HB.out))) : w.heap.size ≤ gb331)); clear HB; have HB := n0_; have BK331 := n1_; have GW331 := n2_; have GE331 := n3_; clear n0_ n1_ n2_ n3_; clear hb hbox hg; have hcz24_0 : w23.cell? ⟨gb331, 0, none⟩ = some (.int .i64 a0_0) := (blk_cell BK331.out 0).trans rfl; have hcz24_1 : w23.cell? ⟨gb331, 1, none⟩ = some (.int .i64 a0_1) := (blk_cell BK331.out 1).trans rfl; have hcz24_2 : w23.cell? ⟨gb331, 2, none⟩ = some (.int .i64 a0_2) := (blk_cell BK331.out 2).trans rfl; have hcz24_3 : w23.cell? ⟨gb331, 3, none⟩ = some (.int .i64 a0_3) := (blk_cell BK331.out 3).trans rfl; have hcz24_4 : w23.cell? ⟨gb331, 4, none⟩ = some (.int .i64 a0_4) := (blk_cell BK331.out 4).trans rfl; have hcz24_5 : w23.cell? ⟨gb331, 5, none⟩ = some (.int .i64 a0_5) := (blk_cell BK331.out 5).trans rfl; have hcz24_6 : w23.cell? ⟨gb331, 6, none⟩ = some (.int .i64 a0_6) := (blk_cell BK331.out 6).trans rfl; have hfz24_0 := blk_frozen BK331.out 0; have hfz24_1 := blk_frozen BK331.out 1; have hfz24_2 := blk_frozen BK331.out 2; have hfz24_3 := blk_frozen BK331.out 3; have hfz24_4 := blk_frozen BK331.out 4; have hfz24_5 := blk_frozen BK331.out 5; have hfz24_6 := blk_frozen BK331.out 6) | ((with_reducible refine gate_callee (f := 9) rfl ?_); refine goesL_ (some 11) rfl rfl Try.func9 (by kernel_rfl) rfl #[.agg #[.int .i64 a0_0, .int .i64 a0_1, .int .i64 a0_2, .int .i64 a0_3, .int .i64 a0_4, .int .i64 a0_5, .int .i64 a0_6]] rfl (by (try simp only [List.map_toArray, List.map_cons, List.map_nil]); first | done | rfl | (simp only [List.length_drop, List.length_take]; rfl)) ?_; (with_reducible refine (laws_juTime.calls a0_0 a0_1 a0_2 a0_3 a0_4 a0_5 a0_6 t332 t333 t334 t335 t336 t337 t338 _ A2.out).mono ?_); rintro e w25 ⟨rfl, hb⟩; refine ⟨_, rfl, ?_⟩; have n0_ := Aside0.mk (blk_below (g := gb331) (o := .cells #[.int .i64 a0_0, .int .i64 a0_1, .int .i64 a0_2, .int .i64 a0_3, .int .i64 a0_4, .int .i64 a0_5, .int .i64 a0_6] 23 (0, 0)) (by (with_reducible repeat (first | refine blk_drewN ?_ _ | refine blk_drew ?_ | refine blk_alloc ?_ _)); exact BK331.out) hb); have n1_ := Aside0.mk (below_step (by repeat (first | (with_reducible first | exact HB.out | apply below_alloc | apply pw_below_drewN | apply below_drew1 | refine below_set ?_ GE331.out) | exact HB.out)) hb); clear BK331; clear HB; have BK331 := n0_; have HB := n1_; clear n0_ n1_; (try clear hb); (try clear hb2); (try clear hk); (try clear hi)) | ((with_reducible refine gate_callee (f := 11) rfl ?_); refine goesL_ (some 12) rfl rfl Try.func11 (by kernel_rfl) rfl #[.agg #[.int .i64 t332, .int .i64 t333, .int .i64 t334, .int .i64 t335, .int .i64 t336, .int .i64 t337, .int .i64 t338]] rfl (by (try simp only [List.map_toArray, List.map_cons, List.map_nil]); first | done | rfl | (simp only [List.length_drop, List.length_take]; rfl)) ?_; (with_reducible refine (spec_JuMade.calls k t332 t333 t334 t335 t336 t337 t338 t339 t340 t341 t342 t343 t344 t345 _ A3.out).mono ?_); rintro e w26 ⟨rfl, hb⟩; refine ⟨_, rfl, ?_⟩; have n0_ := Aside0.mk (blk_below (g := gb331) (o := .cells #[.int .i64 a0_0, .int .i64 a0_1, .int .i64 a0_2, .int .i64 a0_3, .int .i64 a0_4, .int .i64 a0_5, .int .i64 a0_6] 23 (0, 0)) (by (with_reducible repeat (first | refine blk_drewN ?_ _ | refine blk_drew ?_ | refine blk_alloc ?_ _)); exact BK331.out) hb); have n1_ := Aside0.mk (below_step (by repeat (first | (with_reducible first | exact HB.out | apply below_alloc | apply pw_below_drewN | apply below_drew1 | refine below_set ?_ GE331.out) | exact HB.out)) hb); clear BK331; clear HB; have BK331 := n0_; have HB := n1_; clear n0_ n1_; (try clear hb); (try clear hb2); (try clear hk); (try clear hi); have hcz27_0 : w26.cell? ⟨gb331, 0, none⟩ = some (.int .i64 a0_0) := (blk_cell BK331.out 0).trans rfl; have hcz27_1 : w26.cell? ⟨gb331, 1, none⟩ = some (.int .i64 a0_1) := (blk_cell BK331.out 1).trans rfl; have hcz27_2 : w26.cell? ⟨gb331, 2, none⟩ = some (.int .i64 a0_2) := (blk_cell BK331.out 2).trans rfl; have hcz27_3 : w26.cell? ⟨gb331, 3, none⟩ = some (.int .i64 a0_3) := (blk_cell BK331.out 3).trans rfl; have hcz27_4 : w26.cell? ⟨gb331, 4, none⟩ = some (.int .i64 a0_4) := (blk_cell BK331.out 4).trans rfl; have hcz27_5 : w26.cell? ⟨gb331, 5, none⟩ = some (.int .i64 a0_5) := (blk_cell BK331.out 5).trans rfl; have hcz27_6 : w26.cell? ⟨gb331, 6, none⟩ = some (.int .i64 a0_6) := (blk_cell BK331.out 6).trans rfl; have hfz27_0 := blk_frozen BK331.out 0; have hfz27_1 := blk_frozen BK331.out 1; have hfz27_2 := blk_frozen BK331.out 2; have hfz27_3 := blk_frozen BK331.out 3; have hfz27_4 := blk_frozen BK331.out 4; have hfz27_5 := blk_frozen BK331.out 5; have hfz27_6 := blk_frozen BK331.out 6))
          have n0_ : Aside0 ((((((((w26.setCell ⟨gb331, 0, none⟩ (.int .i64 t339)).setCell ⟨gb331, 1, none⟩ (.int .i64 t340)).setCell ⟨gb331, 2, none⟩ (.int .i64 t341)).setCell ⟨gb331, 3, none⟩ (.int .i64 t342)).setCell ⟨gb331, 4, none⟩ (.int .i64 t343)).setCell ⟨gb331, 5, none⟩ (.int .i64 t344)).setCell ⟨gb331, 6, none⟩ (.int .i64 t345)).heap[gb331]? = some (.cells #[.int .i64 t339, .int .i64 t340, .int .i64 t341, .int .i64 t342, .int .i64 t343, .int .i64 t344, .int .i64 t345] 23 (0, 0))) := ⟨by (with_reducible repeat (first | refine blk_drewN ?_ _ | refine blk_drew ?_ | refine blk_alloc ?_ _)); refine blk_put (cs := #[.int .i64 t339, .int .i64 t340, .int .i64 t341, .int .i64 t342, .int .i64 t343, .int .i64 t344, .int .i64 a0_6]) ?_ 6 _ rfl; (with_reducible repeat (first | refine blk_drewN ?_ _ | refine blk_drew ?_ | refine blk_alloc ?_ _)); refine blk_put (cs := #[.int .i64 t339, .int .i64 t340, .int .i64 t341, .int .i64 t342, .int .i64 t343, .int .i64 a0_5, .int .i64 a0_6]) ?_ 5 _ rfl; (with_reducible repeat (first | refine blk_drewN ?_ _ | refine blk_drew ?_ | refine blk_alloc ?_ _)); refine blk_put (cs := #[.int .i64 t339, .int .i64 t340, .int .i64 t341, .int .i64 t342, .int .i64 a0_4, .int .i64 a0_5, .int .i64 a0_6]) ?_ 4 _ rfl; (with_reducible repeat (first | refine blk_drewN ?_ _ | refine blk_drew ?_ | refine blk_alloc ?_ _)); refine blk_put (cs := #[.int .i64 t339, .int .i64 t340, .int .i64 t341, .int .i64 a0_3, .int .i64 a0_4, .int .i64 a0_5, .int .i64 a0_6]) ?_ 3 _ rfl; (with_reducible repeat (first | refine blk_drewN ?_ _ | refine blk_drew ?_ | refine blk_alloc ?_ _)); refine blk_put (cs := #[.int .i64 t339, .int .i64 t340, .int .i64 a0_2, .int .i64 a0_3, .int .i64 a0_4, .int .i64 a0_5, .int .i64 a0_6]) ?_ 2 _ rfl; (with_reducible repeat (first | refine blk_drewN ?_ _ | refine blk_drew ?_ | refine blk_alloc ?_ _)); refine blk_put (cs := #[.int .i64 t339, .int .i64 a0_1, .int .i64 a0_2, .int .i64 a0_3, .int .i64 a0_4, .int .i64 a0_5, .int .i64 a0_6]) ?_ 1 _ rfl; (with_reducible repeat (first | refine blk_drewN ?_ _ | refine blk_drew ?_ | refine blk_alloc ?_ _)); refine blk_put (cs := #[.int .i64 a0_0, .int .i64 a0_1, .int .i64 a0_2, .int .i64 a0_3, .int .i64 a0_4, .int .i64 a0_5, .int .i64 a0_6]) ?_ 0 _ rfl; (with_reducible repeat (first | refine blk_drewN ?_ _ | refine blk_drew ?_ | refine blk_alloc ?_ _)); exact BK331.out⟩
          have n1_ : Aside0 (Below w.heap.size w (((((((w26.setCell ⟨gb331, 0, none⟩ (.int .i64 t339)).setCell ⟨gb331, 1, none⟩ (.int .i64 t340)).setCell ⟨gb331, 2, none⟩ (.int .i64 t341)).setCell ⟨gb331, 3, none⟩ (.int .i64 t342)).setCell ⟨gb331, 4, none⟩ (.int .i64 t343)).setCell ⟨gb331, 5, none⟩ (.int .i64 t344)).setCell ⟨gb331, 6, none⟩ (.int .i64 t345))) := ⟨by repeat (first | (with_reducible first | exact HB.out | apply below_alloc | apply pw_below_drewN | apply below_drew1 | refine below_set ?_ GE331.out) | exact HB.out)⟩
          (try clear BK331)
          (try clear HB)
          generalize (((((((w26.setCell ⟨gb331, 0, none⟩ (.int .i64 t339)).setCell ⟨gb331, 1, none⟩ (.int .i64 t340)).setCell ⟨gb331, 2, none⟩ (.int .i64 t341)).setCell ⟨gb331, 3, none⟩ (.int .i64 t342)).setCell ⟨gb331, 4, none⟩ (.int .i64 t343)).setCell ⟨gb331, 5, none⟩ (.int .i64 t344)).setCell ⟨gb331, 6, none⟩ (.int .i64 t345)) = w28 at n0_ n1_ ⊢
          have BK331 := n0_
          have HB := n1_
          clear n0_ n1_
          have n0_ := Aside0.mk (blk_drew BK331.out)
          have n1_ := Aside0.mk (below_drew1 HB.out)
          clear BK331
          clear HB
          have BK331 := n0_
          have HB := n1_
          clear n0_ n1_
          refine start_ (n := 7) (S := fun w' => w'.cell? ⟨gb331, 0, none⟩ = some (.int .i64 t339) ∧ w'.cell? ⟨gb331, 1, none⟩ = some (.int .i64 t340) ∧ w'.cell? ⟨gb331, 2, none⟩ = some (.int .i64 t341) ∧ w'.cell? ⟨gb331, 3, none⟩ = some (.int .i64 t342) ∧ w'.cell? ⟨gb331, 4, none⟩ = some (.int .i64 t343) ∧ w'.cell? ⟨gb331, 5, none⟩ = some (.int .i64 t344) ∧ w'.cell? ⟨gb331, 6, none⟩ = some (.int .i64 t345)) (ds := []) #[false, false, false, false, false, false, false] (by kernel_rfl) rfl rfl ⟨(blk_cell BK331.out 0).trans rfl, (blk_cell BK331.out 1).trans rfl, (blk_cell BK331.out 2).trans rfl, (blk_cell BK331.out 3).trans rfl, (blk_cell BK331.out 4).trans rfl, (blk_cell BK331.out 5).trans rfl, (blk_cell BK331.out 6).trans rfl⟩ (fun hHeld => ?_)
          generalize w28.drew = w29 at BK331 HB hHeld ⊢
          refine take_ (i := 0) (N := some 13) (v := ?_) (a' := ?_) #[true, false, false, false, false, false, false] rfl rfl (by kernel_rfl) (fun _ _ _ h => h) (Or.inl ⟨by rfl, ?_⟩) hHeld ?_ ?_
          rotate_left
          · rintro w' ⟨s0, s1, s2, s3, s4, s5, s6⟩
            go_simp
            with_reducible rfl
          rotate_left
          · simp only [Act.put, List.setIfInBounds_toArray, List.set_cons_zero, List.set_cons_succ, i64_w, i32_w]
            rfl
          refine take_ (i := 3) (N := some 16) (v := ?_) (a' := ?_) #[true, false, false, true, false, false, false] rfl rfl (by kernel_rfl) (fun _ _ _ h => h) (Or.inl ⟨by rfl, ?_⟩) hHeld ?_ ?_
          rotate_left
          · rintro w' ⟨s0, s1, s2, s3, s4, s5, s6⟩
            go_simp
            with_reducible rfl
          rotate_left
          · simp only [Act.put, List.setIfInBounds_toArray, List.set_cons_zero, List.set_cons_succ, i64_w, i32_w]
            rfl
          refine one_ (i := 1) (N := some 14) #[true, true, false, true, false, false, false] rfl rfl (by kernel_rfl) (by decide) (fun K hK => ?_)
          refine goes_ Try.func15 (by kernel_rfl) rfl #[.agg #[.int .i64 t339, .int .i64 t340, .int .i64 t341, .int .i64 t342, .int .i64 t343, .int .i64 t344, .int .i64 t345]] (by rfl) rfl rfl (by (try simp only [List.map_toArray, List.map_cons, List.map_nil]); first | done | rfl | (simp only [List.length_drop, List.length_take]; rfl)) ?_
          with_reducible refine (spec_JuDayOf.calls k t339 t340 t341 t342 t343 t344 t345 t346 _ A4.out).mono ?_
          rintro e w30 ⟨rfl, hb⟩
          refine ⟨_, rfl, ?_⟩
          have n0_ := Aside0.mk (blk_below (g := gb331) (o := .cells #[.int .i64 t339, .int .i64 t340, .int .i64 t341, .int .i64 t342, .int .i64 t343, .int .i64 t344, .int .i64 t345] 23 (0, 0)) (by (with_reducible repeat (first | refine blk_drewN ?_ _ | refine blk_drew ?_ | refine blk_alloc ?_ _)); exact BK331.out) hb)
          have n1_ := Aside0.mk (below_step (by repeat (first | (with_reducible first | exact HB.out | apply below_alloc | apply pw_below_drewN | apply below_drew1 | refine below_set ?_ GE331.out) | exact HB.out)) hb)
          clear BK331
          clear HB
          have BK331 := n0_
          have HB := n1_
          clear n0_ n1_
          (try clear hb)
          (try clear hb2)
          (try clear hk)
          (try clear hi)
          refine hK.out _ _ ⟨(blk_cell BK331.out 0).trans rfl, (blk_cell BK331.out 1).trans rfl, (blk_cell BK331.out 2).trans rfl, (blk_cell BK331.out 3).trans rfl, (blk_cell BK331.out 4).trans rfl, (blk_cell BK331.out 5).trans rfl, (blk_cell BK331.out 6).trans rfl⟩ (fun hHeld => ?_)
          clear hK K
          refine norm_ (a' := ?_) ?_ ?_
          rotate_left
          · show Act.put _ (some 14) _ = _
            simp only [Act.put, List.setIfInBounds_toArray, List.set_cons_zero, List.set_cons_succ, i64_w, i32_w]
            rfl
          refine pure_ (i := 2) (N := some 15) (v := ?_) (a' := ?_) #[true, true, true, true, false, false, false] rfl rfl (by kernel_rfl) (fun _ _ _ h => h) (Or.inl ⟨by rfl, ?_⟩) ?_ ?_
          rotate_left
          · intro w'
            go_simp
            with_reducible rfl
          rotate_left
          · simp only [Act.put, List.setIfInBounds_toArray, List.set_cons_zero, List.set_cons_succ, i64_w, i32_w]
            rfl
          refine one_ (i := 4) (N := some 17) #[true, true, true, true, true, false, false] rfl rfl (by kernel_rfl) (by decide) (fun K hK => ?_)
          refine goes_ Try.func16 (by kernel_rfl) rfl #[.agg #[.int .i64 t339, .int .i64 t340, .int .i64 t341, .int .i64 t342, .int .i64 t343, .int .i64 t344, .int .i64 t345]] (by rfl) rfl rfl (by (try simp only [List.map_toArray, List.map_cons, List.map_nil]); first | done | rfl | (simp only [List.length_drop, List.length_take]; rfl)) ?_
          with_reducible refine (spec_JuSeconds.calls t339 t340 t341 t342 t343 t344 t345 t347 _ A5.out).mono ?_
          rintro e w31 ⟨rfl, hb⟩
          refine ⟨_, rfl, ?_⟩
          have n0_ := Aside0.mk (blk_below (g := gb331) (o := .cells #[.int .i64 t339, .int .i64 t340, .int .i64 t341, .int .i64 t342, .int .i64 t343, .int .i64 t344, .int .i64 t345] 23 (0, 0)) (by (with_reducible repeat (first | refine blk_drewN ?_ _ | refine blk_drew ?_ | refine blk_alloc ?_ _)); exact BK331.out) hb)
          have n1_ := Aside0.mk (below_step (by repeat (first | (with_reducible first | exact HB.out | apply below_alloc | apply pw_below_drewN | apply below_drew1 | refine below_set ?_ GE331.out) | exact HB.out)) hb)
          clear BK331
          clear HB
          have BK331 := n0_
          have HB := n1_
          clear n0_ n1_
          (try clear hb)
          (try clear hb2)
          (try clear hk)
          (try clear hi)
          refine hK.out _ _ ⟨(blk_cell BK331.out 0).trans rfl, (blk_cell BK331.out 1).trans rfl, (blk_cell BK331.out 2).trans rfl, (blk_cell BK331.out 3).trans rfl, (blk_cell BK331.out 4).trans rfl, (blk_cell BK331.out 5).trans rfl, (blk_cell BK331.out 6).trans rfl⟩ (fun hHeld => ?_)
          clear hK K
          refine norm_ (a' := ?_) ?_ ?_
          rotate_left
          · show Act.put _ (some 17) _ = _
            simp only [Act.put, List.setIfInBounds_toArray, List.set_cons_zero, List.set_cons_succ, i64_w, i32_w]
            rfl
          refine pure_ (i := 5) (N := some 3) (v := ?_) (a' := ?_) #[true, true, true, true, true, true, false] rfl rfl (by kernel_rfl) (fun _ _ _ h => h) (Or.inl ⟨by rfl, ?_⟩) ?_ ?_
          rotate_left
          · intro w'
            go_simp
            with_reducible rfl
          rotate_left
          · simp only [Act.put, List.setIfInBounds_toArray, List.set_cons_zero, List.set_cons_succ, i64_w, i32_w]
            rfl
          refine pure_ (i := 6) (N := some 4) (v := ?_) (a' := ?_) #[true, true, true, true, true, true, true] rfl rfl (by kernel_rfl) (fun _ _ _ h => h) (Or.inl ⟨by rfl, ?_⟩) ?_ ?_
          rotate_left
          · intro w'
            go_simp
            with_reducible rfl
          rotate_left
          · simp only [Act.put, List.setIfInBounds_toArray, List.set_cons_zero, List.set_cons_succ, i64_w, i32_w]
            rfl
          refine done_ (by kernel_rfl) ?_
          have hcz32_0 : w31.cell? ⟨gb331, 0, none⟩ = some (.int .i64 t339) := (blk_cell BK331.out 0).trans rfl
          have hcz32_1 : w31.cell? ⟨gb331, 1, none⟩ = some (.int .i64 t340) := (blk_cell BK331.out 1).trans rfl
          have hcz32_2 : w31.cell? ⟨gb331, 2, none⟩ = some (.int .i64 t341) := (blk_cell BK331.out 2).trans rfl
          have hcz32_3 : w31.cell? ⟨gb331, 3, none⟩ = some (.int .i64 t342) := (blk_cell BK331.out 3).trans rfl
          have hcz32_4 : w31.cell? ⟨gb331, 4, none⟩ = some (.int .i64 t343) := (blk_cell BK331.out 4).trans rfl
          have hcz32_5 : w31.cell? ⟨gb331, 5, none⟩ = some (.int .i64 t344) := (blk_cell BK331.out 5).trans rfl
          have hcz32_6 : w31.cell? ⟨gb331, 6, none⟩ = some (.int .i64 t345) := (blk_cell BK331.out 6).trans rfl
          have hfz32_0 := blk_frozen BK331.out 0
          have hfz32_1 := blk_frozen BK331.out 1
          have hfz32_2 := blk_frozen BK331.out 2
          have hfz32_3 := blk_frozen BK331.out 3
          have hfz32_4 := blk_frozen BK331.out 4
          have hfz32_5 := blk_frozen BK331.out 5
          have hfz32_6 := blk_frozen BK331.out 6
          try go_wp2_with (first | ((with_reducible refine gate_callee (f := 17) rfl ?_); refine goesL_ (some 20) rfl rfl Try.func17 (by kernel_rfl) rfl #[.agg #[.int .i64 t339, .int .i64 t340, .int .i64 t341, .int .i64 t342, .int .i64 t343, .int .i64 t344, .int .i64 t345]] rfl (by (try simp only [List.map_toArray, List.map_cons, List.map_nil]); first | done | rfl | (simp only [List.length_drop, List.length_take]; rfl)) ?_; (with_reducible refine (impl_TimeNumbers.calls k t339 t340 t341 t342 t343 t344 t345 t348 t349 t350 t351 t352 _ A6.out).mono ?_); rintro e w33 ⟨rfl, hb⟩; refine ⟨_, rfl, ?_⟩; have n0_ := Aside0.mk (blk_below (g := gb331) (o := .cells #[.int .i64 t339, .int .i64 t340, .int .i64 t341, .int .i64 t342, .int .i64 t343, .int .i64 t344, .int .i64 t345] 23 (0, 0)) (by (with_reducible repeat (first | refine blk_drewN ?_ _ | refine blk_drew ?_ | refine blk_alloc ?_ _)); exact BK331.out) hb); have n1_ := Aside0.mk (below_step (by repeat (first | (with_reducible first | exact HB.out | apply below_alloc | apply pw_below_drewN | apply below_drew1 | refine below_set ?_ GE331.out) | exact HB.out)) hb); clear BK331; clear HB; have BK331 := n0_; have HB := n1_; clear n0_ n1_; (try clear hb); (try clear hb2); (try clear hk); (try clear hi); have hcz34_0 : w33.cell? ⟨gb331, 0, none⟩ = some (.int .i64 t339) := (blk_cell BK331.out 0).trans rfl; have hcz34_1 : w33.cell? ⟨gb331, 1, none⟩ = some (.int .i64 t340) := (blk_cell BK331.out 1).trans rfl; have hcz34_2 : w33.cell? ⟨gb331, 2, none⟩ = some (.int .i64 t341) := (blk_cell BK331.out 2).trans rfl; have hcz34_3 : w33.cell? ⟨gb331, 3, none⟩ = some (.int .i64 t342) := (blk_cell BK331.out 3).trans rfl; have hcz34_4 : w33.cell? ⟨gb331, 4, none⟩ = some (.int .i64 t343) := (blk_cell BK331.out 4).trans rfl; have hcz34_5 : w33.cell? ⟨gb331, 5, none⟩ = some (.int .i64 t344) := (blk_cell BK331.out 5).trans rfl; have hcz34_6 : w33.cell? ⟨gb331, 6, none⟩ = some (.int .i64 t345) := (blk_cell BK331.out 6).trans rfl; have hfz34_0 := blk_frozen BK331.out 0; have hfz34_1 := blk_frozen BK331.out 1; have hfz34_2 := blk_frozen BK331.out 2; have hfz34_3 := blk_frozen BK331.out 3; have hfz34_4 := blk_frozen BK331.out 4; have hfz34_5 := blk_frozen BK331.out 5; have hfz34_6 := blk_frozen BK331.out 6))
          go_ret
          exact ⟨by first | rfl | (simp [errW_none, errW_some] <;> rfl) | (simp [*, errW_none, errW_some] <;> rfl), by repeat (first | (with_reducible first | exact HB.out | apply below_alloc | apply pw_below_drewN | apply below_drew1 | refine below_set ?_ GE331.out) | exact HB.out)⟩
      · rw [if_neg c9] at H
        have c9b0 : (t349 == (wrap64 ((wrap64 ((wrap64 ((wrap64 (t346 - 1721424)) * 86400)) + t347)) + 1))) = false := beq_eq_false_iff_ne.mpr c9
        have c9b1 : (t349 != (wrap64 ((wrap64 ((wrap64 ((wrap64 (t346 - 1721424)) * 86400)) + t347)) + 1))) = true := bne_iff_ne.mpr c9
        obtain rfl := Option.some.inj H
        go_enter Try.func6, Try.ntmps6
        try go_wp2_with (first | ((with_reducible refine gate_dst (N := 1) rfl ?_); refine box_event ?hg (N := 1) ?hd (cs := #[.int .i64 a0_0, .int .i64 a0_1, .int .i64 a0_2, .int .i64 a0_3, .int .i64 a0_4, .int .i64 a0_5, .int .i64 a0_6]) (t := 23) ?hr ?_; (case hd => rfl); (case hg => rfl); (case hr => first | (go_simp; done) | (go_simp; rfl)); intro gb331 hg w35 hbox hb; have n0_ := Aside0.mk (below_step (by repeat (first | (with_reducible first | exact HB.out | apply below_alloc | apply pw_below_drewN | apply below_drew1) | exact HB.out)) hb); have n1_ := Aside0.mk (hbox); have n2_ := Aside0.mk ((by rw [hg]; exact (below_size (by repeat (first | (with_reducible first | exact HB.out | apply below_alloc | apply pw_below_drewN | apply below_drew1) | exact HB.out))) : w.heap.size ≤ gb331)); have n3_ := Aside0.mk ((by rw [hg]; exact (below_size (by repeat (first | (with_reducible first | exact HB.out | apply below_alloc | apply pw_below_drewN | apply below_drew1) | exact HB.out))) : w.heap.size ≤ gb331)); clear HB; have HB := n0_; have BK331 := n1_; have GW331 := n2_; have GE331 := n3_; clear n0_ n1_ n2_ n3_; clear hb hbox hg; have hcz36_0 : w35.cell? ⟨gb331, 0, none⟩ = some (.int .i64 a0_0) := (blk_cell BK331.out 0).trans rfl; have hcz36_1 : w35.cell? ⟨gb331, 1, none⟩ = some (.int .i64 a0_1) := (blk_cell BK331.out 1).trans rfl; have hcz36_2 : w35.cell? ⟨gb331, 2, none⟩ = some (.int .i64 a0_2) := (blk_cell BK331.out 2).trans rfl; have hcz36_3 : w35.cell? ⟨gb331, 3, none⟩ = some (.int .i64 a0_3) := (blk_cell BK331.out 3).trans rfl; have hcz36_4 : w35.cell? ⟨gb331, 4, none⟩ = some (.int .i64 a0_4) := (blk_cell BK331.out 4).trans rfl; have hcz36_5 : w35.cell? ⟨gb331, 5, none⟩ = some (.int .i64 a0_5) := (blk_cell BK331.out 5).trans rfl; have hcz36_6 : w35.cell? ⟨gb331, 6, none⟩ = some (.int .i64 a0_6) := (blk_cell BK331.out 6).trans rfl; have hfz36_0 := blk_frozen BK331.out 0; have hfz36_1 := blk_frozen BK331.out 1; have hfz36_2 := blk_frozen BK331.out 2; have hfz36_3 := blk_frozen BK331.out 3; have hfz36_4 := blk_frozen BK331.out 4; have hfz36_5 := blk_frozen BK331.out 5; have hfz36_6 := blk_frozen BK331.out 6) | ((with_reducible refine gate_callee (f := 9) rfl ?_); refine goesL_ (some 11) rfl rfl Try.func9 (by kernel_rfl) rfl #[.agg #[.int .i64 a0_0, .int .i64 a0_1, .int .i64 a0_2, .int .i64 a0_3, .int .i64 a0_4, .int .i64 a0_5, .int .i64 a0_6]] rfl (by (try simp only [List.map_toArray, List.map_cons, List.map_nil]); first | done | rfl | (simp only [List.length_drop, List.length_take]; rfl)) ?_; (with_reducible refine (laws_juTime.calls a0_0 a0_1 a0_2 a0_3 a0_4 a0_5 a0_6 t332 t333 t334 t335 t336 t337 t338 _ A2.out).mono ?_); rintro e w37 ⟨rfl, hb⟩; refine ⟨_, rfl, ?_⟩; have n0_ := Aside0.mk (blk_below (g := gb331) (o := .cells #[.int .i64 a0_0, .int .i64 a0_1, .int .i64 a0_2, .int .i64 a0_3, .int .i64 a0_4, .int .i64 a0_5, .int .i64 a0_6] 23 (0, 0)) (by (with_reducible repeat (first | refine blk_drewN ?_ _ | refine blk_drew ?_ | refine blk_alloc ?_ _)); exact BK331.out) hb); have n1_ := Aside0.mk (below_step (by repeat (first | (with_reducible first | exact HB.out | apply below_alloc | apply pw_below_drewN | apply below_drew1 | refine below_set ?_ GE331.out) | exact HB.out)) hb); clear BK331; clear HB; have BK331 := n0_; have HB := n1_; clear n0_ n1_; (try clear hb); (try clear hb2); (try clear hk); (try clear hi)) | ((with_reducible refine gate_callee (f := 11) rfl ?_); refine goesL_ (some 12) rfl rfl Try.func11 (by kernel_rfl) rfl #[.agg #[.int .i64 t332, .int .i64 t333, .int .i64 t334, .int .i64 t335, .int .i64 t336, .int .i64 t337, .int .i64 t338]] rfl (by (try simp only [List.map_toArray, List.map_cons, List.map_nil]); first | done | rfl | (simp only [List.length_drop, List.length_take]; rfl)) ?_; (with_reducible refine (spec_JuMade.calls k t332 t333 t334 t335 t336 t337 t338 t339 t340 t341 t342 t343 t344 t345 _ A3.out).mono ?_); rintro e w38 ⟨rfl, hb⟩; refine ⟨_, rfl, ?_⟩; have n0_ := Aside0.mk (blk_below (g := gb331) (o := .cells #[.int .i64 a0_0, .int .i64 a0_1, .int .i64 a0_2, .int .i64 a0_3, .int .i64 a0_4, .int .i64 a0_5, .int .i64 a0_6] 23 (0, 0)) (by (with_reducible repeat (first | refine blk_drewN ?_ _ | refine blk_drew ?_ | refine blk_alloc ?_ _)); exact BK331.out) hb); have n1_ := Aside0.mk (below_step (by repeat (first | (with_reducible first | exact HB.out | apply below_alloc | apply pw_below_drewN | apply below_drew1 | refine below_set ?_ GE331.out) | exact HB.out)) hb); clear BK331; clear HB; have BK331 := n0_; have HB := n1_; clear n0_ n1_; (try clear hb); (try clear hb2); (try clear hk); (try clear hi); have hcz39_0 : w38.cell? ⟨gb331, 0, none⟩ = some (.int .i64 a0_0) := (blk_cell BK331.out 0).trans rfl; have hcz39_1 : w38.cell? ⟨gb331, 1, none⟩ = some (.int .i64 a0_1) := (blk_cell BK331.out 1).trans rfl; have hcz39_2 : w38.cell? ⟨gb331, 2, none⟩ = some (.int .i64 a0_2) := (blk_cell BK331.out 2).trans rfl; have hcz39_3 : w38.cell? ⟨gb331, 3, none⟩ = some (.int .i64 a0_3) := (blk_cell BK331.out 3).trans rfl; have hcz39_4 : w38.cell? ⟨gb331, 4, none⟩ = some (.int .i64 a0_4) := (blk_cell BK331.out 4).trans rfl; have hcz39_5 : w38.cell? ⟨gb331, 5, none⟩ = some (.int .i64 a0_5) := (blk_cell BK331.out 5).trans rfl; have hcz39_6 : w38.cell? ⟨gb331, 6, none⟩ = some (.int .i64 a0_6) := (blk_cell BK331.out 6).trans rfl; have hfz39_0 := blk_frozen BK331.out 0; have hfz39_1 := blk_frozen BK331.out 1; have hfz39_2 := blk_frozen BK331.out 2; have hfz39_3 := blk_frozen BK331.out 3; have hfz39_4 := blk_frozen BK331.out 4; have hfz39_5 := blk_frozen BK331.out 5; have hfz39_6 := blk_frozen BK331.out 6))
        have n0_ : Aside0 ((((((((w38.setCell ⟨gb331, 0, none⟩ (.int .i64 t339)).setCell ⟨gb331, 1, none⟩ (.int .i64 t340)).setCell ⟨gb331, 2, none⟩ (.int .i64 t341)).setCell ⟨gb331, 3, none⟩ (.int .i64 t342)).setCell ⟨gb331, 4, none⟩ (.int .i64 t343)).setCell ⟨gb331, 5, none⟩ (.int .i64 t344)).setCell ⟨gb331, 6, none⟩ (.int .i64 t345)).heap[gb331]? = some (.cells #[.int .i64 t339, .int .i64 t340, .int .i64 t341, .int .i64 t342, .int .i64 t343, .int .i64 t344, .int .i64 t345] 23 (0, 0))) := ⟨by (with_reducible repeat (first | refine blk_drewN ?_ _ | refine blk_drew ?_ | refine blk_alloc ?_ _)); refine blk_put (cs := #[.int .i64 t339, .int .i64 t340, .int .i64 t341, .int .i64 t342, .int .i64 t343, .int .i64 t344, .int .i64 a0_6]) ?_ 6 _ rfl; (with_reducible repeat (first | refine blk_drewN ?_ _ | refine blk_drew ?_ | refine blk_alloc ?_ _)); refine blk_put (cs := #[.int .i64 t339, .int .i64 t340, .int .i64 t341, .int .i64 t342, .int .i64 t343, .int .i64 a0_5, .int .i64 a0_6]) ?_ 5 _ rfl; (with_reducible repeat (first | refine blk_drewN ?_ _ | refine blk_drew ?_ | refine blk_alloc ?_ _)); refine blk_put (cs := #[.int .i64 t339, .int .i64 t340, .int .i64 t341, .int .i64 t342, .int .i64 a0_4, .int .i64 a0_5, .int .i64 a0_6]) ?_ 4 _ rfl; (with_reducible repeat (first | refine blk_drewN ?_ _ | refine blk_drew ?_ | refine blk_alloc ?_ _)); refine blk_put (cs := #[.int .i64 t339, .int .i64 t340, .int .i64 t341, .int .i64 a0_3, .int .i64 a0_4, .int .i64 a0_5, .int .i64 a0_6]) ?_ 3 _ rfl; (with_reducible repeat (first | refine blk_drewN ?_ _ | refine blk_drew ?_ | refine blk_alloc ?_ _)); refine blk_put (cs := #[.int .i64 t339, .int .i64 t340, .int .i64 a0_2, .int .i64 a0_3, .int .i64 a0_4, .int .i64 a0_5, .int .i64 a0_6]) ?_ 2 _ rfl; (with_reducible repeat (first | refine blk_drewN ?_ _ | refine blk_drew ?_ | refine blk_alloc ?_ _)); refine blk_put (cs := #[.int .i64 t339, .int .i64 a0_1, .int .i64 a0_2, .int .i64 a0_3, .int .i64 a0_4, .int .i64 a0_5, .int .i64 a0_6]) ?_ 1 _ rfl; (with_reducible repeat (first | refine blk_drewN ?_ _ | refine blk_drew ?_ | refine blk_alloc ?_ _)); refine blk_put (cs := #[.int .i64 a0_0, .int .i64 a0_1, .int .i64 a0_2, .int .i64 a0_3, .int .i64 a0_4, .int .i64 a0_5, .int .i64 a0_6]) ?_ 0 _ rfl; (with_reducible repeat (first | refine blk_drewN ?_ _ | refine blk_drew ?_ | refine blk_alloc ?_ _)); exact BK331.out⟩
        have n1_ : Aside0 (Below w.heap.size w (((((((w38.setCell ⟨gb331, 0, none⟩ (.int .i64 t339)).setCell ⟨gb331, 1, none⟩ (.int .i64 t340)).setCell ⟨gb331, 2, none⟩ (.int .i64 t341)).setCell ⟨gb331, 3, none⟩ (.int .i64 t342)).setCell ⟨gb331, 4, none⟩ (.int .i64 t343)).setCell ⟨gb331, 5, none⟩ (.int .i64 t344)).setCell ⟨gb331, 6, none⟩ (.int .i64 t345))) := ⟨by repeat (first | (with_reducible first | exact HB.out | apply below_alloc | apply pw_below_drewN | apply below_drew1 | refine below_set ?_ GE331.out) | exact HB.out)⟩
        (try clear BK331)
        (try clear HB)
        generalize (((((((w38.setCell ⟨gb331, 0, none⟩ (.int .i64 t339)).setCell ⟨gb331, 1, none⟩ (.int .i64 t340)).setCell ⟨gb331, 2, none⟩ (.int .i64 t341)).setCell ⟨gb331, 3, none⟩ (.int .i64 t342)).setCell ⟨gb331, 4, none⟩ (.int .i64 t343)).setCell ⟨gb331, 5, none⟩ (.int .i64 t344)).setCell ⟨gb331, 6, none⟩ (.int .i64 t345)) = w40 at n0_ n1_ ⊢
        have BK331 := n0_
        have HB := n1_
        clear n0_ n1_
        have n0_ := Aside0.mk (blk_drew BK331.out)
        have n1_ := Aside0.mk (below_drew1 HB.out)
        clear BK331
        clear HB
        have BK331 := n0_
        have HB := n1_
        clear n0_ n1_
        refine start_ (n := 7) (S := fun w' => w'.cell? ⟨gb331, 0, none⟩ = some (.int .i64 t339) ∧ w'.cell? ⟨gb331, 1, none⟩ = some (.int .i64 t340) ∧ w'.cell? ⟨gb331, 2, none⟩ = some (.int .i64 t341) ∧ w'.cell? ⟨gb331, 3, none⟩ = some (.int .i64 t342) ∧ w'.cell? ⟨gb331, 4, none⟩ = some (.int .i64 t343) ∧ w'.cell? ⟨gb331, 5, none⟩ = some (.int .i64 t344) ∧ w'.cell? ⟨gb331, 6, none⟩ = some (.int .i64 t345)) (ds := []) #[false, false, false, false, false, false, false] (by kernel_rfl) rfl rfl ⟨(blk_cell BK331.out 0).trans rfl, (blk_cell BK331.out 1).trans rfl, (blk_cell BK331.out 2).trans rfl, (blk_cell BK331.out 3).trans rfl, (blk_cell BK331.out 4).trans rfl, (blk_cell BK331.out 5).trans rfl, (blk_cell BK331.out 6).trans rfl⟩ (fun hHeld => ?_)
        generalize w40.drew = w41 at BK331 HB hHeld ⊢
        refine take_ (i := 0) (N := some 13) (v := ?_) (a' := ?_) #[true, false, false, false, false, false, false] rfl rfl (by kernel_rfl) (fun _ _ _ h => h) (Or.inl ⟨by rfl, ?_⟩) hHeld ?_ ?_
        rotate_left
        · rintro w' ⟨s0, s1, s2, s3, s4, s5, s6⟩
          go_simp
          with_reducible rfl
        rotate_left
        · simp only [Act.put, List.setIfInBounds_toArray, List.set_cons_zero, List.set_cons_succ, i64_w, i32_w]
          rfl
        refine take_ (i := 3) (N := some 16) (v := ?_) (a' := ?_) #[true, false, false, true, false, false, false] rfl rfl (by kernel_rfl) (fun _ _ _ h => h) (Or.inl ⟨by rfl, ?_⟩) hHeld ?_ ?_
        rotate_left
        · rintro w' ⟨s0, s1, s2, s3, s4, s5, s6⟩
          go_simp
          with_reducible rfl
        rotate_left
        · simp only [Act.put, List.setIfInBounds_toArray, List.set_cons_zero, List.set_cons_succ, i64_w, i32_w]
          rfl
        refine one_ (i := 1) (N := some 14) #[true, true, false, true, false, false, false] rfl rfl (by kernel_rfl) (by decide) (fun K hK => ?_)
        refine goes_ Try.func15 (by kernel_rfl) rfl #[.agg #[.int .i64 t339, .int .i64 t340, .int .i64 t341, .int .i64 t342, .int .i64 t343, .int .i64 t344, .int .i64 t345]] (by rfl) rfl rfl (by (try simp only [List.map_toArray, List.map_cons, List.map_nil]); first | done | rfl | (simp only [List.length_drop, List.length_take]; rfl)) ?_
        with_reducible refine (spec_JuDayOf.calls k t339 t340 t341 t342 t343 t344 t345 t346 _ A4.out).mono ?_
        rintro e w42 ⟨rfl, hb⟩
        refine ⟨_, rfl, ?_⟩
        have n0_ := Aside0.mk (blk_below (g := gb331) (o := .cells #[.int .i64 t339, .int .i64 t340, .int .i64 t341, .int .i64 t342, .int .i64 t343, .int .i64 t344, .int .i64 t345] 23 (0, 0)) (by (with_reducible repeat (first | refine blk_drewN ?_ _ | refine blk_drew ?_ | refine blk_alloc ?_ _)); exact BK331.out) hb)
        have n1_ := Aside0.mk (below_step (by repeat (first | (with_reducible first | exact HB.out | apply below_alloc | apply pw_below_drewN | apply below_drew1 | refine below_set ?_ GE331.out) | exact HB.out)) hb)
        clear BK331
        clear HB
        have BK331 := n0_
        have HB := n1_
        clear n0_ n1_
        (try clear hb)
        (try clear hb2)
        (try clear hk)
        (try clear hi)
        refine hK.out _ _ ⟨(blk_cell BK331.out 0).trans rfl, (blk_cell BK331.out 1).trans rfl, (blk_cell BK331.out 2).trans rfl, (blk_cell BK331.out 3).trans rfl, (blk_cell BK331.out 4).trans rfl, (blk_cell BK331.out 5).trans rfl, (blk_cell BK331.out 6).trans rfl⟩ (fun hHeld => ?_)
        clear hK K
        refine norm_ (a' := ?_) ?_ ?_
        rotate_left
        · show Act.put _ (some 14) _ = _
          simp only [Act.put, List.setIfInBounds_toArray, List.set_cons_zero, List.set_cons_succ, i64_w, i32_w]
          rfl
        refine pure_ (i := 2) (N := some 15) (v := ?_) (a' := ?_) #[true, true, true, true, false, false, false] rfl rfl (by kernel_rfl) (fun _ _ _ h => h) (Or.inl ⟨by rfl, ?_⟩) ?_ ?_
        rotate_left
        · intro w'
          go_simp
          with_reducible rfl
        rotate_left
        · simp only [Act.put, List.setIfInBounds_toArray, List.set_cons_zero, List.set_cons_succ, i64_w, i32_w]
          rfl
        refine one_ (i := 4) (N := some 17) #[true, true, true, true, true, false, false] rfl rfl (by kernel_rfl) (by decide) (fun K hK => ?_)
        refine goes_ Try.func16 (by kernel_rfl) rfl #[.agg #[.int .i64 t339, .int .i64 t340, .int .i64 t341, .int .i64 t342, .int .i64 t343, .int .i64 t344, .int .i64 t345]] (by rfl) rfl rfl (by (try simp only [List.map_toArray, List.map_cons, List.map_nil]); first | done | rfl | (simp only [List.length_drop, List.length_take]; rfl)) ?_
        with_reducible refine (spec_JuSeconds.calls t339 t340 t341 t342 t343 t344 t345 t347 _ A5.out).mono ?_
        rintro e w43 ⟨rfl, hb⟩
        refine ⟨_, rfl, ?_⟩
        have n0_ := Aside0.mk (blk_below (g := gb331) (o := .cells #[.int .i64 t339, .int .i64 t340, .int .i64 t341, .int .i64 t342, .int .i64 t343, .int .i64 t344, .int .i64 t345] 23 (0, 0)) (by (with_reducible repeat (first | refine blk_drewN ?_ _ | refine blk_drew ?_ | refine blk_alloc ?_ _)); exact BK331.out) hb)
        have n1_ := Aside0.mk (below_step (by repeat (first | (with_reducible first | exact HB.out | apply below_alloc | apply pw_below_drewN | apply below_drew1 | refine below_set ?_ GE331.out) | exact HB.out)) hb)
        clear BK331
        clear HB
        have BK331 := n0_
        have HB := n1_
        clear n0_ n1_
        (try clear hb)
        (try clear hb2)
        (try clear hk)
        (try clear hi)
        refine hK.out _ _ ⟨(blk_cell BK331.out 0).trans rfl, (blk_cell BK331.out 1).trans rfl, (blk_cell BK331.out 2).trans rfl, (blk_cell BK331.out 3).trans rfl, (blk_cell BK331.out 4).trans rfl, (blk_cell BK331.out 5).trans rfl, (blk_cell BK331.out 6).trans rfl⟩ (fun hHeld => ?_)
        clear hK K
        refine norm_ (a' := ?_) ?_ ?_
        rotate_left
        · show Act.put _ (some 17) _ = _
          simp only [Act.put, List.setIfInBounds_toArray, List.set_cons_zero, List.set_cons_succ, i64_w, i32_w]
          rfl
        refine pure_ (i := 5) (N := some 3) (v := ?_) (a' := ?_) #[true, true, true, true, true, true, false] rfl rfl (by kernel_rfl) (fun _ _ _ h => h) (Or.inl ⟨by rfl, ?_⟩) ?_ ?_
        rotate_left
        · intro w'
          go_simp
          with_reducible rfl
        rotate_left
        · simp only [Act.put, List.setIfInBounds_toArray, List.set_cons_zero, List.set_cons_succ, i64_w, i32_w]
          rfl
        refine pure_ (i := 6) (N := some 4) (v := ?_) (a' := ?_) #[true, true, true, true, true, true, true] rfl rfl (by kernel_rfl) (fun _ _ _ h => h) (Or.inl ⟨by rfl, ?_⟩) ?_ ?_
        rotate_left
        · intro w'
          go_simp
          with_reducible rfl
        rotate_left
        · simp only [Act.put, List.setIfInBounds_toArray, List.set_cons_zero, List.set_cons_succ, i64_w, i32_w]
          rfl
        refine done_ (by kernel_rfl) ?_
        have hcz44_0 : w43.cell? ⟨gb331, 0, none⟩ = some (.int .i64 t339) := (blk_cell BK331.out 0).trans rfl
        have hcz44_1 : w43.cell? ⟨gb331, 1, none⟩ = some (.int .i64 t340) := (blk_cell BK331.out 1).trans rfl
        have hcz44_2 : w43.cell? ⟨gb331, 2, none⟩ = some (.int .i64 t341) := (blk_cell BK331.out 2).trans rfl
        have hcz44_3 : w43.cell? ⟨gb331, 3, none⟩ = some (.int .i64 t342) := (blk_cell BK331.out 3).trans rfl
        have hcz44_4 : w43.cell? ⟨gb331, 4, none⟩ = some (.int .i64 t343) := (blk_cell BK331.out 4).trans rfl
        have hcz44_5 : w43.cell? ⟨gb331, 5, none⟩ = some (.int .i64 t344) := (blk_cell BK331.out 5).trans rfl
        have hcz44_6 : w43.cell? ⟨gb331, 6, none⟩ = some (.int .i64 t345) := (blk_cell BK331.out 6).trans rfl
        have hfz44_0 := blk_frozen BK331.out 0
        have hfz44_1 := blk_frozen BK331.out 1
        have hfz44_2 := blk_frozen BK331.out 2
        have hfz44_3 := blk_frozen BK331.out 3
        have hfz44_4 := blk_frozen BK331.out 4
        have hfz44_5 := blk_frozen BK331.out 5
        have hfz44_6 := blk_frozen BK331.out 6
        try go_wp2_with (first | ((with_reducible refine gate_callee (f := 17) rfl ?_); refine goesL_ (some 20) rfl rfl Try.func17 (by kernel_rfl) rfl #[.agg #[.int .i64 t339, .int .i64 t340, .int .i64 t341, .int .i64 t342, .int .i64 t343, .int .i64 t344, .int .i64 t345]] rfl (by (try simp only [List.map_toArray, List.map_cons, List.map_nil]); first | done | rfl | (simp only [List.length_drop, List.length_take]; rfl)) ?_; (with_reducible refine (impl_TimeNumbers.calls k t339 t340 t341 t342 t343 t344 t345 t348 t349 t350 t351 t352 _ A6.out).mono ?_); rintro e w45 ⟨rfl, hb⟩; refine ⟨_, rfl, ?_⟩; have n0_ := Aside0.mk (blk_below (g := gb331) (o := .cells #[.int .i64 t339, .int .i64 t340, .int .i64 t341, .int .i64 t342, .int .i64 t343, .int .i64 t344, .int .i64 t345] 23 (0, 0)) (by (with_reducible repeat (first | refine blk_drewN ?_ _ | refine blk_drew ?_ | refine blk_alloc ?_ _)); exact BK331.out) hb); have n1_ := Aside0.mk (below_step (by repeat (first | (with_reducible first | exact HB.out | apply below_alloc | apply pw_below_drewN | apply below_drew1 | refine below_set ?_ GE331.out) | exact HB.out)) hb); clear BK331; clear HB; have BK331 := n0_; have HB := n1_; clear n0_ n1_; (try clear hb); (try clear hb2); (try clear hk); (try clear hi); have hcz46_0 : w45.cell? ⟨gb331, 0, none⟩ = some (.int .i64 t339) := (blk_cell BK331.out 0).trans rfl; have hcz46_1 : w45.cell? ⟨gb331, 1, none⟩ = some (.int .i64 t340) := (blk_cell BK331.out 1).trans rfl; have hcz46_2 : w45.cell? ⟨gb331, 2, none⟩ = some (.int .i64 t341) := (blk_cell BK331.out 2).trans rfl; have hcz46_3 : w45.cell? ⟨gb331, 3, none⟩ = some (.int .i64 t342) := (blk_cell BK331.out 3).trans rfl; have hcz46_4 : w45.cell? ⟨gb331, 4, none⟩ = some (.int .i64 t343) := (blk_cell BK331.out 4).trans rfl; have hcz46_5 : w45.cell? ⟨gb331, 5, none⟩ = some (.int .i64 t344) := (blk_cell BK331.out 5).trans rfl; have hcz46_6 : w45.cell? ⟨gb331, 6, none⟩ = some (.int .i64 t345) := (blk_cell BK331.out 6).trans rfl; have hfz46_0 := blk_frozen BK331.out 0; have hfz46_1 := blk_frozen BK331.out 1; have hfz46_2 := blk_frozen BK331.out 2; have hfz46_3 := blk_frozen BK331.out 3; have hfz46_4 := blk_frozen BK331.out 4; have hfz46_5 := blk_frozen BK331.out 5; have hfz46_6 := blk_frozen BK331.out 6))
        go_ret
        exact ⟨by first | rfl | (simp [errW_none, errW_some] <;> rfl) | (simp [*, errW_none, errW_some] <;> rfl), by repeat (first | (with_reducible first | exact HB.out | apply below_alloc | apply pw_below_drewN | apply below_drew1 | refine below_set ?_ GE331.out) | exact HB.out)⟩
    · rw [if_neg c8] at H
      have c8b0 : (t348 == (wrap64 ((wrap64 ((wrap64 ((wrap64 ((wrap64 ((wrap64 (t346 - 1721424)) * 86400)) + t347)) * 10000000)) + (wrap64 (Int.tdiv t345 100)))) + 1))) = false := beq_eq_false_iff_ne.mpr c8
      have c8b1 : (t348 != (wrap64 ((wrap64 ((wrap64 ((wrap64 ((wrap64 ((wrap64 (t346 - 1721424)) * 86400)) + t347)) * 10000000)) + (wrap64 (Int.tdiv t345 100)))) + 1))) = true := bne_iff_ne.mpr c8
      obtain rfl := Option.some.inj H
      go_enter Try.func6, Try.ntmps6
      try go_wp2_with (first | ((with_reducible refine gate_dst (N := 1) rfl ?_); refine box_event ?hg (N := 1) ?hd (cs := #[.int .i64 a0_0, .int .i64 a0_1, .int .i64 a0_2, .int .i64 a0_3, .int .i64 a0_4, .int .i64 a0_5, .int .i64 a0_6]) (t := 23) ?hr ?_; (case hd => rfl); (case hg => rfl); (case hr => first | (go_simp; done) | (go_simp; rfl)); intro gb331 hg w47 hbox hb; have n0_ := Aside0.mk (below_step (by repeat (first | (with_reducible first | exact HB.out | apply below_alloc | apply pw_below_drewN | apply below_drew1) | exact HB.out)) hb); have n1_ := Aside0.mk (hbox); have n2_ := Aside0.mk ((by rw [hg]; exact (below_size (by repeat (first | (with_reducible first | exact HB.out | apply below_alloc | apply pw_below_drewN | apply below_drew1) | exact HB.out))) : w.heap.size ≤ gb331)); have n3_ := Aside0.mk ((by rw [hg]; exact (below_size (by repeat (first | (with_reducible first | exact HB.out | apply below_alloc | apply pw_below_drewN | apply below_drew1) | exact HB.out))) : w.heap.size ≤ gb331)); clear HB; have HB := n0_; have BK331 := n1_; have GW331 := n2_; have GE331 := n3_; clear n0_ n1_ n2_ n3_; clear hb hbox hg; have hcz48_0 : w47.cell? ⟨gb331, 0, none⟩ = some (.int .i64 a0_0) := (blk_cell BK331.out 0).trans rfl; have hcz48_1 : w47.cell? ⟨gb331, 1, none⟩ = some (.int .i64 a0_1) := (blk_cell BK331.out 1).trans rfl; have hcz48_2 : w47.cell? ⟨gb331, 2, none⟩ = some (.int .i64 a0_2) := (blk_cell BK331.out 2).trans rfl; have hcz48_3 : w47.cell? ⟨gb331, 3, none⟩ = some (.int .i64 a0_3) := (blk_cell BK331.out 3).trans rfl; have hcz48_4 : w47.cell? ⟨gb331, 4, none⟩ = some (.int .i64 a0_4) := (blk_cell BK331.out 4).trans rfl; have hcz48_5 : w47.cell? ⟨gb331, 5, none⟩ = some (.int .i64 a0_5) := (blk_cell BK331.out 5).trans rfl; have hcz48_6 : w47.cell? ⟨gb331, 6, none⟩ = some (.int .i64 a0_6) := (blk_cell BK331.out 6).trans rfl; have hfz48_0 := blk_frozen BK331.out 0; have hfz48_1 := blk_frozen BK331.out 1; have hfz48_2 := blk_frozen BK331.out 2; have hfz48_3 := blk_frozen BK331.out 3; have hfz48_4 := blk_frozen BK331.out 4; have hfz48_5 := blk_frozen BK331.out 5; have hfz48_6 := blk_frozen BK331.out 6) | ((with_reducible refine gate_callee (f := 9) rfl ?_); refine goesL_ (some 11) rfl rfl Try.func9 (by kernel_rfl) rfl #[.agg #[.int .i64 a0_0, .int .i64 a0_1, .int .i64 a0_2, .int .i64 a0_3, .int .i64 a0_4, .int .i64 a0_5, .int .i64 a0_6]] rfl (by (try simp only [List.map_toArray, List.map_cons, List.map_nil]); first | done | rfl | (simp only [List.length_drop, List.length_take]; rfl)) ?_; (with_reducible refine (laws_juTime.calls a0_0 a0_1 a0_2 a0_3 a0_4 a0_5 a0_6 t332 t333 t334 t335 t336 t337 t338 _ A2.out).mono ?_); rintro e w49 ⟨rfl, hb⟩; refine ⟨_, rfl, ?_⟩; have n0_ := Aside0.mk (blk_below (g := gb331) (o := .cells #[.int .i64 a0_0, .int .i64 a0_1, .int .i64 a0_2, .int .i64 a0_3, .int .i64 a0_4, .int .i64 a0_5, .int .i64 a0_6] 23 (0, 0)) (by (with_reducible repeat (first | refine blk_drewN ?_ _ | refine blk_drew ?_ | refine blk_alloc ?_ _)); exact BK331.out) hb); have n1_ := Aside0.mk (below_step (by repeat (first | (with_reducible first | exact HB.out | apply below_alloc | apply pw_below_drewN | apply below_drew1 | refine below_set ?_ GE331.out) | exact HB.out)) hb); clear BK331; clear HB; have BK331 := n0_; have HB := n1_; clear n0_ n1_; (try clear hb); (try clear hb2); (try clear hk); (try clear hi)) | ((with_reducible refine gate_callee (f := 11) rfl ?_); refine goesL_ (some 12) rfl rfl Try.func11 (by kernel_rfl) rfl #[.agg #[.int .i64 t332, .int .i64 t333, .int .i64 t334, .int .i64 t335, .int .i64 t336, .int .i64 t337, .int .i64 t338]] rfl (by (try simp only [List.map_toArray, List.map_cons, List.map_nil]); first | done | rfl | (simp only [List.length_drop, List.length_take]; rfl)) ?_; (with_reducible refine (spec_JuMade.calls k t332 t333 t334 t335 t336 t337 t338 t339 t340 t341 t342 t343 t344 t345 _ A3.out).mono ?_); rintro e w50 ⟨rfl, hb⟩; refine ⟨_, rfl, ?_⟩; have n0_ := Aside0.mk (blk_below (g := gb331) (o := .cells #[.int .i64 a0_0, .int .i64 a0_1, .int .i64 a0_2, .int .i64 a0_3, .int .i64 a0_4, .int .i64 a0_5, .int .i64 a0_6] 23 (0, 0)) (by (with_reducible repeat (first | refine blk_drewN ?_ _ | refine blk_drew ?_ | refine blk_alloc ?_ _)); exact BK331.out) hb); have n1_ := Aside0.mk (below_step (by repeat (first | (with_reducible first | exact HB.out | apply below_alloc | apply pw_below_drewN | apply below_drew1 | refine below_set ?_ GE331.out) | exact HB.out)) hb); clear BK331; clear HB; have BK331 := n0_; have HB := n1_; clear n0_ n1_; (try clear hb); (try clear hb2); (try clear hk); (try clear hi); have hcz51_0 : w50.cell? ⟨gb331, 0, none⟩ = some (.int .i64 a0_0) := (blk_cell BK331.out 0).trans rfl; have hcz51_1 : w50.cell? ⟨gb331, 1, none⟩ = some (.int .i64 a0_1) := (blk_cell BK331.out 1).trans rfl; have hcz51_2 : w50.cell? ⟨gb331, 2, none⟩ = some (.int .i64 a0_2) := (blk_cell BK331.out 2).trans rfl; have hcz51_3 : w50.cell? ⟨gb331, 3, none⟩ = some (.int .i64 a0_3) := (blk_cell BK331.out 3).trans rfl; have hcz51_4 : w50.cell? ⟨gb331, 4, none⟩ = some (.int .i64 a0_4) := (blk_cell BK331.out 4).trans rfl; have hcz51_5 : w50.cell? ⟨gb331, 5, none⟩ = some (.int .i64 a0_5) := (blk_cell BK331.out 5).trans rfl; have hcz51_6 : w50.cell? ⟨gb331, 6, none⟩ = some (.int .i64 a0_6) := (blk_cell BK331.out 6).trans rfl; have hfz51_0 := blk_frozen BK331.out 0; have hfz51_1 := blk_frozen BK331.out 1; have hfz51_2 := blk_frozen BK331.out 2; have hfz51_3 := blk_frozen BK331.out 3; have hfz51_4 := blk_frozen BK331.out 4; have hfz51_5 := blk_frozen BK331.out 5; have hfz51_6 := blk_frozen BK331.out 6))
      have n0_ : Aside0 ((((((((w50.setCell ⟨gb331, 0, none⟩ (.int .i64 t339)).setCell ⟨gb331, 1, none⟩ (.int .i64 t340)).setCell ⟨gb331, 2, none⟩ (.int .i64 t341)).setCell ⟨gb331, 3, none⟩ (.int .i64 t342)).setCell ⟨gb331, 4, none⟩ (.int .i64 t343)).setCell ⟨gb331, 5, none⟩ (.int .i64 t344)).setCell ⟨gb331, 6, none⟩ (.int .i64 t345)).heap[gb331]? = some (.cells #[.int .i64 t339, .int .i64 t340, .int .i64 t341, .int .i64 t342, .int .i64 t343, .int .i64 t344, .int .i64 t345] 23 (0, 0))) := ⟨by (with_reducible repeat (first | refine blk_drewN ?_ _ | refine blk_drew ?_ | refine blk_alloc ?_ _)); refine blk_put (cs := #[.int .i64 t339, .int .i64 t340, .int .i64 t341, .int .i64 t342, .int .i64 t343, .int .i64 t344, .int .i64 a0_6]) ?_ 6 _ rfl; (with_reducible repeat (first | refine blk_drewN ?_ _ | refine blk_drew ?_ | refine blk_alloc ?_ _)); refine blk_put (cs := #[.int .i64 t339, .int .i64 t340, .int .i64 t341, .int .i64 t342, .int .i64 t343, .int .i64 a0_5, .int .i64 a0_6]) ?_ 5 _ rfl; (with_reducible repeat (first | refine blk_drewN ?_ _ | refine blk_drew ?_ | refine blk_alloc ?_ _)); refine blk_put (cs := #[.int .i64 t339, .int .i64 t340, .int .i64 t341, .int .i64 t342, .int .i64 a0_4, .int .i64 a0_5, .int .i64 a0_6]) ?_ 4 _ rfl; (with_reducible repeat (first | refine blk_drewN ?_ _ | refine blk_drew ?_ | refine blk_alloc ?_ _)); refine blk_put (cs := #[.int .i64 t339, .int .i64 t340, .int .i64 t341, .int .i64 a0_3, .int .i64 a0_4, .int .i64 a0_5, .int .i64 a0_6]) ?_ 3 _ rfl; (with_reducible repeat (first | refine blk_drewN ?_ _ | refine blk_drew ?_ | refine blk_alloc ?_ _)); refine blk_put (cs := #[.int .i64 t339, .int .i64 t340, .int .i64 a0_2, .int .i64 a0_3, .int .i64 a0_4, .int .i64 a0_5, .int .i64 a0_6]) ?_ 2 _ rfl; (with_reducible repeat (first | refine blk_drewN ?_ _ | refine blk_drew ?_ | refine blk_alloc ?_ _)); refine blk_put (cs := #[.int .i64 t339, .int .i64 a0_1, .int .i64 a0_2, .int .i64 a0_3, .int .i64 a0_4, .int .i64 a0_5, .int .i64 a0_6]) ?_ 1 _ rfl; (with_reducible repeat (first | refine blk_drewN ?_ _ | refine blk_drew ?_ | refine blk_alloc ?_ _)); refine blk_put (cs := #[.int .i64 a0_0, .int .i64 a0_1, .int .i64 a0_2, .int .i64 a0_3, .int .i64 a0_4, .int .i64 a0_5, .int .i64 a0_6]) ?_ 0 _ rfl; (with_reducible repeat (first | refine blk_drewN ?_ _ | refine blk_drew ?_ | refine blk_alloc ?_ _)); exact BK331.out⟩
      have n1_ : Aside0 (Below w.heap.size w (((((((w50.setCell ⟨gb331, 0, none⟩ (.int .i64 t339)).setCell ⟨gb331, 1, none⟩ (.int .i64 t340)).setCell ⟨gb331, 2, none⟩ (.int .i64 t341)).setCell ⟨gb331, 3, none⟩ (.int .i64 t342)).setCell ⟨gb331, 4, none⟩ (.int .i64 t343)).setCell ⟨gb331, 5, none⟩ (.int .i64 t344)).setCell ⟨gb331, 6, none⟩ (.int .i64 t345))) := ⟨by repeat (first | (with_reducible first | exact HB.out | apply below_alloc | apply pw_below_drewN | apply below_drew1 | refine below_set ?_ GE331.out) | exact HB.out)⟩
      (try clear BK331)
      (try clear HB)
      generalize (((((((w50.setCell ⟨gb331, 0, none⟩ (.int .i64 t339)).setCell ⟨gb331, 1, none⟩ (.int .i64 t340)).setCell ⟨gb331, 2, none⟩ (.int .i64 t341)).setCell ⟨gb331, 3, none⟩ (.int .i64 t342)).setCell ⟨gb331, 4, none⟩ (.int .i64 t343)).setCell ⟨gb331, 5, none⟩ (.int .i64 t344)).setCell ⟨gb331, 6, none⟩ (.int .i64 t345)) = w52 at n0_ n1_ ⊢
      have BK331 := n0_
      have HB := n1_
      clear n0_ n1_
      have n0_ := Aside0.mk (blk_drew BK331.out)
      have n1_ := Aside0.mk (below_drew1 HB.out)
      clear BK331
      clear HB
      have BK331 := n0_
      have HB := n1_
      clear n0_ n1_
      refine start_ (n := 7) (S := fun w' => w'.cell? ⟨gb331, 0, none⟩ = some (.int .i64 t339) ∧ w'.cell? ⟨gb331, 1, none⟩ = some (.int .i64 t340) ∧ w'.cell? ⟨gb331, 2, none⟩ = some (.int .i64 t341) ∧ w'.cell? ⟨gb331, 3, none⟩ = some (.int .i64 t342) ∧ w'.cell? ⟨gb331, 4, none⟩ = some (.int .i64 t343) ∧ w'.cell? ⟨gb331, 5, none⟩ = some (.int .i64 t344) ∧ w'.cell? ⟨gb331, 6, none⟩ = some (.int .i64 t345)) (ds := []) #[false, false, false, false, false, false, false] (by kernel_rfl) rfl rfl ⟨(blk_cell BK331.out 0).trans rfl, (blk_cell BK331.out 1).trans rfl, (blk_cell BK331.out 2).trans rfl, (blk_cell BK331.out 3).trans rfl, (blk_cell BK331.out 4).trans rfl, (blk_cell BK331.out 5).trans rfl, (blk_cell BK331.out 6).trans rfl⟩ (fun hHeld => ?_)
      generalize w52.drew = w53 at BK331 HB hHeld ⊢
      refine take_ (i := 0) (N := some 13) (v := ?_) (a' := ?_) #[true, false, false, false, false, false, false] rfl rfl (by kernel_rfl) (fun _ _ _ h => h) (Or.inl ⟨by rfl, ?_⟩) hHeld ?_ ?_
      rotate_left
      · rintro w' ⟨s0, s1, s2, s3, s4, s5, s6⟩
        go_simp
        with_reducible rfl
      rotate_left
      · simp only [Act.put, List.setIfInBounds_toArray, List.set_cons_zero, List.set_cons_succ, i64_w, i32_w]
        rfl
      refine take_ (i := 3) (N := some 16) (v := ?_) (a' := ?_) #[true, false, false, true, false, false, false] rfl rfl (by kernel_rfl) (fun _ _ _ h => h) (Or.inl ⟨by rfl, ?_⟩) hHeld ?_ ?_
      rotate_left
      · rintro w' ⟨s0, s1, s2, s3, s4, s5, s6⟩
        go_simp
        with_reducible rfl
      rotate_left
      · simp only [Act.put, List.setIfInBounds_toArray, List.set_cons_zero, List.set_cons_succ, i64_w, i32_w]
        rfl
      refine one_ (i := 1) (N := some 14) #[true, true, false, true, false, false, false] rfl rfl (by kernel_rfl) (by decide) (fun K hK => ?_)
      refine goes_ Try.func15 (by kernel_rfl) rfl #[.agg #[.int .i64 t339, .int .i64 t340, .int .i64 t341, .int .i64 t342, .int .i64 t343, .int .i64 t344, .int .i64 t345]] (by rfl) rfl rfl (by (try simp only [List.map_toArray, List.map_cons, List.map_nil]); first | done | rfl | (simp only [List.length_drop, List.length_take]; rfl)) ?_
      with_reducible refine (spec_JuDayOf.calls k t339 t340 t341 t342 t343 t344 t345 t346 _ A4.out).mono ?_
      rintro e w54 ⟨rfl, hb⟩
      refine ⟨_, rfl, ?_⟩
      have n0_ := Aside0.mk (blk_below (g := gb331) (o := .cells #[.int .i64 t339, .int .i64 t340, .int .i64 t341, .int .i64 t342, .int .i64 t343, .int .i64 t344, .int .i64 t345] 23 (0, 0)) (by (with_reducible repeat (first | refine blk_drewN ?_ _ | refine blk_drew ?_ | refine blk_alloc ?_ _)); exact BK331.out) hb)
      have n1_ := Aside0.mk (below_step (by repeat (first | (with_reducible first | exact HB.out | apply below_alloc | apply pw_below_drewN | apply below_drew1 | refine below_set ?_ GE331.out) | exact HB.out)) hb)
      clear BK331
      clear HB
      have BK331 := n0_
      have HB := n1_
      clear n0_ n1_
      (try clear hb)
      (try clear hb2)
      (try clear hk)
      (try clear hi)
      refine hK.out _ _ ⟨(blk_cell BK331.out 0).trans rfl, (blk_cell BK331.out 1).trans rfl, (blk_cell BK331.out 2).trans rfl, (blk_cell BK331.out 3).trans rfl, (blk_cell BK331.out 4).trans rfl, (blk_cell BK331.out 5).trans rfl, (blk_cell BK331.out 6).trans rfl⟩ (fun hHeld => ?_)
      clear hK K
      refine norm_ (a' := ?_) ?_ ?_
      rotate_left
      · show Act.put _ (some 14) _ = _
        simp only [Act.put, List.setIfInBounds_toArray, List.set_cons_zero, List.set_cons_succ, i64_w, i32_w]
        rfl
      refine pure_ (i := 2) (N := some 15) (v := ?_) (a' := ?_) #[true, true, true, true, false, false, false] rfl rfl (by kernel_rfl) (fun _ _ _ h => h) (Or.inl ⟨by rfl, ?_⟩) ?_ ?_
      rotate_left
      · intro w'
        go_simp
        with_reducible rfl
      rotate_left
      · simp only [Act.put, List.setIfInBounds_toArray, List.set_cons_zero, List.set_cons_succ, i64_w, i32_w]
        rfl
      refine one_ (i := 4) (N := some 17) #[true, true, true, true, true, false, false] rfl rfl (by kernel_rfl) (by decide) (fun K hK => ?_)
      refine goes_ Try.func16 (by kernel_rfl) rfl #[.agg #[.int .i64 t339, .int .i64 t340, .int .i64 t341, .int .i64 t342, .int .i64 t343, .int .i64 t344, .int .i64 t345]] (by rfl) rfl rfl (by (try simp only [List.map_toArray, List.map_cons, List.map_nil]); first | done | rfl | (simp only [List.length_drop, List.length_take]; rfl)) ?_
      with_reducible refine (spec_JuSeconds.calls t339 t340 t341 t342 t343 t344 t345 t347 _ A5.out).mono ?_
      rintro e w55 ⟨rfl, hb⟩
      refine ⟨_, rfl, ?_⟩
      have n0_ := Aside0.mk (blk_below (g := gb331) (o := .cells #[.int .i64 t339, .int .i64 t340, .int .i64 t341, .int .i64 t342, .int .i64 t343, .int .i64 t344, .int .i64 t345] 23 (0, 0)) (by (with_reducible repeat (first | refine blk_drewN ?_ _ | refine blk_drew ?_ | refine blk_alloc ?_ _)); exact BK331.out) hb)
      have n1_ := Aside0.mk (below_step (by repeat (first | (with_reducible first | exact HB.out | apply below_alloc | apply pw_below_drewN | apply below_drew1 | refine below_set ?_ GE331.out) | exact HB.out)) hb)
      clear BK331
      clear HB
      have BK331 := n0_
      have HB := n1_
      clear n0_ n1_
      (try clear hb)
      (try clear hb2)
      (try clear hk)
      (try clear hi)
      refine hK.out _ _ ⟨(blk_cell BK331.out 0).trans rfl, (blk_cell BK331.out 1).trans rfl, (blk_cell BK331.out 2).trans rfl, (blk_cell BK331.out 3).trans rfl, (blk_cell BK331.out 4).trans rfl, (blk_cell BK331.out 5).trans rfl, (blk_cell BK331.out 6).trans rfl⟩ (fun hHeld => ?_)
      clear hK K
      refine norm_ (a' := ?_) ?_ ?_
      rotate_left
      · show Act.put _ (some 17) _ = _
        simp only [Act.put, List.setIfInBounds_toArray, List.set_cons_zero, List.set_cons_succ, i64_w, i32_w]
        rfl
      refine pure_ (i := 5) (N := some 3) (v := ?_) (a' := ?_) #[true, true, true, true, true, true, false] rfl rfl (by kernel_rfl) (fun _ _ _ h => h) (Or.inl ⟨by rfl, ?_⟩) ?_ ?_
      rotate_left
      · intro w'
        go_simp
        with_reducible rfl
      rotate_left
      · simp only [Act.put, List.setIfInBounds_toArray, List.set_cons_zero, List.set_cons_succ, i64_w, i32_w]
        rfl
      refine pure_ (i := 6) (N := some 4) (v := ?_) (a' := ?_) #[true, true, true, true, true, true, true] rfl rfl (by kernel_rfl) (fun _ _ _ h => h) (Or.inl ⟨by rfl, ?_⟩) ?_ ?_
      rotate_left
      · intro w'
        go_simp
        with_reducible rfl
      rotate_left
      · simp only [Act.put, List.setIfInBounds_toArray, List.set_cons_zero, List.set_cons_succ, i64_w, i32_w]
        rfl
      refine done_ (by kernel_rfl) ?_
      have hcz56_0 : w55.cell? ⟨gb331, 0, none⟩ = some (.int .i64 t339) := (blk_cell BK331.out 0).trans rfl
      have hcz56_1 : w55.cell? ⟨gb331, 1, none⟩ = some (.int .i64 t340) := (blk_cell BK331.out 1).trans rfl
      have hcz56_2 : w55.cell? ⟨gb331, 2, none⟩ = some (.int .i64 t341) := (blk_cell BK331.out 2).trans rfl
      have hcz56_3 : w55.cell? ⟨gb331, 3, none⟩ = some (.int .i64 t342) := (blk_cell BK331.out 3).trans rfl
      have hcz56_4 : w55.cell? ⟨gb331, 4, none⟩ = some (.int .i64 t343) := (blk_cell BK331.out 4).trans rfl
      have hcz56_5 : w55.cell? ⟨gb331, 5, none⟩ = some (.int .i64 t344) := (blk_cell BK331.out 5).trans rfl
      have hcz56_6 : w55.cell? ⟨gb331, 6, none⟩ = some (.int .i64 t345) := (blk_cell BK331.out 6).trans rfl
      have hfz56_0 := blk_frozen BK331.out 0
      have hfz56_1 := blk_frozen BK331.out 1
      have hfz56_2 := blk_frozen BK331.out 2
      have hfz56_3 := blk_frozen BK331.out 3
      have hfz56_4 := blk_frozen BK331.out 4
      have hfz56_5 := blk_frozen BK331.out 5
      have hfz56_6 := blk_frozen BK331.out 6
      try go_wp2_with (first | ((with_reducible refine gate_callee (f := 17) rfl ?_); refine goesL_ (some 20) rfl rfl Try.func17 (by kernel_rfl) rfl #[.agg #[.int .i64 t339, .int .i64 t340, .int .i64 t341, .int .i64 t342, .int .i64 t343, .int .i64 t344, .int .i64 t345]] rfl (by (try simp only [List.map_toArray, List.map_cons, List.map_nil]); first | done | rfl | (simp only [List.length_drop, List.length_take]; rfl)) ?_; (with_reducible refine (impl_TimeNumbers.calls k t339 t340 t341 t342 t343 t344 t345 t348 t349 t350 t351 t352 _ A6.out).mono ?_); rintro e w57 ⟨rfl, hb⟩; refine ⟨_, rfl, ?_⟩; have n0_ := Aside0.mk (blk_below (g := gb331) (o := .cells #[.int .i64 t339, .int .i64 t340, .int .i64 t341, .int .i64 t342, .int .i64 t343, .int .i64 t344, .int .i64 t345] 23 (0, 0)) (by (with_reducible repeat (first | refine blk_drewN ?_ _ | refine blk_drew ?_ | refine blk_alloc ?_ _)); exact BK331.out) hb); have n1_ := Aside0.mk (below_step (by repeat (first | (with_reducible first | exact HB.out | apply below_alloc | apply pw_below_drewN | apply below_drew1 | refine below_set ?_ GE331.out) | exact HB.out)) hb); clear BK331; clear HB; have BK331 := n0_; have HB := n1_; clear n0_ n1_; (try clear hb); (try clear hb2); (try clear hk); (try clear hi); have hcz58_0 : w57.cell? ⟨gb331, 0, none⟩ = some (.int .i64 t339) := (blk_cell BK331.out 0).trans rfl; have hcz58_1 : w57.cell? ⟨gb331, 1, none⟩ = some (.int .i64 t340) := (blk_cell BK331.out 1).trans rfl; have hcz58_2 : w57.cell? ⟨gb331, 2, none⟩ = some (.int .i64 t341) := (blk_cell BK331.out 2).trans rfl; have hcz58_3 : w57.cell? ⟨gb331, 3, none⟩ = some (.int .i64 t342) := (blk_cell BK331.out 3).trans rfl; have hcz58_4 : w57.cell? ⟨gb331, 4, none⟩ = some (.int .i64 t343) := (blk_cell BK331.out 4).trans rfl; have hcz58_5 : w57.cell? ⟨gb331, 5, none⟩ = some (.int .i64 t344) := (blk_cell BK331.out 5).trans rfl; have hcz58_6 : w57.cell? ⟨gb331, 6, none⟩ = some (.int .i64 t345) := (blk_cell BK331.out 6).trans rfl; have hfz58_0 := blk_frozen BK331.out 0; have hfz58_1 := blk_frozen BK331.out 1; have hfz58_2 := blk_frozen BK331.out 2; have hfz58_3 := blk_frozen BK331.out 3; have hfz58_4 := blk_frozen BK331.out 4; have hfz58_5 := blk_frozen BK331.out 5; have hfz58_6 := blk_frozen BK331.out 6))
      go_ret
      exact ⟨by first | rfl | (simp [errW_none, errW_some] <;> rfl) | (simp [*, errW_none, errW_some] <;> rfl), by repeat (first | (with_reducible first | exact HB.out | apply below_alloc | apply pw_below_drewN | apply below_drew1 | refine below_set ?_ GE331.out) | exact HB.out)⟩
  · rw [if_neg c7] at H
    have c7b0 : (t352 == 0) = false := beq_eq_false_iff_ne.mpr c7
    have c7b1 : (t352 != 0) = true := bne_iff_ne.mpr c7
    obtain rfl := Option.some.inj H
    go_enter Try.func6, Try.ntmps6
    try go_wp2_with (first | ((with_reducible refine gate_dst (N := 1) rfl ?_); refine box_event ?hg (N := 1) ?hd (cs := #[.int .i64 a0_0, .int .i64 a0_1, .int .i64 a0_2, .int .i64 a0_3, .int .i64 a0_4, .int .i64 a0_5, .int .i64 a0_6]) (t := 23) ?hr ?_; (case hd => rfl); (case hg => rfl); (case hr => first | (go_simp; done) | (go_simp; rfl)); intro gb331 hg w59 hbox hb; have n0_ := Aside0.mk (below_step (by repeat (first | (with_reducible first | exact HB.out | apply below_alloc | apply pw_below_drewN | apply below_drew1) | exact HB.out)) hb); have n1_ := Aside0.mk (hbox); have n2_ := Aside0.mk ((by rw [hg]; exact (below_size (by repeat (first | (with_reducible first | exact HB.out | apply below_alloc | apply pw_below_drewN | apply below_drew1) | exact HB.out))) : w.heap.size ≤ gb331)); have n3_ := Aside0.mk ((by rw [hg]; exact (below_size (by repeat (first | (with_reducible first | exact HB.out | apply below_alloc | apply pw_below_drewN | apply below_drew1) | exact HB.out))) : w.heap.size ≤ gb331)); clear HB; have HB := n0_; have BK331 := n1_; have GW331 := n2_; have GE331 := n3_; clear n0_ n1_ n2_ n3_; clear hb hbox hg; have hcz60_0 : w59.cell? ⟨gb331, 0, none⟩ = some (.int .i64 a0_0) := (blk_cell BK331.out 0).trans rfl; have hcz60_1 : w59.cell? ⟨gb331, 1, none⟩ = some (.int .i64 a0_1) := (blk_cell BK331.out 1).trans rfl; have hcz60_2 : w59.cell? ⟨gb331, 2, none⟩ = some (.int .i64 a0_2) := (blk_cell BK331.out 2).trans rfl; have hcz60_3 : w59.cell? ⟨gb331, 3, none⟩ = some (.int .i64 a0_3) := (blk_cell BK331.out 3).trans rfl; have hcz60_4 : w59.cell? ⟨gb331, 4, none⟩ = some (.int .i64 a0_4) := (blk_cell BK331.out 4).trans rfl; have hcz60_5 : w59.cell? ⟨gb331, 5, none⟩ = some (.int .i64 a0_5) := (blk_cell BK331.out 5).trans rfl; have hcz60_6 : w59.cell? ⟨gb331, 6, none⟩ = some (.int .i64 a0_6) := (blk_cell BK331.out 6).trans rfl; have hfz60_0 := blk_frozen BK331.out 0; have hfz60_1 := blk_frozen BK331.out 1; have hfz60_2 := blk_frozen BK331.out 2; have hfz60_3 := blk_frozen BK331.out 3; have hfz60_4 := blk_frozen BK331.out 4; have hfz60_5 := blk_frozen BK331.out 5; have hfz60_6 := blk_frozen BK331.out 6) | ((with_reducible refine gate_callee (f := 9) rfl ?_); refine goesL_ (some 11) rfl rfl Try.func9 (by kernel_rfl) rfl #[.agg #[.int .i64 a0_0, .int .i64 a0_1, .int .i64 a0_2, .int .i64 a0_3, .int .i64 a0_4, .int .i64 a0_5, .int .i64 a0_6]] rfl (by (try simp only [List.map_toArray, List.map_cons, List.map_nil]); first | done | rfl | (simp only [List.length_drop, List.length_take]; rfl)) ?_; (with_reducible refine (laws_juTime.calls a0_0 a0_1 a0_2 a0_3 a0_4 a0_5 a0_6 t332 t333 t334 t335 t336 t337 t338 _ A2.out).mono ?_); rintro e w61 ⟨rfl, hb⟩; refine ⟨_, rfl, ?_⟩; have n0_ := Aside0.mk (blk_below (g := gb331) (o := .cells #[.int .i64 a0_0, .int .i64 a0_1, .int .i64 a0_2, .int .i64 a0_3, .int .i64 a0_4, .int .i64 a0_5, .int .i64 a0_6] 23 (0, 0)) (by (with_reducible repeat (first | refine blk_drewN ?_ _ | refine blk_drew ?_ | refine blk_alloc ?_ _)); exact BK331.out) hb); have n1_ := Aside0.mk (below_step (by repeat (first | (with_reducible first | exact HB.out | apply below_alloc | apply pw_below_drewN | apply below_drew1 | refine below_set ?_ GE331.out) | exact HB.out)) hb); clear BK331; clear HB; have BK331 := n0_; have HB := n1_; clear n0_ n1_; (try clear hb); (try clear hb2); (try clear hk); (try clear hi)) | ((with_reducible refine gate_callee (f := 11) rfl ?_); refine goesL_ (some 12) rfl rfl Try.func11 (by kernel_rfl) rfl #[.agg #[.int .i64 t332, .int .i64 t333, .int .i64 t334, .int .i64 t335, .int .i64 t336, .int .i64 t337, .int .i64 t338]] rfl (by (try simp only [List.map_toArray, List.map_cons, List.map_nil]); first | done | rfl | (simp only [List.length_drop, List.length_take]; rfl)) ?_; (with_reducible refine (spec_JuMade.calls k t332 t333 t334 t335 t336 t337 t338 t339 t340 t341 t342 t343 t344 t345 _ A3.out).mono ?_); rintro e w62 ⟨rfl, hb⟩; refine ⟨_, rfl, ?_⟩; have n0_ := Aside0.mk (blk_below (g := gb331) (o := .cells #[.int .i64 a0_0, .int .i64 a0_1, .int .i64 a0_2, .int .i64 a0_3, .int .i64 a0_4, .int .i64 a0_5, .int .i64 a0_6] 23 (0, 0)) (by (with_reducible repeat (first | refine blk_drewN ?_ _ | refine blk_drew ?_ | refine blk_alloc ?_ _)); exact BK331.out) hb); have n1_ := Aside0.mk (below_step (by repeat (first | (with_reducible first | exact HB.out | apply below_alloc | apply pw_below_drewN | apply below_drew1 | refine below_set ?_ GE331.out) | exact HB.out)) hb); clear BK331; clear HB; have BK331 := n0_; have HB := n1_; clear n0_ n1_; (try clear hb); (try clear hb2); (try clear hk); (try clear hi); have hcz63_0 : w62.cell? ⟨gb331, 0, none⟩ = some (.int .i64 a0_0) := (blk_cell BK331.out 0).trans rfl; have hcz63_1 : w62.cell? ⟨gb331, 1, none⟩ = some (.int .i64 a0_1) := (blk_cell BK331.out 1).trans rfl; have hcz63_2 : w62.cell? ⟨gb331, 2, none⟩ = some (.int .i64 a0_2) := (blk_cell BK331.out 2).trans rfl; have hcz63_3 : w62.cell? ⟨gb331, 3, none⟩ = some (.int .i64 a0_3) := (blk_cell BK331.out 3).trans rfl; have hcz63_4 : w62.cell? ⟨gb331, 4, none⟩ = some (.int .i64 a0_4) := (blk_cell BK331.out 4).trans rfl; have hcz63_5 : w62.cell? ⟨gb331, 5, none⟩ = some (.int .i64 a0_5) := (blk_cell BK331.out 5).trans rfl; have hcz63_6 : w62.cell? ⟨gb331, 6, none⟩ = some (.int .i64 a0_6) := (blk_cell BK331.out 6).trans rfl; have hfz63_0 := blk_frozen BK331.out 0; have hfz63_1 := blk_frozen BK331.out 1; have hfz63_2 := blk_frozen BK331.out 2; have hfz63_3 := blk_frozen BK331.out 3; have hfz63_4 := blk_frozen BK331.out 4; have hfz63_5 := blk_frozen BK331.out 5; have hfz63_6 := blk_frozen BK331.out 6))
    have n0_ : Aside0 ((((((((w62.setCell ⟨gb331, 0, none⟩ (.int .i64 t339)).setCell ⟨gb331, 1, none⟩ (.int .i64 t340)).setCell ⟨gb331, 2, none⟩ (.int .i64 t341)).setCell ⟨gb331, 3, none⟩ (.int .i64 t342)).setCell ⟨gb331, 4, none⟩ (.int .i64 t343)).setCell ⟨gb331, 5, none⟩ (.int .i64 t344)).setCell ⟨gb331, 6, none⟩ (.int .i64 t345)).heap[gb331]? = some (.cells #[.int .i64 t339, .int .i64 t340, .int .i64 t341, .int .i64 t342, .int .i64 t343, .int .i64 t344, .int .i64 t345] 23 (0, 0))) := ⟨by (with_reducible repeat (first | refine blk_drewN ?_ _ | refine blk_drew ?_ | refine blk_alloc ?_ _)); refine blk_put (cs := #[.int .i64 t339, .int .i64 t340, .int .i64 t341, .int .i64 t342, .int .i64 t343, .int .i64 t344, .int .i64 a0_6]) ?_ 6 _ rfl; (with_reducible repeat (first | refine blk_drewN ?_ _ | refine blk_drew ?_ | refine blk_alloc ?_ _)); refine blk_put (cs := #[.int .i64 t339, .int .i64 t340, .int .i64 t341, .int .i64 t342, .int .i64 t343, .int .i64 a0_5, .int .i64 a0_6]) ?_ 5 _ rfl; (with_reducible repeat (first | refine blk_drewN ?_ _ | refine blk_drew ?_ | refine blk_alloc ?_ _)); refine blk_put (cs := #[.int .i64 t339, .int .i64 t340, .int .i64 t341, .int .i64 t342, .int .i64 a0_4, .int .i64 a0_5, .int .i64 a0_6]) ?_ 4 _ rfl; (with_reducible repeat (first | refine blk_drewN ?_ _ | refine blk_drew ?_ | refine blk_alloc ?_ _)); refine blk_put (cs := #[.int .i64 t339, .int .i64 t340, .int .i64 t341, .int .i64 a0_3, .int .i64 a0_4, .int .i64 a0_5, .int .i64 a0_6]) ?_ 3 _ rfl; (with_reducible repeat (first | refine blk_drewN ?_ _ | refine blk_drew ?_ | refine blk_alloc ?_ _)); refine blk_put (cs := #[.int .i64 t339, .int .i64 t340, .int .i64 a0_2, .int .i64 a0_3, .int .i64 a0_4, .int .i64 a0_5, .int .i64 a0_6]) ?_ 2 _ rfl; (with_reducible repeat (first | refine blk_drewN ?_ _ | refine blk_drew ?_ | refine blk_alloc ?_ _)); refine blk_put (cs := #[.int .i64 t339, .int .i64 a0_1, .int .i64 a0_2, .int .i64 a0_3, .int .i64 a0_4, .int .i64 a0_5, .int .i64 a0_6]) ?_ 1 _ rfl; (with_reducible repeat (first | refine blk_drewN ?_ _ | refine blk_drew ?_ | refine blk_alloc ?_ _)); refine blk_put (cs := #[.int .i64 a0_0, .int .i64 a0_1, .int .i64 a0_2, .int .i64 a0_3, .int .i64 a0_4, .int .i64 a0_5, .int .i64 a0_6]) ?_ 0 _ rfl; (with_reducible repeat (first | refine blk_drewN ?_ _ | refine blk_drew ?_ | refine blk_alloc ?_ _)); exact BK331.out⟩
    have n1_ : Aside0 (Below w.heap.size w (((((((w62.setCell ⟨gb331, 0, none⟩ (.int .i64 t339)).setCell ⟨gb331, 1, none⟩ (.int .i64 t340)).setCell ⟨gb331, 2, none⟩ (.int .i64 t341)).setCell ⟨gb331, 3, none⟩ (.int .i64 t342)).setCell ⟨gb331, 4, none⟩ (.int .i64 t343)).setCell ⟨gb331, 5, none⟩ (.int .i64 t344)).setCell ⟨gb331, 6, none⟩ (.int .i64 t345))) := ⟨by repeat (first | (with_reducible first | exact HB.out | apply below_alloc | apply pw_below_drewN | apply below_drew1 | refine below_set ?_ GE331.out) | exact HB.out)⟩
    (try clear BK331)
    (try clear HB)
    generalize (((((((w62.setCell ⟨gb331, 0, none⟩ (.int .i64 t339)).setCell ⟨gb331, 1, none⟩ (.int .i64 t340)).setCell ⟨gb331, 2, none⟩ (.int .i64 t341)).setCell ⟨gb331, 3, none⟩ (.int .i64 t342)).setCell ⟨gb331, 4, none⟩ (.int .i64 t343)).setCell ⟨gb331, 5, none⟩ (.int .i64 t344)).setCell ⟨gb331, 6, none⟩ (.int .i64 t345)) = w64 at n0_ n1_ ⊢
    have BK331 := n0_
    have HB := n1_
    clear n0_ n1_
    have n0_ := Aside0.mk (blk_drew BK331.out)
    have n1_ := Aside0.mk (below_drew1 HB.out)
    clear BK331
    clear HB
    have BK331 := n0_
    have HB := n1_
    clear n0_ n1_
    refine start_ (n := 7) (S := fun w' => w'.cell? ⟨gb331, 0, none⟩ = some (.int .i64 t339) ∧ w'.cell? ⟨gb331, 1, none⟩ = some (.int .i64 t340) ∧ w'.cell? ⟨gb331, 2, none⟩ = some (.int .i64 t341) ∧ w'.cell? ⟨gb331, 3, none⟩ = some (.int .i64 t342) ∧ w'.cell? ⟨gb331, 4, none⟩ = some (.int .i64 t343) ∧ w'.cell? ⟨gb331, 5, none⟩ = some (.int .i64 t344) ∧ w'.cell? ⟨gb331, 6, none⟩ = some (.int .i64 t345)) (ds := []) #[false, false, false, false, false, false, false] (by kernel_rfl) rfl rfl ⟨(blk_cell BK331.out 0).trans rfl, (blk_cell BK331.out 1).trans rfl, (blk_cell BK331.out 2).trans rfl, (blk_cell BK331.out 3).trans rfl, (blk_cell BK331.out 4).trans rfl, (blk_cell BK331.out 5).trans rfl, (blk_cell BK331.out 6).trans rfl⟩ (fun hHeld => ?_)
    generalize w64.drew = w65 at BK331 HB hHeld ⊢
    refine take_ (i := 0) (N := some 13) (v := ?_) (a' := ?_) #[true, false, false, false, false, false, false] rfl rfl (by kernel_rfl) (fun _ _ _ h => h) (Or.inl ⟨by rfl, ?_⟩) hHeld ?_ ?_
    rotate_left
    · rintro w' ⟨s0, s1, s2, s3, s4, s5, s6⟩
      go_simp
      with_reducible rfl
    rotate_left
    · simp only [Act.put, List.setIfInBounds_toArray, List.set_cons_zero, List.set_cons_succ, i64_w, i32_w]
      rfl
    refine take_ (i := 3) (N := some 16) (v := ?_) (a' := ?_) #[true, false, false, true, false, false, false] rfl rfl (by kernel_rfl) (fun _ _ _ h => h) (Or.inl ⟨by rfl, ?_⟩) hHeld ?_ ?_
    rotate_left
    · rintro w' ⟨s0, s1, s2, s3, s4, s5, s6⟩
      go_simp
      with_reducible rfl
    rotate_left
    · simp only [Act.put, List.setIfInBounds_toArray, List.set_cons_zero, List.set_cons_succ, i64_w, i32_w]
      rfl
    refine one_ (i := 1) (N := some 14) #[true, true, false, true, false, false, false] rfl rfl (by kernel_rfl) (by decide) (fun K hK => ?_)
    refine goes_ Try.func15 (by kernel_rfl) rfl #[.agg #[.int .i64 t339, .int .i64 t340, .int .i64 t341, .int .i64 t342, .int .i64 t343, .int .i64 t344, .int .i64 t345]] (by rfl) rfl rfl (by (try simp only [List.map_toArray, List.map_cons, List.map_nil]); first | done | rfl | (simp only [List.length_drop, List.length_take]; rfl)) ?_
    with_reducible refine (spec_JuDayOf.calls k t339 t340 t341 t342 t343 t344 t345 t346 _ A4.out).mono ?_
    rintro e w66 ⟨rfl, hb⟩
    refine ⟨_, rfl, ?_⟩
    have n0_ := Aside0.mk (blk_below (g := gb331) (o := .cells #[.int .i64 t339, .int .i64 t340, .int .i64 t341, .int .i64 t342, .int .i64 t343, .int .i64 t344, .int .i64 t345] 23 (0, 0)) (by (with_reducible repeat (first | refine blk_drewN ?_ _ | refine blk_drew ?_ | refine blk_alloc ?_ _)); exact BK331.out) hb)
    have n1_ := Aside0.mk (below_step (by repeat (first | (with_reducible first | exact HB.out | apply below_alloc | apply pw_below_drewN | apply below_drew1 | refine below_set ?_ GE331.out) | exact HB.out)) hb)
    clear BK331
    clear HB
    have BK331 := n0_
    have HB := n1_
    clear n0_ n1_
    (try clear hb)
    (try clear hb2)
    (try clear hk)
    (try clear hi)
    refine hK.out _ _ ⟨(blk_cell BK331.out 0).trans rfl, (blk_cell BK331.out 1).trans rfl, (blk_cell BK331.out 2).trans rfl, (blk_cell BK331.out 3).trans rfl, (blk_cell BK331.out 4).trans rfl, (blk_cell BK331.out 5).trans rfl, (blk_cell BK331.out 6).trans rfl⟩ (fun hHeld => ?_)
    clear hK K
    refine norm_ (a' := ?_) ?_ ?_
    rotate_left
    · show Act.put _ (some 14) _ = _
      simp only [Act.put, List.setIfInBounds_toArray, List.set_cons_zero, List.set_cons_succ, i64_w, i32_w]
      rfl
    refine pure_ (i := 2) (N := some 15) (v := ?_) (a' := ?_) #[true, true, true, true, false, false, false] rfl rfl (by kernel_rfl) (fun _ _ _ h => h) (Or.inl ⟨by rfl, ?_⟩) ?_ ?_
    rotate_left
    · intro w'
      go_simp
      with_reducible rfl
    rotate_left
    · simp only [Act.put, List.setIfInBounds_toArray, List.set_cons_zero, List.set_cons_succ, i64_w, i32_w]
      rfl
    refine one_ (i := 4) (N := some 17) #[true, true, true, true, true, false, false] rfl rfl (by kernel_rfl) (by decide) (fun K hK => ?_)
    refine goes_ Try.func16 (by kernel_rfl) rfl #[.agg #[.int .i64 t339, .int .i64 t340, .int .i64 t341, .int .i64 t342, .int .i64 t343, .int .i64 t344, .int .i64 t345]] (by rfl) rfl rfl (by (try simp only [List.map_toArray, List.map_cons, List.map_nil]); first | done | rfl | (simp only [List.length_drop, List.length_take]; rfl)) ?_
    with_reducible refine (spec_JuSeconds.calls t339 t340 t341 t342 t343 t344 t345 t347 _ A5.out).mono ?_
    rintro e w67 ⟨rfl, hb⟩
    refine ⟨_, rfl, ?_⟩
    have n0_ := Aside0.mk (blk_below (g := gb331) (o := .cells #[.int .i64 t339, .int .i64 t340, .int .i64 t341, .int .i64 t342, .int .i64 t343, .int .i64 t344, .int .i64 t345] 23 (0, 0)) (by (with_reducible repeat (first | refine blk_drewN ?_ _ | refine blk_drew ?_ | refine blk_alloc ?_ _)); exact BK331.out) hb)
    have n1_ := Aside0.mk (below_step (by repeat (first | (with_reducible first | exact HB.out | apply below_alloc | apply pw_below_drewN | apply below_drew1 | refine below_set ?_ GE331.out) | exact HB.out)) hb)
    clear BK331
    clear HB
    have BK331 := n0_
    have HB := n1_
    clear n0_ n1_
    (try clear hb)
    (try clear hb2)
    (try clear hk)
    (try clear hi)
    refine hK.out _ _ ⟨(blk_cell BK331.out 0).trans rfl, (blk_cell BK331.out 1).trans rfl, (blk_cell BK331.out 2).trans rfl, (blk_cell BK331.out 3).trans rfl, (blk_cell BK331.out 4).trans rfl, (blk_cell BK331.out 5).trans rfl, (blk_cell BK331.out 6).trans rfl⟩ (fun hHeld => ?_)
    clear hK K
    refine norm_ (a' := ?_) ?_ ?_
    rotate_left
    · show Act.put _ (some 17) _ = _
      simp only [Act.put, List.setIfInBounds_toArray, List.set_cons_zero, List.set_cons_succ, i64_w, i32_w]
      rfl
    refine pure_ (i := 5) (N := some 3) (v := ?_) (a' := ?_) #[true, true, true, true, true, true, false] rfl rfl (by kernel_rfl) (fun _ _ _ h => h) (Or.inl ⟨by rfl, ?_⟩) ?_ ?_
    rotate_left
    · intro w'
      go_simp
      with_reducible rfl
    rotate_left
    · simp only [Act.put, List.setIfInBounds_toArray, List.set_cons_zero, List.set_cons_succ, i64_w, i32_w]
      rfl
    refine pure_ (i := 6) (N := some 4) (v := ?_) (a' := ?_) #[true, true, true, true, true, true, true] rfl rfl (by kernel_rfl) (fun _ _ _ h => h) (Or.inl ⟨by rfl, ?_⟩) ?_ ?_
    rotate_left
    · intro w'
      go_simp
      with_reducible rfl
    rotate_left
    · simp only [Act.put, List.setIfInBounds_toArray, List.set_cons_zero, List.set_cons_succ, i64_w, i32_w]
      rfl
    refine done_ (by kernel_rfl) ?_
    have hcz68_0 : w67.cell? ⟨gb331, 0, none⟩ = some (.int .i64 t339) := (blk_cell BK331.out 0).trans rfl
    have hcz68_1 : w67.cell? ⟨gb331, 1, none⟩ = some (.int .i64 t340) := (blk_cell BK331.out 1).trans rfl
    have hcz68_2 : w67.cell? ⟨gb331, 2, none⟩ = some (.int .i64 t341) := (blk_cell BK331.out 2).trans rfl
    have hcz68_3 : w67.cell? ⟨gb331, 3, none⟩ = some (.int .i64 t342) := (blk_cell BK331.out 3).trans rfl
    have hcz68_4 : w67.cell? ⟨gb331, 4, none⟩ = some (.int .i64 t343) := (blk_cell BK331.out 4).trans rfl
    have hcz68_5 : w67.cell? ⟨gb331, 5, none⟩ = some (.int .i64 t344) := (blk_cell BK331.out 5).trans rfl
    have hcz68_6 : w67.cell? ⟨gb331, 6, none⟩ = some (.int .i64 t345) := (blk_cell BK331.out 6).trans rfl
    have hfz68_0 := blk_frozen BK331.out 0
    have hfz68_1 := blk_frozen BK331.out 1
    have hfz68_2 := blk_frozen BK331.out 2
    have hfz68_3 := blk_frozen BK331.out 3
    have hfz68_4 := blk_frozen BK331.out 4
    have hfz68_5 := blk_frozen BK331.out 5
    have hfz68_6 := blk_frozen BK331.out 6
    try go_wp2_with (first | ((with_reducible refine gate_callee (f := 17) rfl ?_); refine goesL_ (some 20) rfl rfl Try.func17 (by kernel_rfl) rfl #[.agg #[.int .i64 t339, .int .i64 t340, .int .i64 t341, .int .i64 t342, .int .i64 t343, .int .i64 t344, .int .i64 t345]] rfl (by (try simp only [List.map_toArray, List.map_cons, List.map_nil]); first | done | rfl | (simp only [List.length_drop, List.length_take]; rfl)) ?_; (with_reducible refine (impl_TimeNumbers.calls k t339 t340 t341 t342 t343 t344 t345 t348 t349 t350 t351 t352 _ A6.out).mono ?_); rintro e w69 ⟨rfl, hb⟩; refine ⟨_, rfl, ?_⟩; have n0_ := Aside0.mk (blk_below (g := gb331) (o := .cells #[.int .i64 t339, .int .i64 t340, .int .i64 t341, .int .i64 t342, .int .i64 t343, .int .i64 t344, .int .i64 t345] 23 (0, 0)) (by (with_reducible repeat (first | refine blk_drewN ?_ _ | refine blk_drew ?_ | refine blk_alloc ?_ _)); exact BK331.out) hb); have n1_ := Aside0.mk (below_step (by repeat (first | (with_reducible first | exact HB.out | apply below_alloc | apply pw_below_drewN | apply below_drew1 | refine below_set ?_ GE331.out) | exact HB.out)) hb); clear BK331; clear HB; have BK331 := n0_; have HB := n1_; clear n0_ n1_; (try clear hb); (try clear hb2); (try clear hk); (try clear hi)))
    go_ret
    exact ⟨by first | rfl | (simp [errW_none, errW_some] <;> rfl) | (simp [*, errW_none, errW_some] <;> rfl), by repeat (first | (with_reducible first | exact HB.out | apply below_alloc | apply pw_below_drewN | apply below_drew1 | refine below_set ?_ GE331.out) | exact HB.out)⟩

/-! ### encoding_convertDaydateToTime: function 57 -/
def encoding_convertDaydateToTime.f (a0 : Int) : Option (Int × Int) := (julian_DayToTime.f (wrap64 (a0 + 1721423))).bind fun bt354 => (some (bt354.1, bt354.2))
set_option maxHeartbeats 8000000 in
set_option maxRecDepth 100000 in
theorem encoding_convertDaydateToTime.calls (a0 : Int) (r1 : Int) (r2 : Int) (w : World) (h : encoding_convertDaydateToTime.f a0 = some (r1, r2)) :
    Calls Try.prog 57 #[.int .i64 a0] w fun e w' => e = .returned (.agg #[.int .i64 r1, .int .i64 r2]) ∧ Below w.heap.size w w' := by
  have hu42 := Try.underlying42
  have HB := Aside0.mk (Below.refl w.heap.size w)
  have H : ((julian_DayToTime.f (wrap64 (a0 + 1721423))).bind fun bt354 => (some (bt354.1, bt354.2))) = some (r1, r2) := h
  clear h
  replace H := Option.bind_eq_some_iff.mp H
  obtain ⟨⟨t354, t355⟩, A20, H⟩ := H
  replace H : (some (t354, t355)) = some (r1, r2) := H
  have A2 := Aside0.mk A20
  clear A20
  simp only [Option.some.injEq, Prod.mk.injEq] at H
  obtain ⟨rfl, rfl⟩ := H
  go_enter Try.func57, Try.ntmps57
  go_wp2_with (first | ((with_reducible refine gate_dst (N := 2) rfl ?_); refine box_event ?hg (N := 2) ?hd (cs := #[.int .i64 0, .int .i64 0]) (t := 42) ?hr ?_; (case hd => rfl); (case hg => rfl); (case hr => first | (go_simp; done) | (go_simp; rfl)); intro gb353 hg w3 hbox hb; have n0_ := Aside0.mk (below_step (by repeat (first | (with_reducible first | exact HB.out | apply below_alloc | apply pw_below_drewN | apply below_drew1) | exact HB.out)) hb); have n1_ := Aside0.mk (hbox); have n2_ := Aside0.mk ((by rw [hg]; exact (below_size (by repeat (first | (with_reducible first | exact HB.out | apply below_alloc | apply pw_below_drewN | apply below_drew1) | exact HB.out))) : w.heap.size ≤ gb353)); have n3_ := Aside0.mk ((by rw [hg]; exact (below_size (by repeat (first | (with_reducible first | exact HB.out | apply below_alloc | apply pw_below_drewN | apply below_drew1) | exact HB.out))) : w.heap.size ≤ gb353)); clear HB; have HB := n0_; have BK353 := n1_; have GW353 := n2_; have GE353 := n3_; clear n0_ n1_ n2_ n3_; clear hb hbox hg) | ((with_reducible refine gate_callee (f := 28) rfl ?_); refine goesL_ (some 5) rfl rfl Try.func28 (by kernel_rfl) rfl #[.int .i64 (wrap64 (a0 + 1721423))] rfl (by (try simp only [List.map_toArray, List.map_cons, List.map_nil]); first | done | rfl | (simp only [List.length_drop, List.length_take]; rfl)) ?_; (with_reducible refine (julian_DayToTime.calls (wrap64 (a0 + 1721423)) t354 t355 _ A2.out).mono ?_); rintro e w4 ⟨rfl, hb⟩; refine ⟨_, rfl, ?_⟩; have n0_ := Aside0.mk (blk_below (g := gb353) (o := .cells #[.int .i64 0, .int .i64 0] 42 (0, 0)) (by (with_reducible repeat (first | refine blk_drewN ?_ _ | refine blk_drew ?_ | refine blk_alloc ?_ _)); exact BK353.out) hb); have n1_ := Aside0.mk (below_step (by repeat (first | (with_reducible first | exact HB.out | apply below_alloc | apply pw_below_drewN | apply below_drew1 | refine below_set ?_ GE353.out) | exact HB.out)) hb); clear BK353; clear HB; have BK353 := n0_; have HB := n1_; clear n0_ n1_; (try clear hb); (try clear hb2); (try clear hk); (try clear hi); have hcz5_0 : w4.cell? ⟨gb353, 0, none⟩ = some (.int .i64 0) := (blk_cell BK353.out 0).trans rfl; have hcz5_1 : w4.cell? ⟨gb353, 1, none⟩ = some (.int .i64 0) := (blk_cell BK353.out 1).trans rfl; have hfz5_0 := blk_frozen BK353.out 0; have hfz5_1 := blk_frozen BK353.out 1))
  refine bodyPost_ret (results_cell_row rfl _ _ gb353 42 #[.int .i64 t354, .int .i64 t355] (0, 0) _ rfl (by (with_reducible repeat (first | refine blk_drewN ?_ _ | refine blk_drew ?_ | refine blk_alloc ?_ _)); refine blk_put (cs := #[.int .i64 t354, .int .i64 0]) ?_ 1 _ rfl; (with_reducible repeat (first | refine blk_drewN ?_ _ | refine blk_drew ?_ | refine blk_alloc ?_ _)); refine blk_put (cs := #[.int .i64 0, .int .i64 0]) ?_ 0 _ rfl; (with_reducible repeat (first | refine blk_drewN ?_ _ | refine blk_drew ?_ | refine blk_alloc ?_ _)); exact BK353.out) Try.underlying42 rfl (by kernel_rfl)) rfl ?_
  exact ⟨by first | rfl | (simp [errW_none, errW_some] <;> rfl) | (simp [*, errW_none, errW_some] <;> rfl), by repeat (first | (with_reducible first | exact HB.out | apply below_alloc | apply pw_below_drewN | apply below_drew1 | refine below_set ?_ GE353.out) | exact HB.out)⟩

/-! ### zztime_Time_Add: function 61 -/
def zztime_Time_Add.f (a0_0 : Int) (a0_1 : Int) (a1 : Int) : Option (Int × Int) := (zztime_floor.f (wrap64 (a0_1 + (Int.tmod a1 86400000000000))) 86400000000000).bind fun bt358 => (some (wrap64 ((wrap64 (a0_0 + bt358.1)) + (wrap64 (Int.tdiv a1 86400000000000))), bt358.2))
set_option maxHeartbeats 800000 in
set_option maxRecDepth 100000 in
theorem zztime_Time_Add.calls (a0_0 : Int) (a0_1 : Int) (a1 : Int) (r1 : Int) (r2 : Int) (w : World) (h : zztime_Time_Add.f a0_0 a0_1 a1 = some (r1, r2)) :
    Calls Try.prog 61 #[.agg #[.int .i64 a0_0, .int .i64 a0_1], .int .i64 a1] w fun e w' => e = .returned (.agg #[.int .i64 r1, .int .i64 r2]) ∧ Below w.heap.size w w' := by
  unfold zztime_Time_Add.f at h
  obtain ⟨⟨q, m⟩, h1, h2⟩ := Option.bind_eq_some_iff.mp h
  clear h
  simp only [Option.some.injEq, Prod.mk.injEq] at h2
  obtain ⟨rfl, rfl⟩ := h2
  have H := Aside0.mk h1
  clear h1
  go_enter Try.func61, Try.ntmps61
  go_wp2_with (first | (go_at_call 59; refine (zztime_floor.calls _ _ _ _ _ H.out).mono ?_; rintro e w' ⟨rfl, ⟨nd, rfl⟩⟩))
  refine bodyPost_ret (v := .agg #[.int .i64 (wrap64 (wrap64 (a0_0 + q) + wrap64 (a1.tdiv 86400000000000))), .int .i64 m]) (by simp [results, Try.results61, go_sem]) rfl ⟨rfl, ?_⟩
  repeat (first | exact Below.refl _ _ | apply below_alloc | apply pw_below_drewN | (refine Below.setCell ?_ (by simp) _ ))

/-! ### encoding_convertLongdateToTime: function 55 -/
def encoding_convertLongdateToTime.f (a0 : Int) : Option (Int × Int) := (encoding_convertDaydateToTime.f (wrap64 ((wrap64 (Int.tdiv (wrap64 (a0 - 1)) 864000000000)) + 1))).bind fun bt361 => ((zztime_Time_Add.f bt361.1 bt361.2 (wrap64 ((Int.tmod (wrap64 (a0 - 1)) 864000000000) * 100))).bind fun bt364 => (some (bt364.1, bt364.2)))
set_option maxHeartbeats 8000000 in
set_option maxRecDepth 100000 in
theorem encoding_convertLongdateToTime.calls (a0 : Int) (r1 : Int) (r2 : Int) (w : World) (h : encoding_convertLongdateToTime.f a0 = some (r1, r2)) :
    Calls Try.prog 55 #[.int .i64 a0] w fun e w' => e = .returned (.agg #[.int .i64 r1, .int .i64 r2]) ∧ Below w.heap.size w w' := by
  have hu42 := Try.underlying42
  have HB := Aside0.mk (Below.refl w.heap.size w)
  have H : ((encoding_convertDaydateToTime.f (wrap64 ((wrap64 (Int.tdiv (wrap64 (a0 - 1)) 864000000000)) + 1))).bind fun bt361 => ((zztime_Time_Add.f bt361.1 bt361.2 (wrap64 ((Int.tmod (wrap64 (a0 - 1)) 864000000000) * 100))).bind fun bt364 => (some (bt364.1, bt364.2)))) = some (r1, r2) := h
  clear h
  replace H := Option.bind_eq_some_iff.mp H
  obtain ⟨⟨t361, t362⟩, A20, H⟩ := H
  replace H : ((zztime_Time_Add.f t361 t362 (wrap64 ((Int.tmod (wrap64 (a0 - 1)) 864000000000) * 100))).bind fun bt364 => (some (bt364.1, bt364.2))) = some (r1, r2) := H
  have A2 := Aside0.mk A20
  clear A20
  replace H := Option.bind_eq_some_iff.mp H
  obtain ⟨⟨t364, t365⟩, A30, H⟩ := H
  replace H : (some (t364, t365)) = some (r1, r2) := H
  have A3 := Aside0.mk A30
  clear A30
  simp only [Option.some.injEq, Prod.mk.injEq] at H
  obtain ⟨rfl, rfl⟩ := H
  go_enter Try.func55, Try.ntmps55
  go_wp2_with (first | ((with_reducible refine gate_dst (N := 2) rfl ?_); refine box_event ?hg (N := 2) ?hd (cs := #[.int .i64 0, .int .i64 0]) (t := 42) ?hr ?_; (case hd => rfl); (case hg => rfl); (case hr => first | (go_simp; done) | (go_simp; rfl)); intro gb360 hg w4 hbox hb; have n0_ := Aside0.mk (below_step (by repeat (first | (with_reducible first | exact HB.out | apply below_alloc | apply pw_below_drewN | apply below_drew1) | exact HB.out)) hb); have n1_ := Aside0.mk (hbox); have n2_ := Aside0.mk ((by rw [hg]; exact (below_size (by repeat (first | (with_reducible first | exact HB.out | apply below_alloc | apply pw_below_drewN | apply below_drew1) | exact HB.out))) : w.heap.size ≤ gb360)); have n3_ := Aside0.mk ((by rw [hg]; exact (below_size (by repeat (first | (with_reducible first | exact HB.out | apply below_alloc | apply pw_below_drewN | apply below_drew1) | exact HB.out))) : w.heap.size ≤ gb360)); clear HB; have HB := n0_; have BK360 := n1_; have GW360 := n2_; have GE360 := n3_; clear n0_ n1_ n2_ n3_; clear hb hbox hg) | ((with_reducible refine gate_callee (f := 57) rfl ?_); refine goesL_ (some 13) rfl rfl Try.func57 (by kernel_rfl) rfl #[.int .i64 (wrap64 ((wrap64 (Int.tdiv (wrap64 (a0 - 1)) 864000000000)) + 1))] rfl (by (try simp only [List.map_toArray, List.map_cons, List.map_nil]); first | done | rfl | (simp only [List.length_drop, List.length_take]; rfl)) ?_; (with_reducible refine (encoding_convertDaydateToTime.calls (wrap64 ((wrap64 (Int.tdiv (wrap64 (a0 - 1)) 864000000000)) + 1)) t361 t362 _ A2.out).mono ?_); rintro e w5 ⟨rfl, hb⟩; refine ⟨_, rfl, ?_⟩; have n0_ := Aside0.mk (blk_below (g := gb360) (o := .cells #[.int .i64 0, .int .i64 0] 42 (0, 0)) (by (with_reducible repeat (first | refine blk_drewN ?_ _ | refine blk_drew ?_ | refine blk_alloc ?_ _)); exact BK360.out) hb); have n1_ := Aside0.mk (below_step (by repeat (first | (with_reducible first | exact HB.out | apply below_alloc | apply pw_below_drewN | apply below_drew1 | refine below_set ?_ GE360.out) | exact HB.out)) hb); clear BK360; clear HB; have BK360 := n0_; have HB := n1_; clear n0_ n1_; (try clear hb); (try clear hb2); (try clear hk); (try clear hi)) | ((with_reducible refine gate_dst (N := 4) rfl ?_); refine box_event ?hg (N := 4) ?hd (cs := #[.int .i64 0, .int .i64 0]) (t := 42) ?hr ?_; (case hd => rfl); (case hg => rfl); (case hr => first | (go_simp; done) | (go_simp; rfl)); intro gb363 hg w6 hbox hb; have n0_ := Aside0.mk (blk_below (g := gb360) (o := .cells #[.int .i64 0, .int .i64 0] 42 (0, 0)) (by (with_reducible repeat (first | refine blk_drewN ?_ _ | refine blk_drew ?_ | refine blk_alloc ?_ _)); exact BK360.out) hb); have n1_ := Aside0.mk (below_step (by repeat (first | (with_reducible first | exact HB.out | apply below_alloc | apply pw_below_drewN | apply below_drew1 | refine below_set ?_ GE360.out) | exact HB.out)) hb); have n2_ := Aside0.mk (hbox); have n3_ := Aside0.mk ((by rw [hg]; exact (below_size (by repeat (first | (with_reducible first | exact HB.out | apply below_alloc | apply pw_below_drewN | apply below_drew1 | refine below_set ?_ GE360.out) | exact HB.out))) : w.heap.size ≤ gb363)); have n4_ := Aside0.mk ((by rw [hg]; exact (below_size (by repeat (first | (with_reducible first | exact HB.out | apply below_alloc | apply pw_below_drewN | apply below_drew1 | refine below_set ?_ GE360.out) | exact HB.out))) : w.heap.size ≤ gb363)); have n5_ := Aside0.mk ((by rw [hg]; exact Nat.ne_of_lt (blk_lt (g := gb360) (o := .cells #[.int .i64 0, .int .i64 0] 42 (0, 0)) (by (with_reducible repeat (first | refine blk_drewN ?_ _ | refine blk_drew ?_ | refine blk_alloc ?_ _)); exact BK360.out)) : gb360 ≠ gb363)); have n6_ := Aside0.mk ((by rw [hg]; exact Nat.ne_of_gt (blk_lt (g := gb360) (o := .cells #[.int .i64 0, .int .i64 0] 42 (0, 0)) (by (with_reducible repeat (first | refine blk_drewN ?_ _ | refine blk_drew ?_ | refine blk_alloc ?_ _)); exact BK360.out)) : gb363 ≠ gb360)); clear BK360; clear HB; have BK360 := n0_; have HB := n1_; have BK363 := n2_; have GW363 := n3_; have GE363 := n4_; have NB360_363 := n5_; have NB363_360 := n6_; clear n0_ n1_ n2_ n3_ n4_ n5_ n6_; clear hb hbox hg; have hnb7 := NB363_360.out; have hnc7 := NB360_363.out; have hcz8_0 : w6.cell? ⟨gb363, 0, none⟩ = some (.int .i64 0) := (blk_cell BK363.out 0).trans rfl; have hcz8_1 : w6.cell? ⟨gb363, 1, none⟩ = some (.int .i64 0) := (blk_cell BK363.out 1).trans rfl; have hfz8_0 := blk_frozen BK363.out 0; have hfz8_1 := blk_frozen BK363.out 1) | ((with_reducible refine gate_callee (f := 61) rfl ?_); refine goesL_ (some 16) rfl rfl Try.func61 (by kernel_rfl) rfl #[.agg #[.int .i64 t361, .int .i64 t362], .int .i64 (wrap64 ((Int.tmod (wrap64 (a0 - 1)) 864000000000) * 100))] rfl (by (try simp only [List.map_toArray, List.map_cons, List.map_nil]); first | done | rfl | (simp only [List.length_drop, List.length_take]; rfl)) ?_; (with_reducible refine (zztime_Time_Add.calls t361 t362 (wrap64 ((Int.tmod (wrap64 (a0 - 1)) 864000000000) * 100)) t364 t365 _ A3.out).mono ?_); rintro e w9 ⟨rfl, hb⟩; refine ⟨_, rfl, ?_⟩; have n0_ := Aside0.mk (blk_below (g := gb360) (o := .cells #[.int .i64 0, .int .i64 0] 42 (0, 0)) (by (with_reducible repeat (first | refine blk_drewN ?_ _ | refine blk_drew ?_ | refine blk_alloc ?_ _)); refine blk_far ?_ NB360_363.out _; (with_reducible repeat (first | refine blk_drewN ?_ _ | refine blk_drew ?_ | refine blk_alloc ?_ _)); refine blk_far ?_ NB360_363.out _; (with_reducible repeat (first | refine blk_drewN ?_ _ | refine blk_drew ?_ | refine blk_alloc ?_ _)); exact BK360.out) hb); have n1_ := Aside0.mk (blk_below (g := gb363) (o := .cells #[.int .i64 t361, .int .i64 t362] 42 (0, 0)) (by (with_reducible repeat (first | refine blk_drewN ?_ _ | refine blk_drew ?_ | refine blk_alloc ?_ _)); refine blk_put (cs := #[.int .i64 t361, .int .i64 0]) ?_ 1 _ rfl; (with_reducible repeat (first | refine blk_drewN ?_ _ | refine blk_drew ?_ | refine blk_alloc ?_ _)); refine blk_put (cs := #[.int .i64 0, .int .i64 0]) ?_ 0 _ rfl; (with_reducible repeat (first | refine blk_drewN ?_ _ | refine blk_drew ?_ | refine blk_alloc ?_ _)); exact BK363.out) hb); have n2_ := Aside0.mk (below_step (by repeat (first | (with_reducible first | exact HB.out | apply below_alloc | apply pw_below_drewN | apply below_drew1 | refine below_set ?_ GE360.out | refine below_set ?_ GE363.out) | exact HB.out)) hb); clear BK360; clear BK363; clear HB; have BK360 := n0_; have BK363 := n1_; have HB := n2_; clear n0_ n1_ n2_; (try clear hb); (try clear hb2); (try clear hk); (try clear hi); have hcz10_0 : w9.cell? ⟨gb360, 0, none⟩ = some (.int .i64 0) := (blk_cell BK360.out 0).trans rfl; have hcz10_1 : w9.cell? ⟨gb360, 1, none⟩ = some (.int .i64 0) := (blk_cell BK360.out 1).trans rfl; have hfz10_0 := blk_frozen BK360.out 0; have hfz10_1 := blk_frozen BK360.out 1))
  refine bodyPost_ret (results_cell_row rfl _ _ gb360 42 #[.int .i64 t364, .int .i64 t365] (0, 0) _ rfl (by (with_reducible repeat (first | refine blk_drewN ?_ _ | refine blk_drew ?_ | refine blk_alloc ?_ _)); refine blk_put (cs := #[.int .i64 t364, .int .i64 0]) ?_ 1 _ rfl; (with_reducible repeat (first | refine blk_drewN ?_ _ | refine blk_drew ?_ | refine blk_alloc ?_ _)); refine blk_put (cs := #[.int .i64 0, .int .i64 0]) ?_ 0 _ rfl; (with_reducible repeat (first | refine blk_drewN ?_ _ | refine blk_drew ?_ | refine blk_alloc ?_ _)); exact BK360.out) Try.underlying42 rfl (by kernel_rfl)) rfl ?_
  exact ⟨by first | rfl | (simp [errW_none, errW_some] <;> rfl) | (simp [*, errW_none, errW_some] <;> rfl), by repeat (first | (with_reducible first | exact HB.out | apply below_alloc | apply pw_below_drewN | apply below_drew1 | refine below_set ?_ GE360.out | refine below_set ?_ GE363.out) | exact HB.out)⟩

/-! ### encoding_ZzLongdate: function 36 -/
def encoding_ZzLongdate.f (a0 : Int) : Option (Int × Int) := (encoding_convertLongdateToTime.f a0).bind fun bt367 => (some (bt367.1, bt367.2))
set_option maxHeartbeats 8000000 in
set_option maxRecDepth 100000 in
theorem encoding_ZzLongdate.calls (a0 : Int) (r1 : Int) (r2 : Int) (w : World) (h : encoding_ZzLongdate.f a0 = some (r1, r2)) :
    Calls Try.prog 36 #[.int .i64 a0] w fun e w' => e = .returned (.agg #[.int .i64 r1, .int .i64 r2]) ∧ Below w.heap.size w w' := by
  have hu42 := Try.underlying42
  have HB := Aside0.mk (Below.refl w.heap.size w)
  have H : ((encoding_convertLongdateToTime.f a0).bind fun bt367 => (some (bt367.1, bt367.2))) = some (r1, r2) := h
  clear h
  replace H := Option.bind_eq_some_iff.mp H
  obtain ⟨⟨t367, t368⟩, A20, H⟩ := H
  replace H : (some (t367, t368)) = some (r1, r2) := H
  have A2 := Aside0.mk A20
  clear A20
  simp only [Option.some.injEq, Prod.mk.injEq] at H
  obtain ⟨rfl, rfl⟩ := H
  go_enter Try.func36, Try.ntmps36
  go_wp2_with (first | ((with_reducible refine gate_dst (N := 2) rfl ?_); refine box_event ?hg (N := 2) ?hd (cs := #[.int .i64 0, .int .i64 0]) (t := 42) ?hr ?_; (case hd => rfl); (case hg => rfl); (case hr => first | (go_simp; done) | (go_simp; rfl)); intro gb366 hg w3 hbox hb; have n0_ := Aside0.mk (below_step (by repeat (first | (with_reducible first | exact HB.out | apply below_alloc | apply pw_below_drewN | apply below_drew1) | exact HB.out)) hb); have n1_ := Aside0.mk (hbox); have n2_ := Aside0.mk ((by rw [hg]; exact (below_size (by repeat (first | (with_reducible first | exact HB.out | apply below_alloc | apply pw_below_drewN | apply below_drew1) | exact HB.out))) : w.heap.size ≤ gb366)); have n3_ := Aside0.mk ((by rw [hg]; exact (below_size (by repeat (first | (with_reducible first | exact HB.out | apply below_alloc | apply pw_below_drewN | apply below_drew1) | exact HB.out))) : w.heap.size ≤ gb366)); clear HB; have HB := n0_; have BK366 := n1_; have GW366 := n2_; have GE366 := n3_; clear n0_ n1_ n2_ n3_; clear hb hbox hg) | ((with_reducible refine gate_callee (f := 55) rfl ?_); refine goesL_ (some 4) rfl rfl Try.func55 (by kernel_rfl) rfl #[.int .i64 a0] rfl (by (try simp only [List.map_toArray, List.map_cons, List.map_nil]); first | done | rfl | (simp only [List.length_drop, List.length_take]; rfl)) ?_; (with_reducible refine (encoding_convertLongdateToTime.calls a0 t367 t368 _ A2.out).mono ?_); rintro e w4 ⟨rfl, hb⟩; refine ⟨_, rfl, ?_⟩; have n0_ := Aside0.mk (blk_below (g := gb366) (o := .cells #[.int .i64 0, .int .i64 0] 42 (0, 0)) (by (with_reducible repeat (first | refine blk_drewN ?_ _ | refine blk_drew ?_ | refine blk_alloc ?_ _)); exact BK366.out) hb); have n1_ := Aside0.mk (below_step (by repeat (first | (with_reducible first | exact HB.out | apply below_alloc | apply pw_below_drewN | apply below_drew1 | refine below_set ?_ GE366.out) | exact HB.out)) hb); clear BK366; clear HB; have BK366 := n0_; have HB := n1_; clear n0_ n1_; (try clear hb); (try clear hb2); (try clear hk); (try clear hi); have hcz5_0 : w4.cell? ⟨gb366, 0, none⟩ = some (.int .i64 0) := (blk_cell BK366.out 0).trans rfl; have hcz5_1 : w4.cell? ⟨gb366, 1, none⟩ = some (.int .i64 0) := (blk_cell BK366.out 1).trans rfl; have hfz5_0 := blk_frozen BK366.out 0; have hfz5_1 := blk_frozen BK366.out 1))
  refine bodyPost_ret (results_cell_row rfl _ _ gb366 42 #[.int .i64 t367, .int .i64 t368] (0, 0) _ rfl (by (with_reducible repeat (first | refine blk_drewN ?_ _ | refine blk_drew ?_ | refine blk_alloc ?_ _)); refine blk_put (cs := #[.int .i64 t367, .int .i64 0]) ?_ 1 _ rfl; (with_reducible repeat (first | refine blk_drewN ?_ _ | refine blk_drew ?_ | refine blk_alloc ?_ _)); refine blk_put (cs := #[.int .i64 0, .int .i64 0]) ?_ 0 _ rfl; (with_reducible repeat (first | refine blk_drewN ?_ _ | refine blk_drew ?_ | refine blk_alloc ?_ _)); exact BK366.out) Try.underlying42 rfl (by kernel_rfl)) rfl ?_
  exact ⟨by first | rfl | (simp [errW_none, errW_some] <;> rfl) | (simp [*, errW_none, errW_some] <;> rfl), by repeat (first | (with_reducible first | exact HB.out | apply below_alloc | apply pw_below_drewN | apply below_drew1 | refine below_set ?_ GE366.out) | exact HB.out)⟩

end Go.Proofs.Ytbblgpgjgkmcbaa.PJal
