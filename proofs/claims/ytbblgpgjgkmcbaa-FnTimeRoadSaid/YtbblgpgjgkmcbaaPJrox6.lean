/- Written by a program (print.py, called by prints.sh) for this claim: Go functions as plain Lean functions, and that the code comes to their answers. -/
import Derived.Test.YtbblgpgjgkmcbaaPJrox0
import Derived.Test.YtbblgpgjgkmcbaaPJrox3
import Derived.Test.YtbblgpgjgkmcbaaPJrox5
namespace Go.Proofs.Ytbblgpgjgkmcbaa.PJro
open Go.RowKit Go.Proofs.YtbblgpgjgkmcbaaW.PrintWords Go.Proofs.YtbblgpgjgkmcbaaW.PrintLast Go.Proofs.YtbblgpgjgkmcbaaW.PrintMore
attribute [local go_sem] max2_int min2_int max_two min_two max_three min_three max_four min_four   -- for this text's walks alone
set_option linter.unusedVariables false
set_option linter.unusedSimpArgs false

/-! ### encoding_convertSeconddateToTime: function 56 -/
def encoding_convertSeconddateToTime.f (a0 : Int) : Option (Int × Int) := (encoding_convertDaydateToTime.f (wrap64 ((wrap64 (Int.tdiv (wrap64 (a0 - 1)) 86400)) + 1))).bind fun bt267 => ((zztime_Time_Add.f bt267.1 bt267.2 (wrap64 ((Int.tmod (wrap64 (a0 - 1)) 86400) * 1000000000))).bind fun bt270 => (some (bt270.1, bt270.2)))
set_option maxHeartbeats 8000000 in
set_option maxRecDepth 100000 in
theorem encoding_convertSeconddateToTime.calls (a0 : Int) (r1 : Int) (r2 : Int) (w : World) (h : encoding_convertSeconddateToTime.f a0 = some (r1, r2)) :
    Calls Try.prog 56 #[.int .i64 a0] w fun e w' => e = .returned (.agg #[.int .i64 r1, .int .i64 r2]) ∧ Below w.heap.size w w' := by
  have hu42 := Try.underlying42
  have HB := Aside0.mk (Below.refl w.heap.size w)
  have H : ((encoding_convertDaydateToTime.f (wrap64 ((wrap64 (Int.tdiv (wrap64 (a0 - 1)) 86400)) + 1))).bind fun bt267 => ((zztime_Time_Add.f bt267.1 bt267.2 (wrap64 ((Int.tmod (wrap64 (a0 - 1)) 86400) * 1000000000))).bind fun bt270 => (some (bt270.1, bt270.2)))) = some (r1, r2) := h
  clear h
  replace H := Option.bind_eq_some_iff.mp H
  obtain ⟨⟨t267, t268⟩, A20, H⟩ := H
  replace H : ((zztime_Time_Add.f t267 t268 (wrap64 ((Int.tmod (wrap64 (a0 - 1)) 86400) * 1000000000))).bind fun bt270 => (some (bt270.1, bt270.2))) = some (r1, r2) := H
  have A2 := Aside0.mk A20
  clear A20
  replace H := Option.bind_eq_some_iff.mp H
  obtain ⟨⟨t270, t271⟩, A30, H⟩ := H
  replace H : (some (t270, t271)) = some (r1, r2) := H
  have A3 := Aside0.mk A30
  clear A30
  simp only [Option.some.injEq, Prod.mk.injEq] at H
  obtain ⟨rfl, rfl⟩ := H
  go_enter Try.func56, Try.ntmps56
  go_wp2_with (first | ((with_reducible refine gate_dst (N := 2) rfl ?_); refine box_event ?hg (N := 2) ?hd (cs := #[.int .i64 0, .int .i64 0]) (t := 42) ?hr ?_; (case hd => rfl); (case hg => rfl); (case hr => first | (go_simp; done) | (go_simp; rfl)); intro gb266 hg w4 hbox hb; have n0_ := Aside0.mk (below_step (by repeat (first | (with_reducible first | exact HB.out | apply below_alloc | apply pw_below_drewN | apply below_drew1) | exact HB.out)) hb); have n1_ := Aside0.mk (hbox); have n2_ := Aside0.mk ((by rw [hg]; exact (below_size (by repeat (first | (with_reducible first | exact HB.out | apply below_alloc | apply pw_below_drewN | apply below_drew1) | exact HB.out))) : w.heap.size ≤ gb266)); have n3_ := Aside0.mk ((by rw [hg]; exact (below_size (by repeat (first | (with_reducible first | exact HB.out | apply below_alloc | apply pw_below_drewN | apply below_drew1) | exact HB.out))) : w.heap.size ≤ gb266)); clear HB; have HB := n0_; have BK266 := n1_; have GW266 := n2_; have GE266 := n3_; clear n0_ n1_ n2_ n3_; clear hb hbox hg) | ((with_reducible refine gate_callee (f := 57) rfl ?_); refine goesL_ (some 13) rfl rfl Try.func57 (by kernel_rfl) rfl #[.int .i64 (wrap64 ((wrap64 (Int.tdiv (wrap64 (a0 - 1)) 86400)) + 1))] rfl (by (try simp only [List.map_toArray, List.map_cons, List.map_nil]); first | done | rfl | (simp only [List.length_drop, List.length_take]; rfl)) ?_; (with_reducible refine (encoding_convertDaydateToTime.calls (wrap64 ((wrap64 (Int.tdiv (wrap64 (a0 - 1)) 86400)) + 1)) t267 t268 _ A2.out).mono ?_); rintro e w5 ⟨rfl, hb⟩; refine ⟨_, rfl, ?_⟩; have n0_ := Aside0.mk (blk_below (g := gb266) (o := .cells #[.int .i64 0, .int .i64 0] 42 (0, 0)) (by (with_reducible repeat (first | refine blk_drewN ?_ _ | refine blk_drew ?_ | refine blk_alloc ?_ _)); exact BK266.out) hb); have n1_ := Aside0.mk (below_step (by repeat (first | (with_reducible first | exact HB.out | apply below_alloc | apply pw_below_drewN | apply below_drew1 | refine below_set ?_ GE266.out) | exact HB.out)) hb); clear BK266; clear HB; have BK266 := n0_; have HB := n1_; clear n0_ n1_; (try clear hb); (try clear hb2); (try clear hk); (try clear hi)) | ((with_reducible refine gate_dst (N := 4) rfl ?_); refine box_event ?hg (N := 4) ?hd (cs := #[.int .i64 0, .int .i64 0]) (t := 42) ?hr ?_; (case hd => rfl); (case hg => rfl); (case hr => first | (go_simp; done) | (go_simp; rfl)); intro gb269 hg w6 hbox hb; have n0_ := Aside0.mk (blk_below (g := gb266) (o := .cells #[.int .i64 0, .int .i64 0] 42 (0, 0)) (by (with_reducible repeat (first | refine blk_drewN ?_ _ | refine blk_drew ?_ | refine blk_alloc ?_ _)); exact BK266.out) hb); have n1_ := Aside0.mk (below_step (by repeat (first | (with_reducible first | exact HB.out | apply below_alloc | apply pw_below_drewN | apply below_drew1 | refine below_set ?_ GE266.out) | exact HB.out)) hb); have n2_ := Aside0.mk (hbox); have n3_ := Aside0.mk ((by rw [hg]; exact (below_size (by repeat (first | (with_reducible first | exact HB.out | apply below_alloc | apply pw_below_drewN | apply below_drew1 | refine below_set ?_ GE266.out) | exact HB.out))) : w.heap.size ≤ gb269)); have n4_ := Aside0.mk ((by rw [hg]; exact (below_size (by repeat (first | (with_reducible first | exact HB.out | apply below_alloc | apply pw_below_drewN | apply below_drew1 | refine below_set ?_ GE266.out) | exact HB.out))) : w.heap.size ≤ gb269)); have n5_ := Aside0.mk ((by rw [hg]; exact Nat.ne_of_lt (blk_lt (g := gb266) (o := .cells #[.int .i64 0, .int .i64 0] 42 (0, 0)) (by (with_reducible repeat (first | refine blk_drewN ?_ _ | refine blk_drew ?_ | refine blk_alloc ?_ _)); exact BK266.out)) : gb266 ≠ gb269)); have n6_ := Aside0.mk ((by rw [hg]; exact Nat.ne_of_gt (blk_lt (g := gb266) (o := .cells #[.int .i64 0, .int .i64 0] 42 (0, 0)) (by (with_reducible repeat (first | refine blk_drewN ?_ _ | refine blk_drew ?_ | refine blk_alloc ?_ _)); exact BK266.out)) : gb269 ≠ gb266)); clear BK266; clear HB; have BK266 := n0_; have HB := n1_; have BK269 := n2_; have GW269 := n3_; have GE269 := n4_; have NB266_269 := n5_; have NB269_266 := n6_; clear n0_ n1_ n2_ n3_ n4_ n5_ n6_; clear hb hbox hg; have hnb7 := NB269_266.out; have hnc7 := NB266_269.out; have hcz8_0 : w6.cell? ⟨gb269, 0, none⟩ = some (.int .i64 0) := (blk_cell BK269.out 0).trans rfl; have hcz8_1 : w6.cell? ⟨gb269, 1, none⟩ = some (.int .i64 0) := (blk_cell BK269.out 1).trans rfl; have hfz8_0 := blk_frozen BK269.out 0; have hfz8_1 := blk_frozen BK269.out 1) | ((with_reducible refine gate_callee (f := 61) rfl ?_); refine goesL_ (some 16) rfl rfl Try.func61 (by kernel_rfl) rfl #[.agg #[.int .i64 t267, .int .i64 t268], .int .i64 (wrap64 ((Int.tmod (wrap64 (a0 - 1)) 86400) * 1000000000))] rfl (by (try simp only [List.map_toArray, List.map_cons, List.map_nil]); first | done | rfl | (simp only [List.length_drop, List.length_take]; rfl)) ?_; (with_reducible refine (zztime_Time_Add.calls t267 t268 (wrap64 ((Int.tmod (wrap64 (a0 - 1)) 86400) * 1000000000)) t270 t271 _ A3.out).mono ?_); rintro e w9 ⟨rfl, hb⟩; refine ⟨_, rfl, ?_⟩; have n0_ := Aside0.mk (blk_below (g := gb266) (o := .cells #[.int .i64 0, .int .i64 0] 42 (0, 0)) (by (with_reducible repeat (first | refine blk_drewN ?_ _ | refine blk_drew ?_ | refine blk_alloc ?_ _)); refine blk_far ?_ NB266_269.out _; (with_reducible repeat (first | refine blk_drewN ?_ _ | refine blk_drew ?_ | refine blk_alloc ?_ _)); refine blk_far ?_ NB266_269.out _; (with_reducible repeat (first | refine blk_drewN ?_ _ | refine blk_drew ?_ | refine blk_alloc ?_ _)); exact BK266.out) hb); have n1_ := Aside0.mk (blk_below (g := gb269) (o := .cells #[.int .i64 t267, .int .i64 t268] 42 (0, 0)) (by (with_reducible repeat (first | refine blk_drewN ?_ _ | refine blk_drew ?_ | refine blk_alloc ?_ _)); refine blk_put (cs := #[.int .i64 t267, .int .i64 0]) ?_ 1 _ rfl; (with_reducible repeat (first | refine blk_drewN ?_ _ | refine blk_drew ?_ | refine blk_alloc ?_ _)); refine blk_put (cs := #[.int .i64 0, .int .i64 0]) ?_ 0 _ rfl; (with_reducible repeat (first | refine blk_drewN ?_ _ | refine blk_drew ?_ | refine blk_alloc ?_ _)); exact BK269.out) hb); have n2_ := Aside0.mk (below_step (by repeat (first | (with_reducible first | exact HB.out | apply below_alloc | apply pw_below_drewN | apply below_drew1 | refine below_set ?_ GE266.out | refine below_set ?_ GE269.out) | exact HB.out)) hb); clear BK266; clear BK269; clear HB; have BK266 := n0_; have BK269 := n1_; have HB := n2_; clear n0_ n1_ n2_; (try clear hb); (try clear hb2); (try clear hk); (try clear hi); have hcz10_0 : w9.cell? ⟨gb266, 0, none⟩ = some (.int .i64 0) := (blk_cell BK266.out 0).trans rfl; have hcz10_1 : w9.cell? ⟨gb266, 1, none⟩ = some (.int .i64 0) := (blk_cell BK266.out 1).trans rfl; have hfz10_0 := blk_frozen BK266.out 0; have hfz10_1 := blk_frozen BK266.out 1))
  refine bodyPost_ret (results_cell_row rfl _ _ gb266 42 #[.int .i64 t270, .int .i64 t271] (0, 0) _ rfl (by (with_reducible repeat (first | refine blk_drewN ?_ _ | refine blk_drew ?_ | refine blk_alloc ?_ _)); refine blk_put (cs := #[.int .i64 t270, .int .i64 0]) ?_ 1 _ rfl; (with_reducible repeat (first | refine blk_drewN ?_ _ | refine blk_drew ?_ | refine blk_alloc ?_ _)); refine blk_put (cs := #[.int .i64 0, .int .i64 0]) ?_ 0 _ rfl; (with_reducible repeat (first | refine blk_drewN ?_ _ | refine blk_drew ?_ | refine blk_alloc ?_ _)); exact BK266.out) Try.underlying42 rfl (by kernel_rfl)) rfl ?_
  exact ⟨by first | rfl | (simp [errW_none, errW_some] <;> rfl) | (simp [*, errW_none, errW_some] <;> rfl), by repeat (first | (with_reducible first | exact HB.out | apply below_alloc | apply pw_below_drewN | apply below_drew1 | refine below_set ?_ GE266.out | refine below_set ?_ GE269.out) | exact HB.out)⟩

/-! ### encoding_ZzSeconddate: function 37 -/
def encoding_ZzSeconddate.f (a0 : Int) : Option (Int × Int) := (encoding_convertSeconddateToTime.f a0).bind fun bt273 => (some (bt273.1, bt273.2))
set_option maxHeartbeats 8000000 in
set_option maxRecDepth 100000 in
theorem encoding_ZzSeconddate.calls (a0 : Int) (r1 : Int) (r2 : Int) (w : World) (h : encoding_ZzSeconddate.f a0 = some (r1, r2)) :
    Calls Try.prog 37 #[.int .i64 a0] w fun e w' => e = .returned (.agg #[.int .i64 r1, .int .i64 r2]) ∧ Below w.heap.size w w' := by
  have hu42 := Try.underlying42
  have HB := Aside0.mk (Below.refl w.heap.size w)
  have H : ((encoding_convertSeconddateToTime.f a0).bind fun bt273 => (some (bt273.1, bt273.2))) = some (r1, r2) := h
  clear h
  replace H := Option.bind_eq_some_iff.mp H
  obtain ⟨⟨t273, t274⟩, A20, H⟩ := H
  replace H : (some (t273, t274)) = some (r1, r2) := H
  have A2 := Aside0.mk A20
  clear A20
  simp only [Option.some.injEq, Prod.mk.injEq] at H
  obtain ⟨rfl, rfl⟩ := H
  go_enter Try.func37, Try.ntmps37
  go_wp2_with (first | ((with_reducible refine gate_dst (N := 2) rfl ?_); refine box_event ?hg (N := 2) ?hd (cs := #[.int .i64 0, .int .i64 0]) (t := 42) ?hr ?_; (case hd => rfl); (case hg => rfl); (case hr => first | (go_simp; done) | (go_simp; rfl)); intro gb272 hg w3 hbox hb; have n0_ := Aside0.mk (below_step (by repeat (first | (with_reducible first | exact HB.out | apply below_alloc | apply pw_below_drewN | apply below_drew1) | exact HB.out)) hb); have n1_ := Aside0.mk (hbox); have n2_ := Aside0.mk ((by rw [hg]; exact (below_size (by repeat (first | (with_reducible first | exact HB.out | apply below_alloc | apply pw_below_drewN | apply below_drew1) | exact HB.out))) : w.heap.size ≤ gb272)); have n3_ := Aside0.mk ((by rw [hg]; exact (below_size (by repeat (first | (with_reducible first | exact HB.out | apply below_alloc | apply pw_below_drewN | apply below_drew1) | exact HB.out))) : w.heap.size ≤ gb272)); clear HB; have HB := n0_; have BK272 := n1_; have GW272 := n2_; have GE272 := n3_; clear n0_ n1_ n2_ n3_; clear hb hbox hg) | ((with_reducible refine gate_callee (f := 56) rfl ?_); refine goesL_ (some 4) rfl rfl Try.func56 (by kernel_rfl) rfl #[.int .i64 a0] rfl (by (try simp only [List.map_toArray, List.map_cons, List.map_nil]); first | done | rfl | (simp only [List.length_drop, List.length_take]; rfl)) ?_; (with_reducible refine (encoding_convertSeconddateToTime.calls a0 t273 t274 _ A2.out).mono ?_); rintro e w4 ⟨rfl, hb⟩; refine ⟨_, rfl, ?_⟩; have n0_ := Aside0.mk (blk_below (g := gb272) (o := .cells #[.int .i64 0, .int .i64 0] 42 (0, 0)) (by (with_reducible repeat (first | refine blk_drewN ?_ _ | refine blk_drew ?_ | refine blk_alloc ?_ _)); exact BK272.out) hb); have n1_ := Aside0.mk (below_step (by repeat (first | (with_reducible first | exact HB.out | apply below_alloc | apply pw_below_drewN | apply below_drew1 | refine below_set ?_ GE272.out) | exact HB.out)) hb); clear BK272; clear HB; have BK272 := n0_; have HB := n1_; clear n0_ n1_; (try clear hb); (try clear hb2); (try clear hk); (try clear hi); have hcz5_0 : w4.cell? ⟨gb272, 0, none⟩ = some (.int .i64 0) := (blk_cell BK272.out 0).trans rfl; have hcz5_1 : w4.cell? ⟨gb272, 1, none⟩ = some (.int .i64 0) := (blk_cell BK272.out 1).trans rfl; have hfz5_0 := blk_frozen BK272.out 0; have hfz5_1 := blk_frozen BK272.out 1))
  refine bodyPost_ret (results_cell_row rfl _ _ gb272 42 #[.int .i64 t273, .int .i64 t274] (0, 0) _ rfl (by (with_reducible repeat (first | refine blk_drewN ?_ _ | refine blk_drew ?_ | refine blk_alloc ?_ _)); refine blk_put (cs := #[.int .i64 t273, .int .i64 0]) ?_ 1 _ rfl; (with_reducible repeat (first | refine blk_drewN ?_ _ | refine blk_drew ?_ | refine blk_alloc ?_ _)); refine blk_put (cs := #[.int .i64 0, .int .i64 0]) ?_ 0 _ rfl; (with_reducible repeat (first | refine blk_drewN ?_ _ | refine blk_drew ?_ | refine blk_alloc ?_ _)); exact BK272.out) Try.underlying42 rfl (by kernel_rfl)) rfl ?_
  exact ⟨by first | rfl | (simp [errW_none, errW_some] <;> rfl) | (simp [*, errW_none, errW_some] <;> rfl), by repeat (first | (with_reducible first | exact HB.out | apply below_alloc | apply pw_below_drewN | apply below_drew1 | refine below_set ?_ GE272.out) | exact HB.out)⟩

/-! ### impl_SeconddateTime: function 19 -/
def impl_SeconddateTime.j0 : Nat → Int → Bool → Option (Int × Int × Int × Int × Int × Int × Int × Int)
  | 0, _, _ => none
  | k + 1, x0, x9 => if x9 = true then (some (0, 0, 0, 0, 0, 0, 0, 3)) else ((encoding_ZzSeconddate.f x0).bind fun bt276 => ((impl_timeBack.f bt276.1 bt276.2).bind fun bt278 => (some (bt278.1, bt278.2.1, bt278.2.2.1, bt278.2.2.2.1, bt278.2.2.2.2.1, bt278.2.2.2.2.2.1, bt278.2.2.2.2.2.2, 0))))
def impl_SeconddateTime.f (k : Nat) (a0 : Int) : Option (Int × Int × Int × Int × Int × Int × Int × Int) := if a0 < (-1000) then (impl_SeconddateTime.j0 k a0 true) else (impl_SeconddateTime.j0 k a0 (decide (a0 > 400000000000)))
theorem impl_SeconddateTime.mono_l : ∀ k, (∀ y0 y1, LeO (impl_SeconddateTime.j0 k y0 y1) (impl_SeconddateTime.j0 (k + 1) y0 y1))
  | 0 => fun _ _ r h => by simp [impl_SeconddateTime.j0] at h
  | k + 1 => by
    have ih0 := impl_SeconddateTime.mono_l k
    · intro y0 y1
      unfold impl_SeconddateTime.j0
      repeat' first
      | (with_reducible exact ih0 _ _)
      | (with_reducible exact LeO.refl _)
      | (with_reducible exact LeO.none _)
      | (with_reducible refine LeO.ite ?_ ?_)
      | (with_reducible refine LeO.bind ?_ (fun _ => ?_))
      | exact ih0 _ _
      | exact LeO.none _
      | refine LeO.ite ?_ ?_
      | refine LeO.bind ?_ (fun _ => ?_)
theorem impl_SeconddateTime.mono : ∀ a0 k, LeO (impl_SeconddateTime.f k a0) (impl_SeconddateTime.f (k + 1) a0) := by
  intro a0 k
  have ih0 := impl_SeconddateTime.mono_l k
  unfold impl_SeconddateTime.f
  repeat' first
      | (with_reducible exact ih0 _ _)
      | (with_reducible exact LeO.refl _)
      | (with_reducible exact LeO.none _)
      | (with_reducible refine LeO.ite ?_ ?_)
      | (with_reducible refine LeO.bind ?_ (fun _ => ?_))
      | exact ih0 _ _
      | exact LeO.none _
      | refine LeO.ite ?_ ?_
      | refine LeO.bind ?_ (fun _ => ?_)
set_option maxHeartbeats 8000000 in
set_option maxRecDepth 100000 in
theorem impl_SeconddateTime.calls (k : Nat) (a0 : Int) (r1 : Int) (r2 : Int) (r3 : Int) (r4 : Int) (r5 : Int) (r6 : Int) (r7 : Int) (r8 : Int) (w : World) (h : impl_SeconddateTime.f k a0 = some (r1, r2, r3, r4, r5, r6, r7, r8)) :
    Calls Try.prog 19 #[.int .i64 a0] w fun e w' => e = .returned (.tuple #[.agg #[.int .i64 r1, .int .i64 r2, .int .i64 r3, .int .i64 r4, .int .i64 r5, .int .i64 r6, .int .i64 r7], .int .i64 r8]) ∧ Below w.heap.size w w' := by
  have hu23 := Try.underlying23
  have HB := Aside0.mk (Below.refl w.heap.size w)
  have H : (if a0 < (-1000) then (impl_SeconddateTime.j0 k a0 true) else (impl_SeconddateTime.j0 k a0 (decide (a0 > 400000000000)))) = some (r1, r2, r3, r4, r5, r6, r7, r8) := h
  clear h
  have HC2 := Aside0.mk H
  clear H
  go_enter Try.func19, Try.ntmps19
  go_upto_region 1 with (first | ((with_reducible refine gate_dst (N := 2) rfl ?_); refine box_event ?hg (N := 2) ?hd (cs := #[.int .i64 0, .int .i64 0, .int .i64 0, .int .i64 0, .int .i64 0, .int .i64 0, .int .i64 0]) (t := 23) ?hr ?_; (case hd => rfl); (case hg => rfl); (case hr => first | (go_simp; done) | (go_simp; rfl)); intro gb275 hg w3 hbox hb; have n0_ := Aside0.mk (below_step (by repeat (first | (with_reducible first | exact HB.out | apply below_alloc | apply pw_below_drewN | apply below_drew1) | exact HB.out)) hb); have n1_ := Aside0.mk (hbox); have n2_ := Aside0.mk ((by rw [hg]; exact (below_size (by repeat (first | (with_reducible first | exact HB.out | apply below_alloc | apply pw_below_drewN | apply below_drew1) | exact HB.out))) : w.heap.size ≤ gb275)); have n3_ := Aside0.mk ((by rw [hg]; exact (below_size (by repeat (first | (with_reducible first | exact HB.out | apply below_alloc | apply pw_below_drewN | apply below_drew1) | exact HB.out))) : w.heap.size ≤ gb275)); clear HB; have HB := n0_; have BK275 := n1_; have GW275 := n2_; have GE275 := n3_; clear n0_ n1_ n2_ n3_; clear hb hbox hg))
  (try simp only [Act.put, List.setIfInBounds_toArray, List.set_cons_zero, List.set_cons_succ])
  go_cut [9] (fun v9 wc => ∃ (kq : Nat) (x9_1 : Bool), v9 = .bool x9_1 ∧ Aside0 (impl_SeconddateTime.j0 kq a0 x9_1 = some (r1, r2, r3, r4, r5, r6, r7, r8)) ∧ Aside0 (kq ≤ k) ∧ Aside0 (wc.heap[gb275]? = some (.cells #[.int .i64 0, .int .i64 0, .int .i64 0, .int .i64 0, .int .i64 0, .int .i64 0, .int .i64 0] 23 (0, 0))) ∧ Aside0 (Below w.heap.size w wc))
  case first =>
    have H := HC2.out
    clear HC2
    by_cases c4 : a0 < (-1000)
    · rw [if_pos c4] at H
      have c4b0 : decide (a0 < (-1000)) = true := decide_eq_true c4
      clear c4
      (first | rw [c4b0] | (simp only [i64_w, i32_w]; rw [c4b0]) | skip)
      have H' := Aside0.mk H
      clear H
      go_wp2
      go_meet
      case rel => exact ⟨_, (true), (by first | rfl | (simp; done) | (simp [*]; done)), H', ⟨by first | omega | exact Nat.le_refl _⟩, ⟨by (with_reducible repeat (first | refine blk_drewN ?_ _ | refine blk_drew ?_ | refine blk_alloc ?_ _)); exact BK275.out⟩, ⟨by repeat (first | (with_reducible first | exact HB.out | apply below_alloc | apply pw_below_drewN | apply below_drew1 | refine below_set ?_ GE275.out) | exact HB.out)⟩⟩
    · rw [if_neg c4] at H
      have c4b0 : decide (a0 < (-1000)) = false := decide_eq_false c4
      clear c4
      (first | rw [c4b0] | (simp only [i64_w, i32_w]; rw [c4b0]) | skip)
      have H' := Aside0.mk H
      clear H
      go_wp2
      go_meet
      case rel => exact ⟨_, (decide (a0 > 400000000000)), (by first | rfl | (simp; done) | (simp [*]; done)), H', ⟨by first | omega | exact Nat.le_refl _⟩, ⟨by (with_reducible repeat (first | refine blk_drewN ?_ _ | refine blk_drew ?_ | refine blk_alloc ?_ _)); exact BK275.out⟩, ⟨by repeat (first | (with_reducible first | exact HB.out | apply below_alloc | apply pw_below_drewN | apply below_drew1 | refine below_set ?_ GE275.out) | exact HB.out)⟩⟩
  case rest =>
    clear HC2
    try clear c1
    try clear p2
    try clear c4
    try clear c4b0
    obtain ⟨kq, x9_1, rfl, HA, HJ1, BK275, HB⟩ := hcut
    cases kq with
    | zero => exact absurd HA.out (by simp [impl_SeconddateTime.j0])
    | succ kj1 =>
      have H := HA.out
      clear HA
      simp only [impl_SeconddateTime.j0] at H
      by_cases c5 : x9_1 = true
      · subst c5
        have H1 : (some (0, 0, 0, 0, 0, 0, 0, 3)) = some (r1, r2, r3, r4, r5, r6, r7, r8) := by rw [if_pos rfl] at H; exact H
        clear H
        have H := H1
        clear H1
        simp only [Option.some.injEq, Prod.mk.injEq] at H
        obtain ⟨rfl, rfl, rfl, rfl, rfl, rfl, rfl, rfl⟩ := H
        have hcz6_0 : wc.cell? ⟨gb275, 0, none⟩ = some (.int .i64 0) := (blk_cell BK275.out 0).trans rfl
        have hcz6_1 : wc.cell? ⟨gb275, 1, none⟩ = some (.int .i64 0) := (blk_cell BK275.out 1).trans rfl
        have hcz6_2 : wc.cell? ⟨gb275, 2, none⟩ = some (.int .i64 0) := (blk_cell BK275.out 2).trans rfl
        have hcz6_3 : wc.cell? ⟨gb275, 3, none⟩ = some (.int .i64 0) := (blk_cell BK275.out 3).trans rfl
        have hcz6_4 : wc.cell? ⟨gb275, 4, none⟩ = some (.int .i64 0) := (blk_cell BK275.out 4).trans rfl
        have hcz6_5 : wc.cell? ⟨gb275, 5, none⟩ = some (.int .i64 0) := (blk_cell BK275.out 5).trans rfl
        have hcz6_6 : wc.cell? ⟨gb275, 6, none⟩ = some (.int .i64 0) := (blk_cell BK275.out 6).trans rfl
        have hfz6_0 := blk_frozen BK275.out 0
        have hfz6_1 := blk_frozen BK275.out 1
        have hfz6_2 := blk_frozen BK275.out 2
        have hfz6_3 := blk_frozen BK275.out 3
        have hfz6_4 := blk_frozen BK275.out 4
        have hfz6_5 := blk_frozen BK275.out 5
        have hfz6_6 := blk_frozen BK275.out 6
        go_wp2
        refine bodyPost_ret (results_ct rfl _ _ gb275 23 #[.int .i64 0, .int .i64 0, .int .i64 0, .int .i64 0, .int .i64 0, .int .i64 0, .int .i64 0] (0, 0) _ rfl (by (with_reducible repeat (first | refine blk_drewN ?_ _ | refine blk_drew ?_ | refine blk_alloc ?_ _)); refine blk_put (cs := #[.int .i64 0, .int .i64 0, .int .i64 0, .int .i64 0, .int .i64 0, .int .i64 0, .int .i64 0]) ?_ 6 _ rfl; (with_reducible repeat (first | refine blk_drewN ?_ _ | refine blk_drew ?_ | refine blk_alloc ?_ _)); refine blk_put (cs := #[.int .i64 0, .int .i64 0, .int .i64 0, .int .i64 0, .int .i64 0, .int .i64 0, .int .i64 0]) ?_ 5 _ rfl; (with_reducible repeat (first | refine blk_drewN ?_ _ | refine blk_drew ?_ | refine blk_alloc ?_ _)); refine blk_put (cs := #[.int .i64 0, .int .i64 0, .int .i64 0, .int .i64 0, .int .i64 0, .int .i64 0, .int .i64 0]) ?_ 4 _ rfl; (with_reducible repeat (first | refine blk_drewN ?_ _ | refine blk_drew ?_ | refine blk_alloc ?_ _)); refine blk_put (cs := #[.int .i64 0, .int .i64 0, .int .i64 0, .int .i64 0, .int .i64 0, .int .i64 0, .int .i64 0]) ?_ 3 _ rfl; (with_reducible repeat (first | refine blk_drewN ?_ _ | refine blk_drew ?_ | refine blk_alloc ?_ _)); refine blk_put (cs := #[.int .i64 0, .int .i64 0, .int .i64 0, .int .i64 0, .int .i64 0, .int .i64 0, .int .i64 0]) ?_ 2 _ rfl; (with_reducible repeat (first | refine blk_drewN ?_ _ | refine blk_drew ?_ | refine blk_alloc ?_ _)); refine blk_put (cs := #[.int .i64 0, .int .i64 0, .int .i64 0, .int .i64 0, .int .i64 0, .int .i64 0, .int .i64 0]) ?_ 1 _ rfl; (with_reducible repeat (first | refine blk_drewN ?_ _ | refine blk_drew ?_ | refine blk_alloc ?_ _)); refine blk_put (cs := #[.int .i64 0, .int .i64 0, .int .i64 0, .int .i64 0, .int .i64 0, .int .i64 0, .int .i64 0]) ?_ 0 _ rfl; (with_reducible repeat (first | refine blk_drewN ?_ _ | refine blk_drew ?_ | refine blk_alloc ?_ _)); exact BK275.out) Try.underlying23 rfl (by kernel_rfl)) rfl ?_
        exact ⟨by first | rfl | (simp [errW_none, errW_some] <;> rfl) | (simp [*, errW_none, errW_some] <;> rfl), by repeat (first | (with_reducible first | exact HB.out | apply below_alloc | apply pw_below_drewN | apply below_drew1 | refine below_set ?_ GE275.out) | exact HB.out)⟩
      · replace c5 := Bool.eq_false_iff.mpr c5
        subst c5
        have H1 : ((encoding_ZzSeconddate.f a0).bind fun bt276 => ((impl_timeBack.f bt276.1 bt276.2).bind fun bt278 => (some (bt278.1, bt278.2.1, bt278.2.2.1, bt278.2.2.2.1, bt278.2.2.2.2.1, bt278.2.2.2.2.2.1, bt278.2.2.2.2.2.2, 0)))) = some (r1, r2, r3, r4, r5, r6, r7, r8) := by rw [if_neg (show ¬ (false = true) by decide)] at H; exact H
        clear H
        have H := H1
        clear H1
        replace H := Option.bind_eq_some_iff.mp H
        obtain ⟨⟨t276, t277⟩, A70, H⟩ := H
        replace H : ((impl_timeBack.f t276 t277).bind fun bt278 => (some (bt278.1, bt278.2.1, bt278.2.2.1, bt278.2.2.2.1, bt278.2.2.2.2.1, bt278.2.2.2.2.2.1, bt278.2.2.2.2.2.2, 0))) = some (r1, r2, r3, r4, r5, r6, r7, r8) := H
        have A7 := Aside0.mk A70
        clear A70
        replace H := Option.bind_eq_some_iff.mp H
        obtain ⟨⟨t278, t279, t280, t281, t282, t283, t284⟩, A80, H⟩ := H
        replace H : (some (t278, t279, t280, t281, t282, t283, t284, 0)) = some (r1, r2, r3, r4, r5, r6, r7, r8) := H
        have A8 := Aside0.mk A80
        clear A80
        simp only [Option.some.injEq, Prod.mk.injEq] at H
        obtain ⟨rfl, rfl, rfl, rfl, rfl, rfl, rfl, rfl⟩ := H
        go_wp2_with (first | ((with_reducible refine gate_callee (f := 37) rfl ?_); refine goesL_ (some 12) rfl rfl Try.func37 (by kernel_rfl) rfl #[.int .i64 a0] rfl (by (try simp only [List.map_toArray, List.map_cons, List.map_nil]); first | done | rfl | (simp only [List.length_drop, List.length_take]; rfl)) ?_; (with_reducible refine (encoding_ZzSeconddate.calls a0 t276 t277 _ A7.out).mono ?_); rintro e w9 ⟨rfl, hb⟩; refine ⟨_, rfl, ?_⟩; have n0_ := Aside0.mk (blk_below (g := gb275) (o := .cells #[.int .i64 0, .int .i64 0, .int .i64 0, .int .i64 0, .int .i64 0, .int .i64 0, .int .i64 0] 23 (0, 0)) (by (with_reducible repeat (first | refine blk_drewN ?_ _ | refine blk_drew ?_ | refine blk_alloc ?_ _)); exact BK275.out) hb); have n1_ := Aside0.mk (below_step (by repeat (first | (with_reducible first | exact HB.out | apply below_alloc | apply pw_below_drewN | apply below_drew1 | refine below_set ?_ GE275.out) | exact HB.out)) hb); clear BK275; clear HB; have BK275 := n0_; have HB := n1_; clear n0_ n1_; (try clear hb); (try clear hb2); (try clear hk); (try clear hi)) | ((with_reducible refine gate_callee (f := 24) rfl ?_); refine goesL_ (some 13) rfl rfl Try.func24 (by kernel_rfl) rfl #[.agg #[.int .i64 t276, .int .i64 t277]] rfl (by (try simp only [List.map_toArray, List.map_cons, List.map_nil]); first | done | rfl | (simp only [List.length_drop, List.length_take]; rfl)) ?_; (with_reducible refine (impl_timeBack.calls t276 t277 t278 t279 t280 t281 t282 t283 t284 _ A8.out).mono ?_); rintro e w10 ⟨rfl, hb⟩; refine ⟨_, rfl, ?_⟩; have n0_ := Aside0.mk (blk_below (g := gb275) (o := .cells #[.int .i64 0, .int .i64 0, .int .i64 0, .int .i64 0, .int .i64 0, .int .i64 0, .int .i64 0] 23 (0, 0)) (by (with_reducible repeat (first | refine blk_drewN ?_ _ | refine blk_drew ?_ | refine blk_alloc ?_ _)); exact BK275.out) hb); have n1_ := Aside0.mk (below_step (by repeat (first | (with_reducible first | exact HB.out | apply below_alloc | apply pw_below_drewN | apply below_drew1 | refine below_set ?_ GE275.out) | exact HB.out)) hb); clear BK275; clear HB; have BK275 := n0_; have HB := n1_; clear n0_ n1_; (try clear hb); (try clear hb2); (try clear hk); (try clear hi); have hcz11_0 : w10.cell? ⟨gb275, 0, none⟩ = some (.int .i64 0) := (blk_cell BK275.out 0).trans rfl; have hcz11_1 : w10.cell? ⟨gb275, 1, none⟩ = some (.int .i64 0) := (blk_cell BK275.out 1).trans rfl; have hcz11_2 : w10.cell? ⟨gb275, 2, none⟩ = some (.int .i64 0) := (blk_cell BK275.out 2).trans rfl; have hcz11_3 : w10.cell? ⟨gb275, 3, none⟩ = some (.int .i64 0) := (blk_cell BK275.out 3).trans rfl; have hcz11_4 : w10.cell? ⟨gb275, 4, none⟩ = some (.int .i64 0) := (blk_cell BK275.out 4).trans rfl; have hcz11_5 : w10.cell? ⟨gb275, 5, none⟩ = some (.int .i64 0) := (blk_cell BK275.out 5).trans rfl; have hcz11_6 : w10.cell? ⟨gb275, 6, none⟩ = some (.int .i64 0) := (blk_cell BK275.out 6).trans rfl; have hfz11_0 := blk_frozen BK275.out 0; have hfz11_1 := blk_frozen BK275.out 1; have hfz11_2 := blk_frozen BK275.out 2; have hfz11_3 := blk_frozen BK275.out 3; have hfz11_4 := blk_frozen BK275.out 4; have hfz11_5 := blk_frozen BK275.out 5; have hfz11_6 := blk_frozen BK275.out 6))
        refine bodyPost_ret (results_ct rfl _ _ gb275 23 #[.int .i64 t278, .int .i64 t279, .int .i64 t280, .int .i64 t281, .int .i64 t282, .int .i64 t283, .int .i64 t284] (0, 0) _ rfl (by (with_reducible repeat (first | refine blk_drewN ?_ _ | refine blk_drew ?_ | refine blk_alloc ?_ _)); refine blk_put (cs := #[.int .i64 t278, .int .i64 t279, .int .i64 t280, .int .i64 t281, .int .i64 t282, .int .i64 t283, .int .i64 0]) ?_ 6 _ rfl; (with_reducible repeat (first | refine blk_drewN ?_ _ | refine blk_drew ?_ | refine blk_alloc ?_ _)); refine blk_put (cs := #[.int .i64 t278, .int .i64 t279, .int .i64 t280, .int .i64 t281, .int .i64 t282, .int .i64 0, .int .i64 0]) ?_ 5 _ rfl; (with_reducible repeat (first | refine blk_drewN ?_ _ | refine blk_drew ?_ | refine blk_alloc ?_ _)); refine blk_put (cs := #[.int .i64 t278, .int .i64 t279, .int .i64 t280, .int .i64 t281, .int .i64 0, .int .i64 0, .int .i64 0]) ?_ 4 _ rfl; (with_reducible repeat (first | refine blk_drewN ?_ _ | refine blk_drew ?_ | refine blk_alloc ?_ _)); refine blk_put (cs := #[.int .i64 t278, .int .i64 t279, .int .i64 t280, .int .i64 0, .int .i64 0, .int .i64 0, .int .i64 0]) ?_ 3 _ rfl; (with_reducible repeat (first | refine blk_drewN ?_ _ | refine blk_drew ?_ | refine blk_alloc ?_ _)); refine blk_put (cs := #[.int .i64 t278, .int .i64 t279, .int .i64 0, .int .i64 0, .int .i64 0, .int .i64 0, .int .i64 0]) ?_ 2 _ rfl; (with_reducible repeat (first | refine blk_drewN ?_ _ | refine blk_drew ?_ | refine blk_alloc ?_ _)); refine blk_put (cs := #[.int .i64 t278, .int .i64 0, .int .i64 0, .int .i64 0, .int .i64 0, .int .i64 0, .int .i64 0]) ?_ 1 _ rfl; (with_reducible repeat (first | refine blk_drewN ?_ _ | refine blk_drew ?_ | refine blk_alloc ?_ _)); refine blk_put (cs := #[.int .i64 0, .int .i64 0, .int .i64 0, .int .i64 0, .int .i64 0, .int .i64 0, .int .i64 0]) ?_ 0 _ rfl; (with_reducible repeat (first | refine blk_drewN ?_ _ | refine blk_drew ?_ | refine blk_alloc ?_ _)); exact BK275.out) Try.underlying23 rfl (by kernel_rfl)) rfl ?_
        exact ⟨by first | rfl | (simp [errW_none, errW_some] <;> rfl) | (simp [*, errW_none, errW_some] <;> rfl), by repeat (first | (with_reducible first | exact HB.out | apply below_alloc | apply pw_below_drewN | apply below_drew1 | refine below_set ?_ GE275.out) | exact HB.out)⟩

/-! ### encoding_ZzDaydate: function 38 -/
def encoding_ZzDaydate.f (a0 : Int) : Option (Int × Int) := (encoding_convertDaydateToTime.f a0).bind fun bt286 => (some (bt286.1, bt286.2))
set_option maxHeartbeats 8000000 in
set_option maxRecDepth 100000 in
theorem encoding_ZzDaydate.calls (a0 : Int) (r1 : Int) (r2 : Int) (w : World) (h : encoding_ZzDaydate.f a0 = some (r1, r2)) :
    Calls Try.prog 38 #[.int .i64 a0] w fun e w' => e = .returned (.agg #[.int .i64 r1, .int .i64 r2]) ∧ Below w.heap.size w w' := by
  have hu42 := Try.underlying42
  have HB := Aside0.mk (Below.refl w.heap.size w)
  have H : ((encoding_convertDaydateToTime.f a0).bind fun bt286 => (some (bt286.1, bt286.2))) = some (r1, r2) := h
  clear h
  replace H := Option.bind_eq_some_iff.mp H
  obtain ⟨⟨t286, t287⟩, A20, H⟩ := H
  replace H : (some (t286, t287)) = some (r1, r2) := H
  have A2 := Aside0.mk A20
  clear A20
  simp only [Option.some.injEq, Prod.mk.injEq] at H
  obtain ⟨rfl, rfl⟩ := H
  go_enter Try.func38, Try.ntmps38
  go_wp2_with (first | ((with_reducible refine gate_dst (N := 2) rfl ?_); refine box_event ?hg (N := 2) ?hd (cs := #[.int .i64 0, .int .i64 0]) (t := 42) ?hr ?_; (case hd => rfl); (case hg => rfl); (case hr => first | (go_simp; done) | (go_simp; rfl)); intro gb285 hg w3 hbox hb; have n0_ := Aside0.mk (below_step (by repeat (first | (with_reducible first | exact HB.out | apply below_alloc | apply pw_below_drewN | apply below_drew1) | exact HB.out)) hb); have n1_ := Aside0.mk (hbox); have n2_ := Aside0.mk ((by rw [hg]; exact (below_size (by repeat (first | (with_reducible first | exact HB.out | apply below_alloc | apply pw_below_drewN | apply below_drew1) | exact HB.out))) : w.heap.size ≤ gb285)); have n3_ := Aside0.mk ((by rw [hg]; exact (below_size (by repeat (first | (with_reducible first | exact HB.out | apply below_alloc | apply pw_below_drewN | apply below_drew1) | exact HB.out))) : w.heap.size ≤ gb285)); clear HB; have HB := n0_; have BK285 := n1_; have GW285 := n2_; have GE285 := n3_; clear n0_ n1_ n2_ n3_; clear hb hbox hg) | ((with_reducible refine gate_callee (f := 57) rfl ?_); refine goesL_ (some 4) rfl rfl Try.func57 (by kernel_rfl) rfl #[.int .i64 a0] rfl (by (try simp only [List.map_toArray, List.map_cons, List.map_nil]); first | done | rfl | (simp only [List.length_drop, List.length_take]; rfl)) ?_; (with_reducible refine (encoding_convertDaydateToTime.calls a0 t286 t287 _ A2.out).mono ?_); rintro e w4 ⟨rfl, hb⟩; refine ⟨_, rfl, ?_⟩; have n0_ := Aside0.mk (blk_below (g := gb285) (o := .cells #[.int .i64 0, .int .i64 0] 42 (0, 0)) (by (with_reducible repeat (first | refine blk_drewN ?_ _ | refine blk_drew ?_ | refine blk_alloc ?_ _)); exact BK285.out) hb); have n1_ := Aside0.mk (below_step (by repeat (first | (with_reducible first | exact HB.out | apply below_alloc | apply pw_below_drewN | apply below_drew1 | refine below_set ?_ GE285.out) | exact HB.out)) hb); clear BK285; clear HB; have BK285 := n0_; have HB := n1_; clear n0_ n1_; (try clear hb); (try clear hb2); (try clear hk); (try clear hi); have hcz5_0 : w4.cell? ⟨gb285, 0, none⟩ = some (.int .i64 0) := (blk_cell BK285.out 0).trans rfl; have hcz5_1 : w4.cell? ⟨gb285, 1, none⟩ = some (.int .i64 0) := (blk_cell BK285.out 1).trans rfl; have hfz5_0 := blk_frozen BK285.out 0; have hfz5_1 := blk_frozen BK285.out 1))
  refine bodyPost_ret (results_cell_row rfl _ _ gb285 42 #[.int .i64 t286, .int .i64 t287] (0, 0) _ rfl (by (with_reducible repeat (first | refine blk_drewN ?_ _ | refine blk_drew ?_ | refine blk_alloc ?_ _)); refine blk_put (cs := #[.int .i64 t286, .int .i64 0]) ?_ 1 _ rfl; (with_reducible repeat (first | refine blk_drewN ?_ _ | refine blk_drew ?_ | refine blk_alloc ?_ _)); refine blk_put (cs := #[.int .i64 0, .int .i64 0]) ?_ 0 _ rfl; (with_reducible repeat (first | refine blk_drewN ?_ _ | refine blk_drew ?_ | refine blk_alloc ?_ _)); exact BK285.out) Try.underlying42 rfl (by kernel_rfl)) rfl ?_
  exact ⟨by first | rfl | (simp [errW_none, errW_some] <;> rfl) | (simp [*, errW_none, errW_some] <;> rfl), by repeat (first | (with_reducible first | exact HB.out | apply below_alloc | apply pw_below_drewN | apply below_drew1 | refine below_set ?_ GE285.out) | exact HB.out)⟩

/-! ### impl_DaydateTime: function 20 -/
def impl_DaydateTime.j0 : Nat → Int → Bool → Option (Int × Int × Int × Int × Int × Int × Int × Int)
  | 0, _, _ => none
  | k + 1, x0, x9 => if x9 = true then (some (0, 0, 0, 0, 0, 0, 0, 3)) else ((encoding_ZzDaydate.f x0).bind fun bt289 => ((impl_timeBack.f bt289.1 bt289.2).bind fun bt291 => (some (bt291.1, bt291.2.1, bt291.2.2.1, bt291.2.2.2.1, bt291.2.2.2.2.1, bt291.2.2.2.2.2.1, bt291.2.2.2.2.2.2, 0))))
def impl_DaydateTime.f (k : Nat) (a0 : Int) : Option (Int × Int × Int × Int × Int × Int × Int × Int) := if a0 < (-1000000) then (impl_DaydateTime.j0 k a0 true) else (impl_DaydateTime.j0 k a0 (decide (a0 > 5000000)))
theorem impl_DaydateTime.mono_l : ∀ k, (∀ y0 y1, LeO (impl_DaydateTime.j0 k y0 y1) (impl_DaydateTime.j0 (k + 1) y0 y1))
  | 0 => fun _ _ r h => by simp [impl_DaydateTime.j0] at h
  | k + 1 => by
    have ih0 := impl_DaydateTime.mono_l k
    · intro y0 y1
      unfold impl_DaydateTime.j0
      repeat' first
      | (with_reducible exact ih0 _ _)
      | (with_reducible exact LeO.refl _)
      | (with_reducible exact LeO.none _)
      | (with_reducible refine LeO.ite ?_ ?_)
      | (with_reducible refine LeO.bind ?_ (fun _ => ?_))
      | exact ih0 _ _
      | exact LeO.none _
      | refine LeO.ite ?_ ?_
      | refine LeO.bind ?_ (fun _ => ?_)
theorem impl_DaydateTime.mono : ∀ a0 k, LeO (impl_DaydateTime.f k a0) (impl_DaydateTime.f (k + 1) a0) := by
  intro a0 k
  have ih0 := impl_DaydateTime.mono_l k
  unfold impl_DaydateTime.f
  repeat' first
      | (with_reducible exact ih0 _ _)
      | (with_reducible exact LeO.refl _)
      | (with_reducible exact LeO.none _)
      | (with_reducible refine LeO.ite ?_ ?_)
      | (with_reducible refine LeO.bind ?_ (fun _ => ?_))
      | exact ih0 _ _
      | exact LeO.none _
      | refine LeO.ite ?_ ?_
      | refine LeO.bind ?_ (fun _ => ?_)
set_option maxHeartbeats 8000000 in
set_option maxRecDepth 100000 in
theorem impl_DaydateTime.calls (k : Nat) (a0 : Int) (r1 : Int) (r2 : Int) (r3 : Int) (r4 : Int) (r5 : Int) (r6 : Int) (r7 : Int) (r8 : Int) (w : World) (h : impl_DaydateTime.f k a0 = some (r1, r2, r3, r4, r5, r6, r7, r8)) :
    Calls Try.prog 20 #[.int .i64 a0] w fun e w' => e = .returned (.tuple #[.agg #[.int .i64 r1, .int .i64 r2, .int .i64 r3, .int .i64 r4, .int .i64 r5, .int .i64 r6, .int .i64 r7], .int .i64 r8]) ∧ Below w.heap.size w w' := by
  have hu23 := Try.underlying23
  have HB := Aside0.mk (Below.refl w.heap.size w)
  have H : (if a0 < (-1000000) then (impl_DaydateTime.j0 k a0 true) else (impl_DaydateTime.j0 k a0 (decide (a0 > 5000000)))) = some (r1, r2, r3, r4, r5, r6, r7, r8) := h
  clear h
  have HC2 := Aside0.mk H
  clear H
  go_enter Try.func20, Try.ntmps20
  go_upto_region 1 with (first | ((with_reducible refine gate_dst (N := 2) rfl ?_); refine box_event ?hg (N := 2) ?hd (cs := #[.int .i64 0, .int .i64 0, .int .i64 0, .int .i64 0, .int .i64 0, .int .i64 0, .int .i64 0]) (t := 23) ?hr ?_; (case hd => rfl); (case hg => rfl); (case hr => first | (go_simp; done) | (go_simp; rfl)); intro gb288 hg w3 hbox hb; have n0_ := Aside0.mk (below_step (by repeat (first | (with_reducible first | exact HB.out | apply below_alloc | apply pw_below_drewN | apply below_drew1) | exact HB.out)) hb); have n1_ := Aside0.mk (hbox); have n2_ := Aside0.mk ((by rw [hg]; exact (below_size (by repeat (first | (with_reducible first | exact HB.out | apply below_alloc | apply pw_below_drewN | apply below_drew1) | exact HB.out))) : w.heap.size ≤ gb288)); have n3_ := Aside0.mk ((by rw [hg]; exact (below_size (by repeat (first | (with_reducible first | exact HB.out | apply below_alloc | apply pw_below_drewN | apply below_drew1) | exact HB.out))) : w.heap.size ≤ gb288)); clear HB; have HB := n0_; have BK288 := n1_; have GW288 := n2_; have GE288 := n3_; clear n0_ n1_ n2_ n3_; clear hb hbox hg))
  (try simp only [Act.put, List.setIfInBounds_toArray, List.set_cons_zero, List.set_cons_succ])
  go_cut [9] (fun v9 wc => ∃ (kq : Nat) (x9_1 : Bool), v9 = .bool x9_1 ∧ Aside0 (impl_DaydateTime.j0 kq a0 x9_1 = some (r1, r2, r3, r4, r5, r6, r7, r8)) ∧ Aside0 (kq ≤ k) ∧ Aside0 (wc.heap[gb288]? = some (.cells #[.int .i64 0, .int .i64 0, .int .i64 0, .int .i64 0, .int .i64 0, .int .i64 0, .int .i64 0] 23 (0, 0))) ∧ Aside0 (Below w.heap.size w wc))
  case first =>
    have H := HC2.out
    clear HC2
    by_cases c4 : a0 < (-1000000)
    · rw [if_pos c4] at H
      have c4b0 : decide (a0 < (-1000000)) = true := decide_eq_true c4
      clear c4
      (first | rw [c4b0] | (simp only [i64_w, i32_w]; rw [c4b0]) | skip)
      have H' := Aside0.mk H
      clear H
      go_wp2
      go_meet
      case rel => exact ⟨_, (true), (by first | rfl | (simp; done) | (simp [*]; done)), H', ⟨by first | omega | exact Nat.le_refl _⟩, ⟨by (with_reducible repeat (first | refine blk_drewN ?_ _ | refine blk_drew ?_ | refine blk_alloc ?_ _)); exact BK288.out⟩, ⟨by repeat (first | (with_reducible first | exact HB.out | apply below_alloc | apply pw_below_drewN | apply below_drew1 | refine below_set ?_ GE288.out) | exact HB.out)⟩⟩
    · rw [if_neg c4] at H
      have c4b0 : decide (a0 < (-1000000)) = false := decide_eq_false c4
      clear c4
      (first | rw [c4b0] | (simp only [i64_w, i32_w]; rw [c4b0]) | skip)
      have H' := Aside0.mk H
      clear H
      go_wp2
      go_meet
      case rel => exact ⟨_, (decide (a0 > 5000000)), (by first | rfl | (simp; done) | (simp [*]; done)), H', ⟨by first | omega | exact Nat.le_refl _⟩, ⟨by (with_reducible repeat (first | refine blk_drewN ?_ _ | refine blk_drew ?_ | refine blk_alloc ?_ _)); exact BK288.out⟩, ⟨by repeat (first | (with_reducible first | exact HB.out | apply below_alloc | apply pw_below_drewN | apply below_drew1 | refine below_set ?_ GE288.out) | exact HB.out)⟩⟩
  case rest =>
    clear HC2
    try clear c2
    try clear p2
    try clear c4
    try clear c4b0
    obtain ⟨kq, x9_1, rfl, HA, HJ1, BK288, HB⟩ := hcut
    cases kq with
    | zero => exact absurd HA.out (by simp [impl_DaydateTime.j0])
    | succ kj1 =>
      have H := HA.out
      clear HA
      simp only [impl_DaydateTime.j0] at H
      by_cases c5 : x9_1 = true
      · subst c5
        have H1 : (some (0, 0, 0, 0, 0, 0, 0, 3)) = some (r1, r2, r3, r4, r5, r6, r7, r8) := by rw [if_pos rfl] at H; exact H
        clear H
        have H := H1
        clear H1
        simp only [Option.some.injEq, Prod.mk.injEq] at H
        obtain ⟨rfl, rfl, rfl, rfl, rfl, rfl, rfl, rfl⟩ := H
        have hcz6_0 : wc.cell? ⟨gb288, 0, none⟩ = some (.int .i64 0) := (blk_cell BK288.out 0).trans rfl
        have hcz6_1 : wc.cell? ⟨gb288, 1, none⟩ = some (.int .i64 0) := (blk_cell BK288.out 1).trans rfl
        have hcz6_2 : wc.cell? ⟨gb288, 2, none⟩ = some (.int .i64 0) := (blk_cell BK288.out 2).trans rfl
        have hcz6_3 : wc.cell? ⟨gb288, 3, none⟩ = some (.int .i64 0) := (blk_cell BK288.out 3).trans rfl
        have hcz6_4 : wc.cell? ⟨gb288, 4, none⟩ = some (.int .i64 0) := (blk_cell BK288.out 4).trans rfl
        have hcz6_5 : wc.cell? ⟨gb288, 5, none⟩ = some (.int .i64 0) := (blk_cell BK288.out 5).trans rfl
        have hcz6_6 : wc.cell? ⟨gb288, 6, none⟩ = some (.int .i64 0) := (blk_cell BK288.out 6).trans rfl
        have hfz6_0 := blk_frozen BK288.out 0
        have hfz6_1 := blk_frozen BK288.out 1
        have hfz6_2 := blk_frozen BK288.out 2
        have hfz6_3 := blk_frozen BK288.out 3
        have hfz6_4 := blk_frozen BK288.out 4
        have hfz6_5 := blk_frozen BK288.out 5
        have hfz6_6 := blk_frozen BK288.out 6
        go_wp2
        refine bodyPost_ret (results_ct rfl _ _ gb288 23 #[.int .i64 0, .int .i64 0, .int .i64 0, .int .i64 0, .int .i64 0, .int .i64 0, .int .i64 0] (0, 0) _ rfl (by (with_reducible repeat (first | refine blk_drewN ?_ _ | refine blk_drew ?_ | refine blk_alloc ?_ _)); refine blk_put (cs := #[.int .i64 0, .int .i64 0, .int .i64 0, .int .i64 0, .int .i64 0, .int .i64 0, .int .i64 0]) ?_ 6 _ rfl; (with_reducible repeat (first | refine blk_drewN ?_ _ | refine blk_drew ?_ | refine blk_alloc ?_ _)); refine blk_put (cs := #[.int .i64 0, .int .i64 0, .int .i64 0, .int .i64 0, .int .i64 0, .int .i64 0, .int .i64 0]) ?_ 5 _ rfl; (with_reducible repeat (first | refine blk_drewN ?_ _ | refine blk_drew ?_ | refine blk_alloc ?_ _)); refine blk_put (cs := #[.int .i64 0, .int .i64 0, .int .i64 0, .int .i64 0, .int .i64 0, .int .i64 0, .int .i64 0]) ?_ 4 _ rfl; (with_reducible repeat (first | refine blk_drewN ?_ _ | refine blk_drew ?_ | refine blk_alloc ?_ _)); refine blk_put (cs := #[.int .i64 0, .int .i64 0, .int .i64 0, .int .i64 0, .int .i64 0, .int .i64 0, .int .i64 0]) ?_ 3 _ rfl; (with_reducible repeat (first | refine blk_drewN ?_ _ | refine blk_drew ?_ | refine blk_alloc ?_ _)); refine blk_put (cs := #[.int .i64 0, .int .i64 0, .int .i64 0, .int .i64 0, .int .i64 0, .int .i64 0, .int .i64 0]) ?_ 2 _ rfl; (with_reducible repeat (first | refine blk_drewN ?_ _ | refine blk_drew ?_ | refine blk_alloc ?_ _)); refine blk_put (cs := #[.int .i64 0, .int .i64 0, .int .i64 0, .int .i64 0, .int .i64 0, .int .i64 0, .int .i64 0]) ?_ 1 _ rfl; (with_reducible repeat (first | refine blk_drewN ?_ _ | refine blk_drew ?_ | refine blk_alloc ?_ _)); refine blk_put (cs := #[.int .i64 0, .int .i64 0, .int .i64 0, .int .i64 0, .int .i64 0, .int .i64 0, .int .i64 0]) ?_ 0 _ rfl; (with_reducible repeat (first | refine blk_drewN ?_ _ | refine blk_drew ?_ | refine blk_alloc ?_ _)); exact BK288.out) Try.underlying23 rfl (by kernel_rfl)) rfl ?_
        exact ⟨by first | rfl | (simp [errW_none, errW_some] <;> rfl) | (simp [*, errW_none, errW_some] <;> rfl), by repeat (first | (with_reducible first | exact HB.out | apply below_alloc | apply pw_below_drewN | apply below_drew1 | refine below_set ?_ GE288.out) | exact HB.out)⟩
      · replace c5 := Bool.eq_false_iff.mpr c5
        subst c5
        have H1 : ((encoding_ZzDaydate.f a0).bind fun bt289 => ((impl_timeBack.f bt289.1 bt289.2).bind fun bt291 => (some (bt291.1, bt291.2.1, bt291.2.2.1, bt291.2.2.2.1, bt291.2.2.2.2.1, bt291.2.2.2.2.2.1, bt291.2.2.2.2.2.2, 0)))) = some (r1, r2, r3, r4, r5, r6, r7, r8) := by rw [if_neg (show ¬ (false = true) by decide)] at H; exact H
        clear H
        have H := H1
        clear H1
        replace H := Option.bind_eq_some_iff.mp H
        obtain ⟨⟨t289, t290⟩, A70, H⟩ := H
        replace H : ((impl_timeBack.f t289 t290).bind fun bt291 => (some (bt291.1, bt291.2.1, bt291.2.2.1, bt291.2.2.2.1, bt291.2.2.2.2.1, bt291.2.2.2.2.2.1, bt291.2.2.2.2.2.2, 0))) = some (r1, r2, r3, r4, r5, r6, r7, r8) := H
        have A7 := Aside0.mk A70
        clear A70
        replace H := Option.bind_eq_some_iff.mp H
        obtain ⟨⟨t291, t292, t293, t294, t295, t296, t297⟩, A80, H⟩ := H
        replace H : (some (t291, t292, t293, t294, t295, t296, t297, 0)) = some (r1, r2, r3, r4, r5, r6, r7, r8) := H
        have A8 := Aside0.mk A80
        clear A80
        simp only [Option.some.injEq, Prod.mk.injEq] at H
        obtain ⟨rfl, rfl, rfl, rfl, rfl, rfl, rfl, rfl⟩ := H
        go_wp2_with (first | ((with_reducible refine gate_callee (f := 38) rfl ?_); refine goesL_ (some 12) rfl rfl Try.func38 (by kernel_rfl) rfl #[.int .i64 a0] rfl (by (try simp only [List.map_toArray, List.map_cons, List.map_nil]); first | done | rfl | (simp only [List.length_drop, List.length_take]; rfl)) ?_; (with_reducible refine (encoding_ZzDaydate.calls a0 t289 t290 _ A7.out).mono ?_); rintro e w9 ⟨rfl, hb⟩; refine ⟨_, rfl, ?_⟩; have n0_ := Aside0.mk (blk_below (g := gb288) (o := .cells #[.int .i64 0, .int .i64 0, .int .i64 0, .int .i64 0, .int .i64 0, .int .i64 0, .int .i64 0] 23 (0, 0)) (by (with_reducible repeat (first | refine blk_drewN ?_ _ | refine blk_drew ?_ | refine blk_alloc ?_ _)); exact BK288.out) hb); have n1_ := Aside0.mk (below_step (by repeat (first | (with_reducible first | exact HB.out | apply below_alloc | apply pw_below_drewN | apply below_drew1 | refine below_set ?_ GE288.out) | exact HB.out)) hb); clear BK288; clear HB; have BK288 := n0_; have HB := n1_; clear n0_ n1_; (try clear hb); (try clear hb2); (try clear hk); (try clear hi)) | ((with_reducible refine gate_callee (f := 24) rfl ?_); refine goesL_ (some 13) rfl rfl Try.func24 (by kernel_rfl) rfl #[.agg #[.int .i64 t289, .int .i64 t290]] rfl (by (try simp only [List.map_toArray, List.map_cons, List.map_nil]); first | done | rfl | (simp only [List.length_drop, List.length_take]; rfl)) ?_; (with_reducible refine (impl_timeBack.calls t289 t290 t291 t292 t293 t294 t295 t296 t297 _ A8.out).mono ?_); rintro e w10 ⟨rfl, hb⟩; refine ⟨_, rfl, ?_⟩; have n0_ := Aside0.mk (blk_below (g := gb288) (o := .cells #[.int .i64 0, .int .i64 0, .int .i64 0, .int .i64 0, .int .i64 0, .int .i64 0, .int .i64 0] 23 (0, 0)) (by (with_reducible repeat (first | refine blk_drewN ?_ _ | refine blk_drew ?_ | refine blk_alloc ?_ _)); exact BK288.out) hb); have n1_ := Aside0.mk (below_step (by repeat (first | (with_reducible first | exact HB.out | apply below_alloc | apply pw_below_drewN | apply below_drew1 | refine below_set ?_ GE288.out) | exact HB.out)) hb); clear BK288; clear HB; have BK288 := n0_; have HB := n1_; clear n0_ n1_; (try clear hb); (try clear hb2); (try clear hk); (try clear hi); have hcz11_0 : w10.cell? ⟨gb288, 0, none⟩ = some (.int .i64 0) := (blk_cell BK288.out 0).trans rfl; have hcz11_1 : w10.cell? ⟨gb288, 1, none⟩ = some (.int .i64 0) := (blk_cell BK288.out 1).trans rfl; have hcz11_2 : w10.cell? ⟨gb288, 2, none⟩ = some (.int .i64 0) := (blk_cell BK288.out 2).trans rfl; have hcz11_3 : w10.cell? ⟨gb288, 3, none⟩ = some (.int .i64 0) := (blk_cell BK288.out 3).trans rfl; have hcz11_4 : w10.cell? ⟨gb288, 4, none⟩ = some (.int .i64 0) := (blk_cell BK288.out 4).trans rfl; have hcz11_5 : w10.cell? ⟨gb288, 5, none⟩ = some (.int .i64 0) := (blk_cell BK288.out 5).trans rfl; have hcz11_6 : w10.cell? ⟨gb288, 6, none⟩ = some (.int .i64 0) := (blk_cell BK288.out 6).trans rfl; have hfz11_0 := blk_frozen BK288.out 0; have hfz11_1 := blk_frozen BK288.out 1; have hfz11_2 := blk_frozen BK288.out 2; have hfz11_3 := blk_frozen BK288.out 3; have hfz11_4 := blk_frozen BK288.out 4; have hfz11_5 := blk_frozen BK288.out 5; have hfz11_6 := blk_frozen BK288.out 6))
        refine bodyPost_ret (results_ct rfl _ _ gb288 23 #[.int .i64 t291, .int .i64 t292, .int .i64 t293, .int .i64 t294, .int .i64 t295, .int .i64 t296, .int .i64 t297] (0, 0) _ rfl (by (with_reducible repeat (first | refine blk_drewN ?_ _ | refine blk_drew ?_ | refine blk_alloc ?_ _)); refine blk_put (cs := #[.int .i64 t291, .int .i64 t292, .int .i64 t293, .int .i64 t294, .int .i64 t295, .int .i64 t296, .int .i64 0]) ?_ 6 _ rfl; (with_reducible repeat (first | refine blk_drewN ?_ _ | refine blk_drew ?_ | refine blk_alloc ?_ _)); refine blk_put (cs := #[.int .i64 t291, .int .i64 t292, .int .i64 t293, .int .i64 t294, .int .i64 t295, .int .i64 0, .int .i64 0]) ?_ 5 _ rfl; (with_reducible repeat (first | refine blk_drewN ?_ _ | refine blk_drew ?_ | refine blk_alloc ?_ _)); refine blk_put (cs := #[.int .i64 t291, .int .i64 t292, .int .i64 t293, .int .i64 t294, .int .i64 0, .int .i64 0, .int .i64 0]) ?_ 4 _ rfl; (with_reducible repeat (first | refine blk_drewN ?_ _ | refine blk_drew ?_ | refine blk_alloc ?_ _)); refine blk_put (cs := #[.int .i64 t291, .int .i64 t292, .int .i64 t293, .int .i64 0, .int .i64 0, .int .i64 0, .int .i64 0]) ?_ 3 _ rfl; (with_reducible repeat (first | refine blk_drewN ?_ _ | refine blk_drew ?_ | refine blk_alloc ?_ _)); refine blk_put (cs := #[.int .i64 t291, .int .i64 t292, .int .i64 0, .int .i64 0, .int .i64 0, .int .i64 0, .int .i64 0]) ?_ 2 _ rfl; (with_reducible repeat (first | refine blk_drewN ?_ _ | refine blk_drew ?_ | refine blk_alloc ?_ _)); refine blk_put (cs := #[.int .i64 t291, .int .i64 0, .int .i64 0, .int .i64 0, .int .i64 0, .int .i64 0, .int .i64 0]) ?_ 1 _ rfl; (with_reducible repeat (first | refine blk_drewN ?_ _ | refine blk_drew ?_ | refine blk_alloc ?_ _)); refine blk_put (cs := #[.int .i64 0, .int .i64 0, .int .i64 0, .int .i64 0, .int .i64 0, .int .i64 0, .int .i64 0]) ?_ 0 _ rfl; (with_reducible repeat (first | refine blk_drewN ?_ _ | refine blk_drew ?_ | refine blk_alloc ?_ _)); exact BK288.out) Try.underlying23 rfl (by kernel_rfl)) rfl ?_
        exact ⟨by first | rfl | (simp [errW_none, errW_some] <;> rfl) | (simp [*, errW_none, errW_some] <;> rfl), by repeat (first | (with_reducible first | exact HB.out | apply below_alloc | apply pw_below_drewN | apply below_drew1 | refine below_set ?_ GE288.out) | exact HB.out)⟩

/-! ### encoding_convertSecondtimeToTime: function 58 -/
def encoding_convertSecondtimeToTime.f (a0 : Int) : Option (Int × Int) := (zztime_Date.f 1 1 1 0 0 0 0 0).bind fun bt299 => ((zztime_Time_Add.f bt299.1 bt299.2 (wrap64 ((wrap64 (a0 - 1)) * 1000000000))).bind fun bt301 => (some (bt301.1, bt301.2)))
set_option maxHeartbeats 8000000 in
set_option maxRecDepth 100000 in
theorem encoding_convertSecondtimeToTime.calls (a0 : Int) (r1 : Int) (r2 : Int) (w : World) (h : encoding_convertSecondtimeToTime.f a0 = some (r1, r2)) :
    Calls Try.prog 58 #[.int .i64 a0] w fun e w' => e = .returned (.agg #[.int .i64 r1, .int .i64 r2]) ∧ Below w.heap.size w w' := by
  have hu42 := Try.underlying42
  have HB := Aside0.mk (Below.refl w.heap.size w)
  have H : ((zztime_Date.f 1 1 1 0 0 0 0 0).bind fun bt299 => ((zztime_Time_Add.f bt299.1 bt299.2 (wrap64 ((wrap64 (a0 - 1)) * 1000000000))).bind fun bt301 => (some (bt301.1, bt301.2)))) = some (r1, r2) := h
  clear h
  replace H := Option.bind_eq_some_iff.mp H
  obtain ⟨⟨t299, t300⟩, A20, H⟩ := H
  replace H : ((zztime_Time_Add.f t299 t300 (wrap64 ((wrap64 (a0 - 1)) * 1000000000))).bind fun bt301 => (some (bt301.1, bt301.2))) = some (r1, r2) := H
  have A2 := Aside0.mk A20
  clear A20
  replace H := Option.bind_eq_some_iff.mp H
  obtain ⟨⟨t301, t302⟩, A30, H⟩ := H
  replace H : (some (t301, t302)) = some (r1, r2) := H
  have A3 := Aside0.mk A30
  clear A30
  simp only [Option.some.injEq, Prod.mk.injEq] at H
  obtain ⟨rfl, rfl⟩ := H
  go_enter Try.func58, Try.ntmps58
  go_wp2_with (first | ((with_reducible refine gate_dst (N := 2) rfl ?_); refine box_event ?hg (N := 2) ?hd (cs := #[.int .i64 0, .int .i64 0]) (t := 42) ?hr ?_; (case hd => rfl); (case hg => rfl); (case hr => first | (go_simp; done) | (go_simp; rfl)); intro gb298 hg w4 hbox hb; have n0_ := Aside0.mk (below_step (by repeat (first | (with_reducible first | exact HB.out | apply below_alloc | apply pw_below_drewN | apply below_drew1) | exact HB.out)) hb); have n1_ := Aside0.mk (hbox); have n2_ := Aside0.mk ((by rw [hg]; exact (below_size (by repeat (first | (with_reducible first | exact HB.out | apply below_alloc | apply pw_below_drewN | apply below_drew1) | exact HB.out))) : w.heap.size ≤ gb298)); have n3_ := Aside0.mk ((by rw [hg]; exact (below_size (by repeat (first | (with_reducible first | exact HB.out | apply below_alloc | apply pw_below_drewN | apply below_drew1) | exact HB.out))) : w.heap.size ≤ gb298)); clear HB; have HB := n0_; have BK298 := n1_; have GW298 := n2_; have GE298 := n3_; clear n0_ n1_ n2_ n3_; clear hb hbox hg) | ((with_reducible refine gate_callee (f := 40) rfl ?_); refine goesL_ (some 3) rfl rfl Try.func40 (by kernel_rfl) rfl #[.int .i64 1, .int .i64 1, .int .i64 1, .int .i64 0, .int .i64 0, .int .i64 0, .int .i64 0, .int .i64 0] rfl (by (try simp only [List.map_toArray, List.map_cons, List.map_nil]); first | done | rfl | (simp only [List.length_drop, List.length_take]; rfl)) ?_; (with_reducible refine (zztime_Date.calls 1 1 1 0 0 0 0 0 t299 t300 _ A2.out).mono ?_); rintro e w5 ⟨rfl, hb⟩; refine ⟨_, rfl, ?_⟩; have n0_ := Aside0.mk (blk_below (g := gb298) (o := .cells #[.int .i64 0, .int .i64 0] 42 (0, 0)) (by (with_reducible repeat (first | refine blk_drewN ?_ _ | refine blk_drew ?_ | refine blk_alloc ?_ _)); exact BK298.out) hb); have n1_ := Aside0.mk (below_step (by repeat (first | (with_reducible first | exact HB.out | apply below_alloc | apply pw_below_drewN | apply below_drew1 | refine below_set ?_ GE298.out) | exact HB.out)) hb); clear BK298; clear HB; have BK298 := n0_; have HB := n1_; clear n0_ n1_; (try clear hb); (try clear hb2); (try clear hk); (try clear hi)) | ((with_reducible refine gate_callee (f := 61) rfl ?_); refine goesL_ (some 7) rfl rfl Try.func61 (by kernel_rfl) rfl #[.agg #[.int .i64 t299, .int .i64 t300], .int .i64 (wrap64 ((wrap64 (a0 - 1)) * 1000000000))] rfl (by (try simp only [List.map_toArray, List.map_cons, List.map_nil]); first | done | rfl | (simp only [List.length_drop, List.length_take]; rfl)) ?_; (with_reducible refine (zztime_Time_Add.calls t299 t300 (wrap64 ((wrap64 (a0 - 1)) * 1000000000)) t301 t302 _ A3.out).mono ?_); rintro e w6 ⟨rfl, hb⟩; refine ⟨_, rfl, ?_⟩; have n0_ := Aside0.mk (blk_below (g := gb298) (o := .cells #[.int .i64 0, .int .i64 0] 42 (0, 0)) (by (with_reducible repeat (first | refine blk_drewN ?_ _ | refine blk_drew ?_ | refine blk_alloc ?_ _)); exact BK298.out) hb); have n1_ := Aside0.mk (below_step (by repeat (first | (with_reducible first | exact HB.out | apply below_alloc | apply pw_below_drewN | apply below_drew1 | refine below_set ?_ GE298.out) | exact HB.out)) hb); clear BK298; clear HB; have BK298 := n0_; have HB := n1_; clear n0_ n1_; (try clear hb); (try clear hb2); (try clear hk); (try clear hi); have hcz7_0 : w6.cell? ⟨gb298, 0, none⟩ = some (.int .i64 0) := (blk_cell BK298.out 0).trans rfl; have hcz7_1 : w6.cell? ⟨gb298, 1, none⟩ = some (.int .i64 0) := (blk_cell BK298.out 1).trans rfl; have hfz7_0 := blk_frozen BK298.out 0; have hfz7_1 := blk_frozen BK298.out 1))
  refine bodyPost_ret (results_cell_row rfl _ _ gb298 42 #[.int .i64 t301, .int .i64 t302] (0, 0) _ rfl (by (with_reducible repeat (first | refine blk_drewN ?_ _ | refine blk_drew ?_ | refine blk_alloc ?_ _)); refine blk_put (cs := #[.int .i64 t301, .int .i64 0]) ?_ 1 _ rfl; (with_reducible repeat (first | refine blk_drewN ?_ _ | refine blk_drew ?_ | refine blk_alloc ?_ _)); refine blk_put (cs := #[.int .i64 0, .int .i64 0]) ?_ 0 _ rfl; (with_reducible repeat (first | refine blk_drewN ?_ _ | refine blk_drew ?_ | refine blk_alloc ?_ _)); exact BK298.out) Try.underlying42 rfl (by kernel_rfl)) rfl ?_
  exact ⟨by first | rfl | (simp [errW_none, errW_some] <;> rfl) | (simp [*, errW_none, errW_some] <;> rfl), by repeat (first | (with_reducible first | exact HB.out | apply below_alloc | apply pw_below_drewN | apply below_drew1 | refine below_set ?_ GE298.out) | exact HB.out)⟩

/-! ### encoding_ZzSecondtime: function 39 -/
def encoding_ZzSecondtime.f (a0 : Int) : Option (Int × Int) := (encoding_convertSecondtimeToTime.f a0).bind fun bt304 => (some (bt304.1, bt304.2))
set_option maxHeartbeats 8000000 in
set_option maxRecDepth 100000 in
theorem encoding_ZzSecondtime.calls (a0 : Int) (r1 : Int) (r2 : Int) (w : World) (h : encoding_ZzSecondtime.f a0 = some (r1, r2)) :
    Calls Try.prog 39 #[.int .i64 a0] w fun e w' => e = .returned (.agg #[.int .i64 r1, .int .i64 r2]) ∧ Below w.heap.size w w' := by
  have hu42 := Try.underlying42
  have HB := Aside0.mk (Below.refl w.heap.size w)
  have H : ((encoding_convertSecondtimeToTime.f a0).bind fun bt304 => (some (bt304.1, bt304.2))) = some (r1, r2) := h
  clear h
  replace H := Option.bind_eq_some_iff.mp H
  obtain ⟨⟨t304, t305⟩, A20, H⟩ := H
  replace H : (some (t304, t305)) = some (r1, r2) := H
  have A2 := Aside0.mk A20
  clear A20
  simp only [Option.some.injEq, Prod.mk.injEq] at H
  obtain ⟨rfl, rfl⟩ := H
  go_enter Try.func39, Try.ntmps39
  go_wp2_with (first | ((with_reducible refine gate_dst (N := 2) rfl ?_); refine box_event ?hg (N := 2) ?hd (cs := #[.int .i64 0, .int .i64 0]) (t := 42) ?hr ?_; (case hd => rfl); (case hg => rfl); (case hr => first | (go_simp; done) | (go_simp; rfl)); intro gb303 hg w3 hbox hb; have n0_ := Aside0.mk (below_step (by repeat (first | (with_reducible first | exact HB.out | apply below_alloc | apply pw_below_drewN | apply below_drew1) | exact HB.out)) hb); have n1_ := Aside0.mk (hbox); have n2_ := Aside0.mk ((by rw [hg]; exact (below_size (by repeat (first | (with_reducible first | exact HB.out | apply below_alloc | apply pw_below_drewN | apply below_drew1) | exact HB.out))) : w.heap.size ≤ gb303)); have n3_ := Aside0.mk ((by rw [hg]; exact (below_size (by repeat (first | (with_reducible first | exact HB.out | apply below_alloc | apply pw_below_drewN | apply below_drew1) | exact HB.out))) : w.heap.size ≤ gb303)); clear HB; have HB := n0_; have BK303 := n1_; have GW303 := n2_; have GE303 := n3_; clear n0_ n1_ n2_ n3_; clear hb hbox hg) | ((with_reducible refine gate_callee (f := 58) rfl ?_); refine goesL_ (some 4) rfl rfl Try.func58 (by kernel_rfl) rfl #[.int .i64 a0] rfl (by (try simp only [List.map_toArray, List.map_cons, List.map_nil]); first | done | rfl | (simp only [List.length_drop, List.length_take]; rfl)) ?_; (with_reducible refine (encoding_convertSecondtimeToTime.calls a0 t304 t305 _ A2.out).mono ?_); rintro e w4 ⟨rfl, hb⟩; refine ⟨_, rfl, ?_⟩; have n0_ := Aside0.mk (blk_below (g := gb303) (o := .cells #[.int .i64 0, .int .i64 0] 42 (0, 0)) (by (with_reducible repeat (first | refine blk_drewN ?_ _ | refine blk_drew ?_ | refine blk_alloc ?_ _)); exact BK303.out) hb); have n1_ := Aside0.mk (below_step (by repeat (first | (with_reducible first | exact HB.out | apply below_alloc | apply pw_below_drewN | apply below_drew1 | refine below_set ?_ GE303.out) | exact HB.out)) hb); clear BK303; clear HB; have BK303 := n0_; have HB := n1_; clear n0_ n1_; (try clear hb); (try clear hb2); (try clear hk); (try clear hi); have hcz5_0 : w4.cell? ⟨gb303, 0, none⟩ = some (.int .i64 0) := (blk_cell BK303.out 0).trans rfl; have hcz5_1 : w4.cell? ⟨gb303, 1, none⟩ = some (.int .i64 0) := (blk_cell BK303.out 1).trans rfl; have hfz5_0 := blk_frozen BK303.out 0; have hfz5_1 := blk_frozen BK303.out 1))
  refine bodyPost_ret (results_cell_row rfl _ _ gb303 42 #[.int .i64 t304, .int .i64 t305] (0, 0) _ rfl (by (with_reducible repeat (first | refine blk_drewN ?_ _ | refine blk_drew ?_ | refine blk_alloc ?_ _)); refine blk_put (cs := #[.int .i64 t304, .int .i64 0]) ?_ 1 _ rfl; (with_reducible repeat (first | refine blk_drewN ?_ _ | refine blk_drew ?_ | refine blk_alloc ?_ _)); refine blk_put (cs := #[.int .i64 0, .int .i64 0]) ?_ 0 _ rfl; (with_reducible repeat (first | refine blk_drewN ?_ _ | refine blk_drew ?_ | refine blk_alloc ?_ _)); exact BK303.out) Try.underlying42 rfl (by kernel_rfl)) rfl ?_
  exact ⟨by first | rfl | (simp [errW_none, errW_some] <;> rfl) | (simp [*, errW_none, errW_some] <;> rfl), by repeat (first | (with_reducible first | exact HB.out | apply below_alloc | apply pw_below_drewN | apply below_drew1 | refine below_set ?_ GE303.out) | exact HB.out)⟩

/-! ### impl_SecondtimeTime: function 21 -/
def impl_SecondtimeTime.j0 : Nat → Int → Bool → Option (Int × Int × Int × Int × Int × Int × Int × Int)
  | 0, _, _ => none
  | k + 1, x0, x9 => if x9 = true then (some (0, 0, 0, 0, 0, 0, 0, 3)) else ((encoding_ZzSecondtime.f x0).bind fun bt307 => ((impl_timeBack.f bt307.1 bt307.2).bind fun bt309 => (some (bt309.1, bt309.2.1, bt309.2.2.1, bt309.2.2.2.1, bt309.2.2.2.2.1, bt309.2.2.2.2.2.1, bt309.2.2.2.2.2.2, 0))))
def impl_SecondtimeTime.f (k : Nat) (a0 : Int) : Option (Int × Int × Int × Int × Int × Int × Int × Int) := if a0 < (-1000000) then (impl_SecondtimeTime.j0 k a0 true) else (impl_SecondtimeTime.j0 k a0 (decide (a0 > 1000000)))
theorem impl_SecondtimeTime.mono_l : ∀ k, (∀ y0 y1, LeO (impl_SecondtimeTime.j0 k y0 y1) (impl_SecondtimeTime.j0 (k + 1) y0 y1))
  | 0 => fun _ _ r h => by simp [impl_SecondtimeTime.j0] at h
  | k + 1 => by
    have ih0 := impl_SecondtimeTime.mono_l k
    · intro y0 y1
      unfold impl_SecondtimeTime.j0
      repeat' first
      | (with_reducible exact ih0 _ _)
      | (with_reducible exact LeO.refl _)
      | (with_reducible exact LeO.none _)
      | (with_reducible refine LeO.ite ?_ ?_)
      | (with_reducible refine LeO.bind ?_ (fun _ => ?_))
      | exact ih0 _ _
      | exact LeO.none _
      | refine LeO.ite ?_ ?_
      | refine LeO.bind ?_ (fun _ => ?_)
theorem impl_SecondtimeTime.mono : ∀ a0 k, LeO (impl_SecondtimeTime.f k a0) (impl_SecondtimeTime.f (k + 1) a0) := by
  intro a0 k
  have ih0 := impl_SecondtimeTime.mono_l k
  unfold impl_SecondtimeTime.f
  repeat' first
      | (with_reducible exact ih0 _ _)
      | (with_reducible exact LeO.refl _)
      | (with_reducible exact LeO.none _)
      | (with_reducible refine LeO.ite ?_ ?_)
      | (with_reducible refine LeO.bind ?_ (fun _ => ?_))
      | exact ih0 _ _
      | exact LeO.none _
      | refine LeO.ite ?_ ?_
      | refine LeO.bind ?_ (fun _ => ?_)
set_option maxHeartbeats 8000000 in
set_option maxRecDepth 100000 in
theorem impl_SecondtimeTime.calls (k : Nat) (a0 : Int) (r1 : Int) (r2 : Int) (r3 : Int) (r4 : Int) (r5 : Int) (r6 : Int) (r7 : Int) (r8 : Int) (w : World) (h : impl_SecondtimeTime.f k a0 = some (r1, r2, r3, r4, r5, r6, r7, r8)) :
    Calls Try.prog 21 #[.int .i64 a0] w fun e w' => e = .returned (.tuple #[.agg #[.int .i64 r1, .int .i64 r2, .int .i64 r3, .int .i64 r4, .int .i64 r5, .int .i64 r6, .int .i64 r7], .int .i64 r8]) ∧ Below w.heap.size w w' := by
  have hu23 := Try.underlying23
  have HB := Aside0.mk (Below.refl w.heap.size w)
  have H : (if a0 < (-1000000) then (impl_SecondtimeTime.j0 k a0 true) else (impl_SecondtimeTime.j0 k a0 (decide (a0 > 1000000)))) = some (r1, r2, r3, r4, r5, r6, r7, r8) := h
  clear h
  have HC2 := Aside0.mk H
  clear H
  go_enter Try.func21, Try.ntmps21
  go_upto_region 1 with (first | ((with_reducible refine gate_dst (N := 2) rfl ?_); refine box_event ?hg (N := 2) ?hd (cs := #[.int .i64 0, .int .i64 0, .int .i64 0, .int .i64 0, .int .i64 0, .int .i64 0, .int .i64 0]) (t := 23) ?hr ?_; (case hd => rfl); (case hg => rfl); (case hr => first | (go_simp; done) | (go_simp; rfl)); intro gb306 hg w3 hbox hb; have n0_ := Aside0.mk (below_step (by repeat (first | (with_reducible first | exact HB.out | apply below_alloc | apply pw_below_drewN | apply below_drew1) | exact HB.out)) hb); have n1_ := Aside0.mk (hbox); have n2_ := Aside0.mk ((by rw [hg]; exact (below_size (by repeat (first | (with_reducible first | exact HB.out | apply below_alloc | apply pw_below_drewN | apply below_drew1) | exact HB.out))) : w.heap.size ≤ gb306)); have n3_ := Aside0.mk ((by rw [hg]; exact (below_size (by repeat (first | (with_reducible first | exact HB.out | apply below_alloc | apply pw_below_drewN | apply below_drew1) | exact HB.out))) : w.heap.size ≤ gb306)); clear HB; have HB := n0_; have BK306 := n1_; have GW306 := n2_; have GE306 := n3_; clear n0_ n1_ n2_ n3_; clear hb hbox hg))
  (try simp only [Act.put, List.setIfInBounds_toArray, List.set_cons_zero, List.set_cons_succ])
  go_cut [9] (fun v9 wc => ∃ (kq : Nat) (x9_1 : Bool), v9 = .bool x9_1 ∧ Aside0 (impl_SecondtimeTime.j0 kq a0 x9_1 = some (r1, r2, r3, r4, r5, r6, r7, r8)) ∧ Aside0 (kq ≤ k) ∧ Aside0 (wc.heap[gb306]? = some (.cells #[.int .i64 0, .int .i64 0, .int .i64 0, .int .i64 0, .int .i64 0, .int .i64 0, .int .i64 0] 23 (0, 0))) ∧ Aside0 (Below w.heap.size w wc))
  case first =>
    have H := HC2.out
    clear HC2
    by_cases c4 : a0 < (-1000000)
    · rw [if_pos c4] at H
      have c4b0 : decide (a0 < (-1000000)) = true := decide_eq_true c4
      clear c4
      (first | rw [c4b0] | (simp only [i64_w, i32_w]; rw [c4b0]) | skip)
      have H' := Aside0.mk H
      clear H
      go_wp2
      go_meet
      case rel => exact ⟨_, (true), (by first | rfl | (simp; done) | (simp [*]; done)), H', ⟨by first | omega | exact Nat.le_refl _⟩, ⟨by (with_reducible repeat (first | refine blk_drewN ?_ _ | refine blk_drew ?_ | refine blk_alloc ?_ _)); exact BK306.out⟩, ⟨by repeat (first | (with_reducible first | exact HB.out | apply below_alloc | apply pw_below_drewN | apply below_drew1 | refine below_set ?_ GE306.out) | exact HB.out)⟩⟩
    · rw [if_neg c4] at H
      have c4b0 : decide (a0 < (-1000000)) = false := decide_eq_false c4
      clear c4
      (first | rw [c4b0] | (simp only [i64_w, i32_w]; rw [c4b0]) | skip)
      have H' := Aside0.mk H
      clear H
      go_wp2
      go_meet
      case rel => exact ⟨_, (decide (a0 > 1000000)), (by first | rfl | (simp; done) | (simp [*]; done)), H', ⟨by first | omega | exact Nat.le_refl _⟩, ⟨by (with_reducible repeat (first | refine blk_drewN ?_ _ | refine blk_drew ?_ | refine blk_alloc ?_ _)); exact BK306.out⟩, ⟨by repeat (first | (with_reducible first | exact HB.out | apply below_alloc | apply pw_below_drewN | apply below_drew1 | refine below_set ?_ GE306.out) | exact HB.out)⟩⟩
  case rest =>
    clear HC2
    try clear c2
    try clear p2
    try clear c4
    try clear c4b0
    obtain ⟨kq, x9_1, rfl, HA, HJ1, BK306, HB⟩ := hcut
    cases kq with
    | zero => exact absurd HA.out (by simp [impl_SecondtimeTime.j0])
    | succ kj1 =>
      have H := HA.out
      clear HA
      simp only [impl_SecondtimeTime.j0] at H
      by_cases c5 : x9_1 = true
      · subst c5
        have H1 : (some (0, 0, 0, 0, 0, 0, 0, 3)) = some (r1, r2, r3, r4, r5, r6, r7, r8) := by rw [if_pos rfl] at H; exact H
        clear H
        have H := H1
        clear H1
        simp only [Option.some.injEq, Prod.mk.injEq] at H
        obtain ⟨rfl, rfl, rfl, rfl, rfl, rfl, rfl, rfl⟩ := H
        have hcz6_0 : wc.cell? ⟨gb306, 0, none⟩ = some (.int .i64 0) := (blk_cell BK306.out 0).trans rfl
        have hcz6_1 : wc.cell? ⟨gb306, 1, none⟩ = some (.int .i64 0) := (blk_cell BK306.out 1).trans rfl
        have hcz6_2 : wc.cell? ⟨gb306, 2, none⟩ = some (.int .i64 0) := (blk_cell BK306.out 2).trans rfl
        have hcz6_3 : wc.cell? ⟨gb306, 3, none⟩ = some (.int .i64 0) := (blk_cell BK306.out 3).trans rfl
        have hcz6_4 : wc.cell? ⟨gb306, 4, none⟩ = some (.int .i64 0) := (blk_cell BK306.out 4).trans rfl
        have hcz6_5 : wc.cell? ⟨gb306, 5, none⟩ = some (.int .i64 0) := (blk_cell BK306.out 5).trans rfl
        have hcz6_6 : wc.cell? ⟨gb306, 6, none⟩ = some (.int .i64 0) := (blk_cell BK306.out 6).trans rfl
        have hfz6_0 := blk_frozen BK306.out 0
        have hfz6_1 := blk_frozen BK306.out 1
        have hfz6_2 := blk_frozen BK306.out 2
        have hfz6_3 := blk_frozen BK306.out 3
        have hfz6_4 := blk_frozen BK306.out 4
        have hfz6_5 := blk_frozen BK306.out 5
        have hfz6_6 := blk_frozen BK306.out 6
        go_wp2
        refine bodyPost_ret (results_ct rfl _ _ gb306 23 #[.int .i64 0, .int .i64 0, .int .i64 0, .int .i64 0, .int .i64 0, .int .i64 0, .int .i64 0] (0, 0) _ rfl (by (with_reducible repeat (first | refine blk_drewN ?_ _ | refine blk_drew ?_ | refine blk_alloc ?_ _)); refine blk_put (cs := #[.int .i64 0, .int .i64 0, .int .i64 0, .int .i64 0, .int .i64 0, .int .i64 0, .int .i64 0]) ?_ 6 _ rfl; (with_reducible repeat (first | refine blk_drewN ?_ _ | refine blk_drew ?_ | refine blk_alloc ?_ _)); refine blk_put (cs := #[.int .i64 0, .int .i64 0, .int .i64 0, .int .i64 0, .int .i64 0, .int .i64 0, .int .i64 0]) ?_ 5 _ rfl; (with_reducible repeat (first | refine blk_drewN ?_ _ | refine blk_drew ?_ | refine blk_alloc ?_ _)); refine blk_put (cs := #[.int .i64 0, .int .i64 0, .int .i64 0, .int .i64 0, .int .i64 0, .int .i64 0, .int .i64 0]) ?_ 4 _ rfl; (with_reducible repeat (first | refine blk_drewN ?_ _ | refine blk_drew ?_ | refine blk_alloc ?_ _)); refine blk_put (cs := #[.int .i64 0, .int .i64 0, .int .i64 0, .int .i64 0, .int .i64 0, .int .i64 0, .int .i64 0]) ?_ 3 _ rfl; (with_reducible repeat (first | refine blk_drewN ?_ _ | refine blk_drew ?_ | refine blk_alloc ?_ _)); refine blk_put (cs := #[.int .i64 0, .int .i64 0, .int .i64 0, .int .i64 0, .int .i64 0, .int .i64 0, .int .i64 0]) ?_ 2 _ rfl; (with_reducible repeat (first | refine blk_drewN ?_ _ | refine blk_drew ?_ | refine blk_alloc ?_ _)); refine blk_put (cs := #[.int .i64 0, .int .i64 0, .int .i64 0, .int .i64 0, .int .i64 0, .int .i64 0, .int .i64 0]) ?_ 1 _ rfl; (with_reducible repeat (first | refine blk_drewN ?_ _ | refine blk_drew ?_ | refine blk_alloc ?_ _)); refine blk_put (cs := #[.int .i64 0, .int .i64 0, .int .i64 0, .int .i64 0, .int .i64 0, .int .i64 0, .int .i64 0]) ?_ 0 _ rfl; (with_reducible repeat (first | refine blk_drewN ?_ _ | refine blk_drew ?_ | refine blk_alloc ?_ _)); exact BK306.out) Try.underlying23 rfl (by kernel_rfl)) rfl ?_
        exact ⟨by first | rfl | (simp [errW_none, errW_some] <;> rfl) | (simp [*, errW_none, errW_some] <;> rfl), by repeat (first | (with_reducible first | exact HB.out | apply below_alloc | apply pw_below_drewN | apply below_drew1 | refine below_set ?_ GE306.out) | exact HB.out)⟩
      · replace c5 := Bool.eq_false_iff.mpr c5
        subst c5
        have H1 : ((encoding_ZzSecondtime.f a0).bind fun bt307 => ((impl_timeBack.f bt307.1 bt307.2).bind fun bt309 => (some (bt309.1, bt309.2.1, bt309.2.2.1, bt309.2.2.2.1, bt309.2.2.2.2.1, bt309.2.2.2.2.2.1, bt309.2.2.2.2.2.2, 0)))) = some (r1, r2, r3, r4, r5, r6, r7, r8) := by rw [if_neg (show ¬ (false = true) by decide)] at H; exact H
        clear H
        have H := H1
        clear H1
        replace H := Option.bind_eq_some_iff.mp H
        obtain ⟨⟨t307, t308⟩, A70, H⟩ := H
        replace H : ((impl_timeBack.f t307 t308).bind fun bt309 => (some (bt309.1, bt309.2.1, bt309.2.2.1, bt309.2.2.2.1, bt309.2.2.2.2.1, bt309.2.2.2.2.2.1, bt309.2.2.2.2.2.2, 0))) = some (r1, r2, r3, r4, r5, r6, r7, r8) := H
        have A7 := Aside0.mk A70
        clear A70
        replace H := Option.bind_eq_some_iff.mp H
        obtain ⟨⟨t309, t310, t311, t312, t313, t314, t315⟩, A80, H⟩ := H
        replace H : (some (t309, t310, t311, t312, t313, t314, t315, 0)) = some (r1, r2, r3, r4, r5, r6, r7, r8) := H
        have A8 := Aside0.mk A80
        clear A80
        simp only [Option.some.injEq, Prod.mk.injEq] at H
        obtain ⟨rfl, rfl, rfl, rfl, rfl, rfl, rfl, rfl⟩ := H
        go_wp2_with (first | ((with_reducible refine gate_callee (f := 39) rfl ?_); refine goesL_ (some 12) rfl rfl Try.func39 (by kernel_rfl) rfl #[.int .i64 a0] rfl (by (try simp only [List.map_toArray, List.map_cons, List.map_nil]); first | done | rfl | (simp only [List.length_drop, List.length_take]; rfl)) ?_; (with_reducible refine (encoding_ZzSecondtime.calls a0 t307 t308 _ A7.out).mono ?_); rintro e w9 ⟨rfl, hb⟩; refine ⟨_, rfl, ?_⟩; have n0_ := Aside0.mk (blk_below (g := gb306) (o := .cells #[.int .i64 0, .int .i64 0, .int .i64 0, .int .i64 0, .int .i64 0, .int .i64 0, .int .i64 0] 23 (0, 0)) (by (with_reducible repeat (first | refine blk_drewN ?_ _ | refine blk_drew ?_ | refine blk_alloc ?_ _)); exact BK306.out) hb); have n1_ := Aside0.mk (below_step (by repeat (first | (with_reducible first | exact HB.out | apply below_alloc | apply pw_below_drewN | apply below_drew1 | refine below_set ?_ GE306.out) | exact HB.out)) hb); clear BK306; clear HB; have BK306 := n0_; have HB := n1_; clear n0_ n1_; (try clear hb); (try clear hb2); (try clear hk); (try clear hi)) | ((with_reducible refine gate_callee (f := 24) rfl ?_); refine goesL_ (some 13) rfl rfl Try.func24 (by kernel_rfl) rfl #[.agg #[.int .i64 t307, .int .i64 t308]] rfl (by (try simp only [List.map_toArray, List.map_cons, List.map_nil]); first | done | rfl | (simp only [List.length_drop, List.length_take]; rfl)) ?_; (with_reducible refine (impl_timeBack.calls t307 t308 t309 t310 t311 t312 t313 t314 t315 _ A8.out).mono ?_); rintro e w10 ⟨rfl, hb⟩; refine ⟨_, rfl, ?_⟩; have n0_ := Aside0.mk (blk_below (g := gb306) (o := .cells #[.int .i64 0, .int .i64 0, .int .i64 0, .int .i64 0, .int .i64 0, .int .i64 0, .int .i64 0] 23 (0, 0)) (by (with_reducible repeat (first | refine blk_drewN ?_ _ | refine blk_drew ?_ | refine blk_alloc ?_ _)); exact BK306.out) hb); have n1_ := Aside0.mk (below_step (by repeat (first | (with_reducible first | exact HB.out | apply below_alloc | apply pw_below_drewN | apply below_drew1 | refine below_set ?_ GE306.out) | exact HB.out)) hb); clear BK306; clear HB; have BK306 := n0_; have HB := n1_; clear n0_ n1_; (try clear hb); (try clear hb2); (try clear hk); (try clear hi); have hcz11_0 : w10.cell? ⟨gb306, 0, none⟩ = some (.int .i64 0) := (blk_cell BK306.out 0).trans rfl; have hcz11_1 : w10.cell? ⟨gb306, 1, none⟩ = some (.int .i64 0) := (blk_cell BK306.out 1).trans rfl; have hcz11_2 : w10.cell? ⟨gb306, 2, none⟩ = some (.int .i64 0) := (blk_cell BK306.out 2).trans rfl; have hcz11_3 : w10.cell? ⟨gb306, 3, none⟩ = some (.int .i64 0) := (blk_cell BK306.out 3).trans rfl; have hcz11_4 : w10.cell? ⟨gb306, 4, none⟩ = some (.int .i64 0) := (blk_cell BK306.out 4).trans rfl; have hcz11_5 : w10.cell? ⟨gb306, 5, none⟩ = some (.int .i64 0) := (blk_cell BK306.out 5).trans rfl; have hcz11_6 : w10.cell? ⟨gb306, 6, none⟩ = some (.int .i64 0) := (blk_cell BK306.out 6).trans rfl; have hfz11_0 := blk_frozen BK306.out 0; have hfz11_1 := blk_frozen BK306.out 1; have hfz11_2 := blk_frozen BK306.out 2; have hfz11_3 := blk_frozen BK306.out 3; have hfz11_4 := blk_frozen BK306.out 4; have hfz11_5 := blk_frozen BK306.out 5; have hfz11_6 := blk_frozen BK306.out 6))
        refine bodyPost_ret (results_ct rfl _ _ gb306 23 #[.int .i64 t309, .int .i64 t310, .int .i64 t311, .int .i64 t312, .int .i64 t313, .int .i64 t314, .int .i64 t315] (0, 0) _ rfl (by (with_reducible repeat (first | refine blk_drewN ?_ _ | refine blk_drew ?_ | refine blk_alloc ?_ _)); refine blk_put (cs := #[.int .i64 t309, .int .i64 t310, .int .i64 t311, .int .i64 t312, .int .i64 t313, .int .i64 t314, .int .i64 0]) ?_ 6 _ rfl; (with_reducible repeat (first | refine blk_drewN ?_ _ | refine blk_drew ?_ | refine blk_alloc ?_ _)); refine blk_put (cs := #[.int .i64 t309, .int .i64 t310, .int .i64 t311, .int .i64 t312, .int .i64 t313, .int .i64 0, .int .i64 0]) ?_ 5 _ rfl; (with_reducible repeat (first | refine blk_drewN ?_ _ | refine blk_drew ?_ | refine blk_alloc ?_ _)); refine blk_put (cs := #[.int .i64 t309, .int .i64 t310, .int .i64 t311, .int .i64 t312, .int .i64 0, .int .i64 0, .int .i64 0]) ?_ 4 _ rfl; (with_reducible repeat (first | refine blk_drewN ?_ _ | refine blk_drew ?_ | refine blk_alloc ?_ _)); refine blk_put (cs := #[.int .i64 t309, .int .i64 t310, .int .i64 t311, .int .i64 0, .int .i64 0, .int .i64 0, .int .i64 0]) ?_ 3 _ rfl; (with_reducible repeat (first | refine blk_drewN ?_ _ | refine blk_drew ?_ | refine blk_alloc ?_ _)); refine blk_put (cs := #[.int .i64 t309, .int .i64 t310, .int .i64 0, .int .i64 0, .int .i64 0, .int .i64 0, .int .i64 0]) ?_ 2 _ rfl; (with_reducible repeat (first | refine blk_drewN ?_ _ | refine blk_drew ?_ | refine blk_alloc ?_ _)); refine blk_put (cs := #[.int .i64 t309, .int .i64 0, .int .i64 0, .int .i64 0, .int .i64 0, .int .i64 0, .int .i64 0]) ?_ 1 _ rfl; (with_reducible repeat (first | refine blk_drewN ?_ _ | refine blk_drew ?_ | refine blk_alloc ?_ _)); refine blk_put (cs := #[.int .i64 0, .int .i64 0, .int .i64 0, .int .i64 0, .int .i64 0, .int .i64 0, .int .i64 0]) ?_ 0 _ rfl; (with_reducible repeat (first | refine blk_drewN ?_ _ | refine blk_drew ?_ | refine blk_alloc ?_ _)); exact BK306.out) Try.underlying23 rfl (by kernel_rfl)) rfl ?_
        exact ⟨by first | rfl | (simp [errW_none, errW_some] <;> rfl) | (simp [*, errW_none, errW_some] <;> rfl), by repeat (first | (with_reducible first | exact HB.out | apply below_alloc | apply pw_below_drewN | apply below_drew1 | refine below_set ?_ GE306.out) | exact HB.out)⟩

end Go.Proofs.Ytbblgpgjgkmcbaa.PJro
