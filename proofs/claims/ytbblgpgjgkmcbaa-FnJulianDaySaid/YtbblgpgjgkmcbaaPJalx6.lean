/- Written by a program (print.py, called by prints.sh) for this claim: Go functions as plain Lean functions, and that the code comes to their answers. -/
import Derived.Test.YtbblgpgjgkmcbaaPJalx0
import Derived.Test.YtbblgpgjgkmcbaaPJalx2
import Derived.Test.YtbblgpgjgkmcbaaPJalx4
import Derived.Test.YtbblgpgjgkmcbaaPJalx5
namespace Go.Proofs.Ytbblgpgjgkmcbaa.PJal
open Go.RowKit Go.Proofs.YtbblgpgjgkmcbaaW.PrintWords Go.Proofs.YtbblgpgjgkmcbaaW.PrintLast Go.Proofs.YtbblgpgjgkmcbaaW.PrintMore
attribute [local go_sem] max2_int min2_int max_two min_two max_three min_three max_four min_four   -- for this text's walks alone
set_option linter.unusedVariables false
set_option linter.unusedSimpArgs false

/-! ### julian_TimeToDay: function 29 -/
def julian_TimeToDay.f (a0_0 : Int) (a0_1 : Int) : Option (Int) := (zztime_Time_UTC.f a0_0 a0_1).bind fun bt258 => ((zztime_Time_Month.f bt258.1 bt258.2).bind fun t260 => ((zztime_Time_Year.f bt258.1 bt258.2).bind fun t261 => ((julian_gregorianDate.f).bind fun bt262 => ((zztime_Time_Before.f bt258.1 bt258.2 bt262.1 bt262.2).bind fun t264 => (if t264 = true then ((zztime_Time_Day.f bt258.1 bt258.2).bind fun t265 => (some (wrap64 ((wrap64 ((wrap64 ((wrap64 (t265 + (wrap64 (Int.tdiv (wrap64 ((wrap64 (153 * (wrap64 ((wrap64 (t260 + (wrap64 (12 * (wrap64 (Int.tdiv (wrap64 (14 - t260)) 12)))))) - 3)))) + 2)) 5)))) + (wrap64 (365 * (wrap64 ((wrap64 (t261 + 4800)) - (wrap64 (Int.tdiv (wrap64 (14 - t260)) 12)))))))) + (wrap64 (Int.tdiv (wrap64 ((wrap64 (t261 + 4800)) - (wrap64 (Int.tdiv (wrap64 (14 - t260)) 12)))) 4)))) - 32083)))) else ((zztime_Time_Day.f bt258.1 bt258.2).bind fun t266 => (some (wrap64 ((wrap64 ((wrap64 ((wrap64 ((wrap64 ((wrap64 (t266 + (wrap64 (Int.tdiv (wrap64 ((wrap64 (153 * (wrap64 ((wrap64 (t260 + (wrap64 (12 * (wrap64 (Int.tdiv (wrap64 (14 - t260)) 12)))))) - 3)))) + 2)) 5)))) + (wrap64 (365 * (wrap64 ((wrap64 (t261 + 4800)) - (wrap64 (Int.tdiv (wrap64 (14 - t260)) 12)))))))) + (wrap64 (Int.tdiv (wrap64 ((wrap64 (t261 + 4800)) - (wrap64 (Int.tdiv (wrap64 (14 - t260)) 12)))) 4)))) - (wrap64 (Int.tdiv (wrap64 ((wrap64 (t261 + 4800)) - (wrap64 (Int.tdiv (wrap64 (14 - t260)) 12)))) 100)))) + (wrap64 (Int.tdiv (wrap64 ((wrap64 (t261 + 4800)) - (wrap64 (Int.tdiv (wrap64 (14 - t260)) 12)))) 400)))) - 32045)))))))))
set_option maxHeartbeats 8000000 in
set_option maxRecDepth 100000 in
theorem julian_TimeToDay.calls (a0_0 : Int) (a0_1 : Int) (r : Int) (w : World) (h : julian_TimeToDay.f a0_0 a0_1 = some r) :
    Calls Try.prog 29 #[.agg #[.int .i64 a0_0, .int .i64 a0_1]] w fun e w' => e = .returned (.int .i64 r) ∧ Below w.heap.size w w' := by
  have hu42 := Try.underlying42
  have HB := Aside0.mk (Below.refl w.heap.size w)
  have H : ((zztime_Time_UTC.f a0_0 a0_1).bind fun bt258 => ((zztime_Time_Month.f bt258.1 bt258.2).bind fun t260 => ((zztime_Time_Year.f bt258.1 bt258.2).bind fun t261 => ((julian_gregorianDate.f).bind fun bt262 => ((zztime_Time_Before.f bt258.1 bt258.2 bt262.1 bt262.2).bind fun t264 => (if t264 = true then ((zztime_Time_Day.f bt258.1 bt258.2).bind fun t265 => (some (wrap64 ((wrap64 ((wrap64 ((wrap64 (t265 + (wrap64 (Int.tdiv (wrap64 ((wrap64 (153 * (wrap64 ((wrap64 (t260 + (wrap64 (12 * (wrap64 (Int.tdiv (wrap64 (14 - t260)) 12)))))) - 3)))) + 2)) 5)))) + (wrap64 (365 * (wrap64 ((wrap64 (t261 + 4800)) - (wrap64 (Int.tdiv (wrap64 (14 - t260)) 12)))))))) + (wrap64 (Int.tdiv (wrap64 ((wrap64 (t261 + 4800)) - (wrap64 (Int.tdiv (wrap64 (14 - t260)) 12)))) 4)))) - 32083)))) else ((zztime_Time_Day.f bt258.1 bt258.2).bind fun t266 => (some (wrap64 ((wrap64 ((wrap64 ((wrap64 ((wrap64 ((wrap64 (t266 + (wrap64 (Int.tdiv (wrap64 ((wrap64 (153 * (wrap64 ((wrap64 (t260 + (wrap64 (12 * (wrap64 (Int.tdiv (wrap64 (14 - t260)) 12)))))) - 3)))) + 2)) 5)))) + (wrap64 (365 * (wrap64 ((wrap64 (t261 + 4800)) - (wrap64 (Int.tdiv (wrap64 (14 - t260)) 12)))))))) + (wrap64 (Int.tdiv (wrap64 ((wrap64 (t261 + 4800)) - (wrap64 (Int.tdiv (wrap64 (14 - t260)) 12)))) 4)))) - (wrap64 (Int.tdiv (wrap64 ((wrap64 (t261 + 4800)) - (wrap64 (Int.tdiv (wrap64 (14 - t260)) 12)))) 100)))) + (wrap64 (Int.tdiv (wrap64 ((wrap64 (t261 + 4800)) - (wrap64 (Int.tdiv (wrap64 (14 - t260)) 12)))) 400)))) - 32045)))))))))) = some r := h
  clear h
  replace H := Option.bind_eq_some_iff.mp H
  obtain ⟨⟨t258, t259⟩, A20, H⟩ := H
  replace H : ((zztime_Time_Month.f t258 t259).bind fun t260 => ((zztime_Time_Year.f t258 t259).bind fun t261 => ((julian_gregorianDate.f).bind fun bt262 => ((zztime_Time_Before.f t258 t259 bt262.1 bt262.2).bind fun t264 => (if t264 = true then ((zztime_Time_Day.f t258 t259).bind fun t265 => (some (wrap64 ((wrap64 ((wrap64 ((wrap64 (t265 + (wrap64 (Int.tdiv (wrap64 ((wrap64 (153 * (wrap64 ((wrap64 (t260 + (wrap64 (12 * (wrap64 (Int.tdiv (wrap64 (14 - t260)) 12)))))) - 3)))) + 2)) 5)))) + (wrap64 (365 * (wrap64 ((wrap64 (t261 + 4800)) - (wrap64 (Int.tdiv (wrap64 (14 - t260)) 12)))))))) + (wrap64 (Int.tdiv (wrap64 ((wrap64 (t261 + 4800)) - (wrap64 (Int.tdiv (wrap64 (14 - t260)) 12)))) 4)))) - 32083)))) else ((zztime_Time_Day.f t258 t259).bind fun t266 => (some (wrap64 ((wrap64 ((wrap64 ((wrap64 ((wrap64 ((wrap64 (t266 + (wrap64 (Int.tdiv (wrap64 ((wrap64 (153 * (wrap64 ((wrap64 (t260 + (wrap64 (12 * (wrap64 (Int.tdiv (wrap64 (14 - t260)) 12)))))) - 3)))) + 2)) 5)))) + (wrap64 (365 * (wrap64 ((wrap64 (t261 + 4800)) - (wrap64 (Int.tdiv (wrap64 (14 - t260)) 12)))))))) + (wrap64 (Int.tdiv (wrap64 ((wrap64 (t261 + 4800)) - (wrap64 (Int.tdiv (wrap64 (14 - t260)) 12)))) 4)))) - (wrap64 (Int.tdiv (wrap64 ((wrap64 (t261 + 4800)) - (wrap64 (Int.tdiv (wrap64 (14 - t260)) 12)))) 100)))) + (wrap64 (Int.tdiv (wrap64 ((wrap64 (t261 + 4800)) - (wrap64 (Int.tdiv (wrap64 (14 - t260)) 12)))) 400)))) - 32045))))))))) = some r := H
  have A2 := Aside0.mk A20
  clear A20
  replace H := Option.bind_eq_some_iff.mp H
  obtain ⟨t260, A30, H⟩ := H
  replace H : ((zztime_Time_Year.f t258 t259).bind fun t261 => ((julian_gregorianDate.f).bind fun bt262 => ((zztime_Time_Before.f t258 t259 bt262.1 bt262.2).bind fun t264 => (if t264 = true then ((zztime_Time_Day.f t258 t259).bind fun t265 => (some (wrap64 ((wrap64 ((wrap64 ((wrap64 (t265 + (wrap64 (Int.tdiv (wrap64 ((wrap64 (153 * (wrap64 ((wrap64 (t260 + (wrap64 (12 * (wrap64 (Int.tdiv (wrap64 (14 - t260)) 12)))))) - 3)))) + 2)) 5)))) + (wrap64 (365 * (wrap64 ((wrap64 (t261 + 4800)) - (wrap64 (Int.tdiv (wrap64 (14 - t260)) 12)))))))) + (wrap64 (Int.tdiv (wrap64 ((wrap64 (t261 + 4800)) - (wrap64 (Int.tdiv (wrap64 (14 - t260)) 12)))) 4)))) - 32083)))) else ((zztime_Time_Day.f t258 t259).bind fun t266 => (some (wrap64 ((wrap64 ((wrap64 ((wrap64 ((wrap64 ((wrap64 (t266 + (wrap64 (Int.tdiv (wrap64 ((wrap64 (153 * (wrap64 ((wrap64 (t260 + (wrap64 (12 * (wrap64 (Int.tdiv (wrap64 (14 - t260)) 12)))))) - 3)))) + 2)) 5)))) + (wrap64 (365 * (wrap64 ((wrap64 (t261 + 4800)) - (wrap64 (Int.tdiv (wrap64 (14 - t260)) 12)))))))) + (wrap64 (Int.tdiv (wrap64 ((wrap64 (t261 + 4800)) - (wrap64 (Int.tdiv (wrap64 (14 - t260)) 12)))) 4)))) - (wrap64 (Int.tdiv (wrap64 ((wrap64 (t261 + 4800)) - (wrap64 (Int.tdiv (wrap64 (14 - t260)) 12)))) 100)))) + (wrap64 (Int.tdiv (wrap64 ((wrap64 (t261 + 4800)) - (wrap64 (Int.tdiv (wrap64 (14 - t260)) 12)))) 400)))) - 32045)))))))) = some r := H
  have A3 := Aside0.mk A30
  clear A30
  replace H := Option.bind_eq_some_iff.mp H
  obtain ⟨t261, A40, H⟩ := H
  replace H : ((julian_gregorianDate.f).bind fun bt262 => ((zztime_Time_Before.f t258 t259 bt262.1 bt262.2).bind fun t264 => (if t264 = true then ((zztime_Time_Day.f t258 t259).bind fun t265 => (some (wrap64 ((wrap64 ((wrap64 ((wrap64 (t265 + (wrap64 (Int.tdiv (wrap64 ((wrap64 (153 * (wrap64 ((wrap64 (t260 + (wrap64 (12 * (wrap64 (Int.tdiv (wrap64 (14 - t260)) 12)))))) - 3)))) + 2)) 5)))) + (wrap64 (365 * (wrap64 ((wrap64 (t261 + 4800)) - (wrap64 (Int.tdiv (wrap64 (14 - t260)) 12)))))))) + (wrap64 (Int.tdiv (wrap64 ((wrap64 (t261 + 4800)) - (wrap64 (Int.tdiv (wrap64 (14 - t260)) 12)))) 4)))) - 32083)))) else ((zztime_Time_Day.f t258 t259).bind fun t266 => (some (wrap64 ((wrap64 ((wrap64 ((wrap64 ((wrap64 ((wrap64 (t266 + (wrap64 (Int.tdiv (wrap64 ((wrap64 (153 * (wrap64 ((wrap64 (t260 + (wrap64 (12 * (wrap64 (Int.tdiv (wrap64 (14 - t260)) 12)))))) - 3)))) + 2)) 5)))) + (wrap64 (365 * (wrap64 ((wrap64 (t261 + 4800)) - (wrap64 (Int.tdiv (wrap64 (14 - t260)) 12)))))))) + (wrap64 (Int.tdiv (wrap64 ((wrap64 (t261 + 4800)) - (wrap64 (Int.tdiv (wrap64 (14 - t260)) 12)))) 4)))) - (wrap64 (Int.tdiv (wrap64 ((wrap64 (t261 + 4800)) - (wrap64 (Int.tdiv (wrap64 (14 - t260)) 12)))) 100)))) + (wrap64 (Int.tdiv (wrap64 ((wrap64 (t261 + 4800)) - (wrap64 (Int.tdiv (wrap64 (14 - t260)) 12)))) 400)))) - 32045))))))) = some r := H
  have A4 := Aside0.mk A40
  clear A40
  replace H := Option.bind_eq_some_iff.mp H
  obtain ⟨⟨t262, t263⟩, A50, H⟩ := H
  replace H : ((zztime_Time_Before.f t258 t259 t262 t263).bind fun t264 => (if t264 = true then ((zztime_Time_Day.f t258 t259).bind fun t265 => (some (wrap64 ((wrap64 ((wrap64 ((wrap64 (t265 + (wrap64 (Int.tdiv (wrap64 ((wrap64 (153 * (wrap64 ((wrap64 (t260 + (wrap64 (12 * (wrap64 (Int.tdiv (wrap64 (14 - t260)) 12)))))) - 3)))) + 2)) 5)))) + (wrap64 (365 * (wrap64 ((wrap64 (t261 + 4800)) - (wrap64 (Int.tdiv (wrap64 (14 - t260)) 12)))))))) + (wrap64 (Int.tdiv (wrap64 ((wrap64 (t261 + 4800)) - (wrap64 (Int.tdiv (wrap64 (14 - t260)) 12)))) 4)))) - 32083)))) else ((zztime_Time_Day.f t258 t259).bind fun t266 => (some (wrap64 ((wrap64 ((wrap64 ((wrap64 ((wrap64 ((wrap64 (t266 + (wrap64 (Int.tdiv (wrap64 ((wrap64 (153 * (wrap64 ((wrap64 (t260 + (wrap64 (12 * (wrap64 (Int.tdiv (wrap64 (14 - t260)) 12)))))) - 3)))) + 2)) 5)))) + (wrap64 (365 * (wrap64 ((wrap64 (t261 + 4800)) - (wrap64 (Int.tdiv (wrap64 (14 - t260)) 12)))))))) + (wrap64 (Int.tdiv (wrap64 ((wrap64 (t261 + 4800)) - (wrap64 (Int.tdiv (wrap64 (14 - t260)) 12)))) 4)))) - (wrap64 (Int.tdiv (wrap64 ((wrap64 (t261 + 4800)) - (wrap64 (Int.tdiv (wrap64 (14 - t260)) 12)))) 100)))) + (wrap64 (Int.tdiv (wrap64 ((wrap64 (t261 + 4800)) - (wrap64 (Int.tdiv (wrap64 (14 - t260)) 12)))) 400)))) - 32045)))))) = some r := H
  have A5 := Aside0.mk A50
  clear A50
  replace H := Option.bind_eq_some_iff.mp H
  obtain ⟨t264, A60, H⟩ := H
  replace H : (if t264 = true then ((zztime_Time_Day.f t258 t259).bind fun t265 => (some (wrap64 ((wrap64 ((wrap64 ((wrap64 (t265 + (wrap64 (Int.tdiv (wrap64 ((wrap64 (153 * (wrap64 ((wrap64 (t260 + (wrap64 (12 * (wrap64 (Int.tdiv (wrap64 (14 - t260)) 12)))))) - 3)))) + 2)) 5)))) + (wrap64 (365 * (wrap64 ((wrap64 (t261 + 4800)) - (wrap64 (Int.tdiv (wrap64 (14 - t260)) 12)))))))) + (wrap64 (Int.tdiv (wrap64 ((wrap64 (t261 + 4800)) - (wrap64 (Int.tdiv (wrap64 (14 - t260)) 12)))) 4)))) - 32083)))) else ((zztime_Time_Day.f t258 t259).bind fun t266 => (some (wrap64 ((wrap64 ((wrap64 ((wrap64 ((wrap64 ((wrap64 (t266 + (wrap64 (Int.tdiv (wrap64 ((wrap64 (153 * (wrap64 ((wrap64 (t260 + (wrap64 (12 * (wrap64 (Int.tdiv (wrap64 (14 - t260)) 12)))))) - 3)))) + 2)) 5)))) + (wrap64 (365 * (wrap64 ((wrap64 (t261 + 4800)) - (wrap64 (Int.tdiv (wrap64 (14 - t260)) 12)))))))) + (wrap64 (Int.tdiv (wrap64 ((wrap64 (t261 + 4800)) - (wrap64 (Int.tdiv (wrap64 (14 - t260)) 12)))) 4)))) - (wrap64 (Int.tdiv (wrap64 ((wrap64 (t261 + 4800)) - (wrap64 (Int.tdiv (wrap64 (14 - t260)) 12)))) 100)))) + (wrap64 (Int.tdiv (wrap64 ((wrap64 (t261 + 4800)) - (wrap64 (Int.tdiv (wrap64 (14 - t260)) 12)))) 400)))) - 32045))))) = some r := H
  have A6 := Aside0.mk A60
  clear A60
  by_cases c7 : t264 = true
  · subst c7
    have H1 : ((zztime_Time_Day.f t258 t259).bind fun t265 => (some (wrap64 ((wrap64 ((wrap64 ((wrap64 (t265 + (wrap64 (Int.tdiv (wrap64 ((wrap64 (153 * (wrap64 ((wrap64 (t260 + (wrap64 (12 * (wrap64 (Int.tdiv (wrap64 (14 - t260)) 12)))))) - 3)))) + 2)) 5)))) + (wrap64 (365 * (wrap64 ((wrap64 (t261 + 4800)) - (wrap64 (Int.tdiv (wrap64 (14 - t260)) 12)))))))) + (wrap64 (Int.tdiv (wrap64 ((wrap64 (t261 + 4800)) - (wrap64 (Int.tdiv (wrap64 (14 - t260)) 12)))) 4)))) - 32083)))) = some r := by rw [if_pos rfl] at H; exact H
    clear H
    have H := H1
    clear H1
    replace H := Option.bind_eq_some_iff.mp H
    obtain ⟨t265, A80, H⟩ := H
    replace H : (some (wrap64 ((wrap64 ((wrap64 ((wrap64 (t265 + (wrap64 (Int.tdiv (wrap64 ((wrap64 (153 * (wrap64 ((wrap64 (t260 + (wrap64 (12 * (wrap64 (Int.tdiv (wrap64 (14 - t260)) 12)))))) - 3)))) + 2)) 5)))) + (wrap64 (365 * (wrap64 ((wrap64 (t261 + 4800)) - (wrap64 (Int.tdiv (wrap64 (14 - t260)) 12)))))))) + (wrap64 (Int.tdiv (wrap64 ((wrap64 (t261 + 4800)) - (wrap64 (Int.tdiv (wrap64 (14 - t260)) 12)))) 4)))) - 32083))) = some r := H
    have A8 := Aside0.mk A80
    clear A80
    obtain rfl := Option.some.inj H
    go_enter Try.func29, Try.ntmps29
    try go_wp2_with (first | ((with_reducible refine gate_dst (N := 1) rfl ?_); refine box_event ?hg (N := 1) ?hd (cs := #[.int .i64 a0_0, .int .i64 a0_1]) (t := 42) ?hr ?_; (case hd => rfl); (case hg => rfl); (case hr => first | (go_simp; done) | (go_simp; rfl)); intro gb257 hg w9 hbox hb; have n0_ := Aside0.mk (below_step (by repeat (first | (with_reducible first | exact HB.out | apply below_alloc | apply pw_below_drewN | apply below_drew1) | exact HB.out)) hb); have n1_ := Aside0.mk (hbox); have n2_ := Aside0.mk ((by rw [hg]; exact (below_size (by repeat (first | (with_reducible first | exact HB.out | apply below_alloc | apply pw_below_drewN | apply below_drew1) | exact HB.out))) : w.heap.size ≤ gb257)); have n3_ := Aside0.mk ((by rw [hg]; exact (below_size (by repeat (first | (with_reducible first | exact HB.out | apply below_alloc | apply pw_below_drewN | apply below_drew1) | exact HB.out))) : w.heap.size ≤ gb257)); clear HB; have HB := n0_; have BK257 := n1_; have GW257 := n2_; have GE257 := n3_; clear n0_ n1_ n2_ n3_; clear hb hbox hg; have hcz10_0 : w9.cell? ⟨gb257, 0, none⟩ = some (.int .i64 a0_0) := (blk_cell BK257.out 0).trans rfl; have hcz10_1 : w9.cell? ⟨gb257, 1, none⟩ = some (.int .i64 a0_1) := (blk_cell BK257.out 1).trans rfl; have hfz10_0 := blk_frozen BK257.out 0; have hfz10_1 := blk_frozen BK257.out 1) | ((with_reducible refine gate_callee (f := 46) rfl ?_); refine goesL_ (some 8) rfl rfl Try.func46 (by kernel_rfl) rfl #[.agg #[.int .i64 a0_0, .int .i64 a0_1]] rfl (by (try simp only [List.map_toArray, List.map_cons, List.map_nil]); first | done | rfl | (simp only [List.length_drop, List.length_take]; rfl)) ?_; (with_reducible refine (zztime_Time_UTC.calls a0_0 a0_1 t258 t259 _ A2.out).mono ?_); rintro e w11 ⟨rfl, hb⟩; refine ⟨_, rfl, ?_⟩; have n0_ := Aside0.mk (blk_below (g := gb257) (o := .cells #[.int .i64 a0_0, .int .i64 a0_1] 42 (0, 0)) (by (with_reducible repeat (first | refine blk_drewN ?_ _ | refine blk_drew ?_ | refine blk_alloc ?_ _)); exact BK257.out) hb); have n1_ := Aside0.mk (below_step (by repeat (first | (with_reducible first | exact HB.out | apply below_alloc | apply pw_below_drewN | apply below_drew1 | refine below_set ?_ GE257.out) | exact HB.out)) hb); clear BK257; clear HB; have BK257 := n0_; have HB := n1_; clear n0_ n1_; (try clear hb); (try clear hb2); (try clear hk); (try clear hi); have hcz12_0 : w11.cell? ⟨gb257, 0, none⟩ = some (.int .i64 a0_0) := (blk_cell BK257.out 0).trans rfl; have hcz12_1 : w11.cell? ⟨gb257, 1, none⟩ = some (.int .i64 a0_1) := (blk_cell BK257.out 1).trans rfl; have hfz12_0 := blk_frozen BK257.out 0; have hfz12_1 := blk_frozen BK257.out 1) | ((with_reducible refine gate_callee (f := 47) rfl ?_); refine goesL_ (some 10) rfl rfl Try.func47 (by kernel_rfl) rfl #[.agg #[.int .i64 t258, .int .i64 t259]] rfl (by (try simp only [List.map_toArray, List.map_cons, List.map_nil]); first | done | rfl | (simp only [List.length_drop, List.length_take]; rfl)) ?_; (with_reducible refine (zztime_Time_Month.calls t258 t259 t260 _ A3.out).mono ?_); rintro e w13 ⟨rfl, hb⟩; refine ⟨_, rfl, ?_⟩; have n0_ := Aside0.mk (blk_below (g := gb257) (o := .cells #[.int .i64 t258, .int .i64 t259] 42 (0, 0)) (by (with_reducible repeat (first | refine blk_drewN ?_ _ | refine blk_drew ?_ | refine blk_alloc ?_ _)); refine blk_put (cs := #[.int .i64 t258, .int .i64 a0_1]) ?_ 1 _ rfl; (with_reducible repeat (first | refine blk_drewN ?_ _ | refine blk_drew ?_ | refine blk_alloc ?_ _)); refine blk_put (cs := #[.int .i64 a0_0, .int .i64 a0_1]) ?_ 0 _ rfl; (with_reducible repeat (first | refine blk_drewN ?_ _ | refine blk_drew ?_ | refine blk_alloc ?_ _)); exact BK257.out) hb); have n1_ := Aside0.mk (below_step (by repeat (first | (with_reducible first | exact HB.out | apply below_alloc | apply pw_below_drewN | apply below_drew1 | refine below_set ?_ GE257.out) | exact HB.out)) hb); clear BK257; clear HB; have BK257 := n0_; have HB := n1_; clear n0_ n1_; (try clear hb); (try clear hb2); (try clear hk); (try clear hi); have hcz14_0 : w13.cell? ⟨gb257, 0, none⟩ = some (.int .i64 t258) := (blk_cell BK257.out 0).trans rfl; have hcz14_1 : w13.cell? ⟨gb257, 1, none⟩ = some (.int .i64 t259) := (blk_cell BK257.out 1).trans rfl; have hfz14_0 := blk_frozen BK257.out 0; have hfz14_1 := blk_frozen BK257.out 1) | ((with_reducible refine gate_callee (f := 31) rfl ?_); refine goesL_ (some 15) rfl rfl Try.func31 (by kernel_rfl) rfl #[.agg #[.int .i64 t258, .int .i64 t259]] rfl (by (try simp only [List.map_toArray, List.map_cons, List.map_nil]); first | done | rfl | (simp only [List.length_drop, List.length_take]; rfl)) ?_; (with_reducible refine (zztime_Time_Year.calls t258 t259 t261 _ A4.out).mono ?_); rintro e w15 ⟨rfl, hb⟩; refine ⟨_, rfl, ?_⟩; have n0_ := Aside0.mk (blk_below (g := gb257) (o := .cells #[.int .i64 t258, .int .i64 t259] 42 (0, 0)) (by (with_reducible repeat (first | refine blk_drewN ?_ _ | refine blk_drew ?_ | refine blk_alloc ?_ _)); exact BK257.out) hb); have n1_ := Aside0.mk (below_step (by repeat (first | (with_reducible first | exact HB.out | apply below_alloc | apply pw_below_drewN | apply below_drew1 | refine below_set ?_ GE257.out) | exact HB.out)) hb); clear BK257; clear HB; have BK257 := n0_; have HB := n1_; clear n0_ n1_; (try clear hb); (try clear hb2); (try clear hk); (try clear hi)))
    have n0_ := Aside0.mk (blk_drew BK257.out)
    have n1_ := Aside0.mk (below_drew1 HB.out)
    clear BK257
    clear HB
    have BK257 := n0_
    have HB := n1_
    clear n0_ n1_
    refine start_ (n := 3) (S := fun w' => w'.cell? ⟨gb257, 0, none⟩ = some (.int .i64 t258) ∧ w'.cell? ⟨gb257, 1, none⟩ = some (.int .i64 t259)) (ds := []) #[false, false, false] (by kernel_rfl) rfl rfl ⟨(blk_cell BK257.out 0).trans rfl, (blk_cell BK257.out 1).trans rfl⟩ (fun hHeld => ?_)
    generalize w15.drew = w16 at BK257 HB hHeld ⊢
    refine take_ (i := 0) (N := some 24) (v := ?_) (a' := ?_) #[true, false, false] rfl rfl (by kernel_rfl) (fun _ _ _ h => h) (Or.inl ⟨by rfl, ?_⟩) hHeld ?_ ?_
    rotate_left
    · rintro w' ⟨s0, s1⟩
      go_simp
      with_reducible rfl
    rotate_left
    · simp only [Act.put, List.setIfInBounds_toArray, List.set_cons_zero, List.set_cons_succ, i64_w, i32_w]
      rfl
    refine one_ (i := 1) (N := some 25) #[true, true, false] rfl rfl (by kernel_rfl) (by decide) (fun K hK => ?_)
    refine goes_ Try.func49 (by kernel_rfl) rfl #[] (by rfl) rfl rfl (by (try simp only [List.map_toArray, List.map_cons, List.map_nil]); first | done | rfl | (simp only [List.length_drop, List.length_take]; rfl)) ?_
    with_reducible refine (julian_gregorianDate.calls  t262 t263 _ A5.out).mono ?_
    rintro e w17 ⟨rfl, hb⟩
    refine ⟨_, rfl, ?_⟩
    have n0_ := Aside0.mk (blk_below (g := gb257) (o := .cells #[.int .i64 t258, .int .i64 t259] 42 (0, 0)) (by (with_reducible repeat (first | refine blk_drewN ?_ _ | refine blk_drew ?_ | refine blk_alloc ?_ _)); exact BK257.out) hb)
    have n1_ := Aside0.mk (below_step (by repeat (first | (with_reducible first | exact HB.out | apply below_alloc | apply pw_below_drewN | apply below_drew1 | refine below_set ?_ GE257.out) | exact HB.out)) hb)
    clear BK257
    clear HB
    have BK257 := n0_
    have HB := n1_
    clear n0_ n1_
    (try clear hb)
    (try clear hb2)
    (try clear hk)
    (try clear hi)
    refine hK.out _ _ ⟨(blk_cell BK257.out 0).trans rfl, (blk_cell BK257.out 1).trans rfl⟩ (fun hHeld => ?_)
    clear hK K
    refine norm_ (a' := ?_) ?_ ?_
    rotate_left
    · show Act.put _ (some 25) _ = _
      simp only [Act.put, List.setIfInBounds_toArray, List.set_cons_zero, List.set_cons_succ, i64_w, i32_w]
      rfl
    refine one_ (i := 2) (N := some 26) #[true, true, true] rfl rfl (by kernel_rfl) (by decide) (fun K hK => ?_)
    refine goes_ Try.func48 (by kernel_rfl) rfl #[.agg #[.int .i64 t258, .int .i64 t259], .agg #[.int .i64 t262, .int .i64 t263]] (by rfl) rfl rfl (by (try simp only [List.map_toArray, List.map_cons, List.map_nil]); first | done | rfl | (simp only [List.length_drop, List.length_take]; rfl)) ?_
    with_reducible refine (zztime_Time_Before.calls t258 t259 t262 t263 true _ A6.out).mono ?_
    rintro e w18 ⟨rfl, hb⟩
    refine ⟨_, rfl, ?_⟩
    have n0_ := Aside0.mk (blk_below (g := gb257) (o := .cells #[.int .i64 t258, .int .i64 t259] 42 (0, 0)) (by (with_reducible repeat (first | refine blk_drewN ?_ _ | refine blk_drew ?_ | refine blk_alloc ?_ _)); exact BK257.out) hb)
    have n1_ := Aside0.mk (below_step (by repeat (first | (with_reducible first | exact HB.out | apply below_alloc | apply pw_below_drewN | apply below_drew1 | refine below_set ?_ GE257.out) | exact HB.out)) hb)
    clear BK257
    clear HB
    have BK257 := n0_
    have HB := n1_
    clear n0_ n1_
    (try clear hb)
    (try clear hb2)
    (try clear hk)
    (try clear hi)
    refine hK.out _ _ ⟨(blk_cell BK257.out 0).trans rfl, (blk_cell BK257.out 1).trans rfl⟩ (fun hHeld => ?_)
    clear hK K
    refine norm_ (a' := ?_) ?_ ?_
    rotate_left
    · show Act.put _ (some 26) _ = _
      simp only [Act.put, List.setIfInBounds_toArray, List.set_cons_zero, List.set_cons_succ, i64_w, i32_w]
      rfl
    refine done_ (by kernel_rfl) ?_
    have hcz19_0 : w18.cell? ⟨gb257, 0, none⟩ = some (.int .i64 t258) := (blk_cell BK257.out 0).trans rfl
    have hcz19_1 : w18.cell? ⟨gb257, 1, none⟩ = some (.int .i64 t259) := (blk_cell BK257.out 1).trans rfl
    have hfz19_0 := blk_frozen BK257.out 0
    have hfz19_1 := blk_frozen BK257.out 1
    try go_wp2_with (first | ((with_reducible refine gate_callee (f := 50) rfl ?_); refine goesL_ (some 28) rfl rfl Try.func50 (by kernel_rfl) rfl #[.agg #[.int .i64 t258, .int .i64 t259]] rfl (by (try simp only [List.map_toArray, List.map_cons, List.map_nil]); first | done | rfl | (simp only [List.length_drop, List.length_take]; rfl)) ?_; (with_reducible refine (zztime_Time_Day.calls t258 t259 t265 _ A8.out).mono ?_); rintro e w20 ⟨rfl, hb⟩; refine ⟨_, rfl, ?_⟩; have n0_ := Aside0.mk (blk_below (g := gb257) (o := .cells #[.int .i64 t258, .int .i64 t259] 42 (0, 0)) (by (with_reducible repeat (first | refine blk_drewN ?_ _ | refine blk_drew ?_ | refine blk_alloc ?_ _)); exact BK257.out) hb); have n1_ := Aside0.mk (below_step (by repeat (first | (with_reducible first | exact HB.out | apply below_alloc | apply pw_below_drewN | apply below_drew1 | refine below_set ?_ GE257.out) | exact HB.out)) hb); clear BK257; clear HB; have BK257 := n0_; have HB := n1_; clear n0_ n1_; (try clear hb); (try clear hb2); (try clear hk); (try clear hi)))
    go_ret
    exact ⟨by first | rfl | (simp [errW_none, errW_some] <;> rfl) | (simp [*, errW_none, errW_some] <;> rfl), by repeat (first | (with_reducible first | exact HB.out | apply below_alloc | apply pw_below_drewN | apply below_drew1 | refine below_set ?_ GE257.out) | exact HB.out)⟩
  · replace c7 := Bool.eq_false_iff.mpr c7
    subst c7
    have H1 : ((zztime_Time_Day.f t258 t259).bind fun t266 => (some (wrap64 ((wrap64 ((wrap64 ((wrap64 ((wrap64 ((wrap64 (t266 + (wrap64 (Int.tdiv (wrap64 ((wrap64 (153 * (wrap64 ((wrap64 (t260 + (wrap64 (12 * (wrap64 (Int.tdiv (wrap64 (14 - t260)) 12)))))) - 3)))) + 2)) 5)))) + (wrap64 (365 * (wrap64 ((wrap64 (t261 + 4800)) - (wrap64 (Int.tdiv (wrap64 (14 - t260)) 12)))))))) + (wrap64 (Int.tdiv (wrap64 ((wrap64 (t261 + 4800)) - (wrap64 (Int.tdiv (wrap64 (14 - t260)) 12)))) 4)))) - (wrap64 (Int.tdiv (wrap64 ((wrap64 (t261 + 4800)) - (wrap64 (Int.tdiv (wrap64 (14 - t260)) 12)))) 100)))) + (wrap64 (Int.tdiv (wrap64 ((wrap64 (t261 + 4800)) - (wrap64 (Int.tdiv (wrap64 (14 - t260)) 12)))) 400)))) - 32045)))) = some r := by rw [if_neg (show ¬ (false = true) by decide)] at H; exact H
    clear H
    have H := H1
    clear H1
    replace H := Option.bind_eq_some_iff.mp H
    obtain ⟨t266, A210, H⟩ := H
    replace H : (some (wrap64 ((wrap64 ((wrap64 ((wrap64 ((wrap64 ((wrap64 (t266 + (wrap64 (Int.tdiv (wrap64 ((wrap64 (153 * (wrap64 ((wrap64 (t260 + (wrap64 (12 * (wrap64 (Int.tdiv (wrap64 (14 - t260)) 12)))))) - 3)))) + 2)) 5)))) + (wrap64 (365 * (wrap64 ((wrap64 (t261 + 4800)) - (wrap64 (Int.tdiv (wrap64 (14 - t260)) 12)))))))) + (wrap64 (Int.tdiv (wrap64 ((wrap64 (t261 + 4800)) - (wrap64 (Int.tdiv (wrap64 (14 - t260)) 12)))) 4)))) - (wrap64 (Int.tdiv (wrap64 ((wrap64 (t261 + 4800)) - (wrap64 (Int.tdiv (wrap64 (14 - t260)) 12)))) 100)))) + (wrap64 (Int.tdiv (wrap64 ((wrap64 (t261 + 4800)) - (wrap64 (Int.tdiv (wrap64 (14 - t260)) 12)))) 400)))) - 32045))) = some r := H
    have A21 := Aside0.mk A210
    clear A210
    obtain rfl := Option.some.inj H
    go_enter Try.func29, Try.ntmps29
    try go_wp2_with (first | ((with_reducible refine gate_dst (N := 1) rfl ?_); refine box_event ?hg (N := 1) ?hd (cs := #[.int .i64 a0_0, .int .i64 a0_1]) (t := 42) ?hr ?_; (case hd => rfl); (case hg => rfl); (case hr => first | (go_simp; done) | (go_simp; rfl)); intro gb257 hg w22 hbox hb; have n0_ := Aside0.mk (below_step (by repeat (first | (with_reducible first | exact HB.out | apply below_alloc | apply pw_below_drewN | apply below_drew1) | exact HB.out)) hb); have n1_ := Aside0.mk (hbox); have n2_ := Aside0.mk ((by rw [hg]; exact (below_size (by repeat (first | (with_reducible first | exact HB.out | apply below_alloc | apply pw_below_drewN | apply below_drew1) | exact HB.out))) : w.heap.size ≤ gb257)); have n3_ := Aside0.mk ((by rw [hg]; exact (below_size (by repeat (first | (with_reducible first | exact HB.out | apply below_alloc | apply pw_below_drewN | apply below_drew1) | exact HB.out))) : w.heap.size ≤ gb257)); clear HB; have HB := n0_; have BK257 := n1_; have GW257 := n2_; have GE257 := n3_; clear n0_ n1_ n2_ n3_; clear hb hbox hg; have hcz23_0 : w22.cell? ⟨gb257, 0, none⟩ = some (.int .i64 a0_0) := (blk_cell BK257.out 0).trans rfl; have hcz23_1 : w22.cell? ⟨gb257, 1, none⟩ = some (.int .i64 a0_1) := (blk_cell BK257.out 1).trans rfl; have hfz23_0 := blk_frozen BK257.out 0; have hfz23_1 := blk_frozen BK257.out 1) | ((with_reducible refine gate_callee (f := 46) rfl ?_); refine goesL_ (some 8) rfl rfl Try.func46 (by kernel_rfl) rfl #[.agg #[.int .i64 a0_0, .int .i64 a0_1]] rfl (by (try simp only [List.map_toArray, List.map_cons, List.map_nil]); first | done | rfl | (simp only [List.length_drop, List.length_take]; rfl)) ?_; (with_reducible refine (zztime_Time_UTC.calls a0_0 a0_1 t258 t259 _ A2.out).mono ?_); rintro e w24 ⟨rfl, hb⟩; refine ⟨_, rfl, ?_⟩; have n0_ := Aside0.mk (blk_below (g := gb257) (o := .cells #[.int .i64 a0_0, .int .i64 a0_1] 42 (0, 0)) (by (with_reducible repeat (first | refine blk_drewN ?_ _ | refine blk_drew ?_ | refine blk_alloc ?_ _)); exact BK257.out) hb); have n1_ := Aside0.mk (below_step (by repeat (first | (with_reducible first | exact HB.out | apply below_alloc | apply pw_below_drewN | apply below_drew1 | refine below_set ?_ GE257.out) | exact HB.out)) hb); clear BK257; clear HB; have BK257 := n0_; have HB := n1_; clear n0_ n1_; (try clear hb); (try clear hb2); (try clear hk); (try clear hi); have hcz25_0 : w24.cell? ⟨gb257, 0, none⟩ = some (.int .i64 a0_0) := (blk_cell BK257.out 0).trans rfl; have hcz25_1 : w24.cell? ⟨gb257, 1, none⟩ = some (.int .i64 a0_1) := (blk_cell BK257.out 1).trans rfl; have hfz25_0 := blk_frozen BK257.out 0; have hfz25_1 := blk_frozen BK257.out 1) | ((with_reducible refine gate_callee (f := 47) rfl ?_); refine goesL_ (some 10) rfl rfl Try.func47 (by kernel_rfl) rfl #[.agg #[.int .i64 t258, .int .i64 t259]] rfl (by (try simp only [List.map_toArray, List.map_cons, List.map_nil]); first | done | rfl | (simp only [List.length_drop, List.length_take]; rfl)) ?_; (with_reducible refine (zztime_Time_Month.calls t258 t259 t260 _ A3.out).mono ?_); rintro e w26 ⟨rfl, hb⟩; refine ⟨_, rfl, ?_⟩; have n0_ := Aside0.mk (blk_below (g := gb257) (o := .cells #[.int .i64 t258, .int .i64 t259] 42 (0, 0)) (by (with_reducible repeat (first | refine blk_drewN ?_ _ | refine blk_drew ?_ | refine blk_alloc ?_ _)); refine blk_put (cs := #[.int .i64 t258, .int .i64 a0_1]) ?_ 1 _ rfl; (with_reducible repeat (first | refine blk_drewN ?_ _ | refine blk_drew ?_ | refine blk_alloc ?_ _)); refine blk_put (cs := #[.int .i64 a0_0, .int .i64 a0_1]) ?_ 0 _ rfl; (with_reducible repeat (first | refine blk_drewN ?_ _ | refine blk_drew ?_ | refine blk_alloc ?_ _)); exact BK257.out) hb); have n1_ := Aside0.mk (below_step (by repeat (first | (with_reducible first | exact HB.out | apply below_alloc | apply pw_below_drewN | apply below_drew1 | refine below_set ?_ GE257.out) | exact HB.out)) hb); clear BK257; clear HB; have BK257 := n0_; have HB := n1_; clear n0_ n1_; (try clear hb); (try clear hb2); (try clear hk); (try clear hi); have hcz27_0 : w26.cell? ⟨gb257, 0, none⟩ = some (.int .i64 t258) := (blk_cell BK257.out 0).trans rfl; have hcz27_1 : w26.cell? ⟨gb257, 1, none⟩ = some (.int .i64 t259) := (blk_cell BK257.out 1).trans rfl; have hfz27_0 := blk_frozen BK257.out 0; have hfz27_1 := blk_frozen BK257.out 1) | ((with_reducible refine gate_callee (f := 31) rfl ?_); refine goesL_ (some 15) rfl rfl Try.func31 (by kernel_rfl) rfl #[.agg #[.int .i64 t258, .int .i64 t259]] rfl (by (try simp only [List.map_toArray, List.map_cons, List.map_nil]); first | done | rfl | (simp only [List.length_drop, List.length_take]; rfl)) ?_; (with_reducible refine (zztime_Time_Year.calls t258 t259 t261 _ A4.out).mono ?_); rintro e w28 ⟨rfl, hb⟩; refine ⟨_, rfl, ?_⟩; have n0_ := Aside0.mk (blk_below (g := gb257) (o := .cells #[.int .i64 t258, .int .i64 t259] 42 (0, 0)) (by (with_reducible repeat (first | refine blk_drewN ?_ _ | refine blk_drew ?_ | refine blk_alloc ?_ _)); exact BK257.out) hb); have n1_ := Aside0.mk (below_step (by repeat (first | (with_reducible first | exact HB.out | apply below_alloc | apply pw_below_drewN | apply below_drew1 | refine below_set ?_ GE257.out) | exact HB.out)) hb); clear BK257; clear HB; have BK257 := n0_; have HB := n1_; clear n0_ n1_; (try clear hb); (try clear hb2); (try clear hk); (try clear hi)))
    have n0_ := Aside0.mk (blk_drew BK257.out)
    have n1_ := Aside0.mk (below_drew1 HB.out)
    clear BK257
    clear HB
    have BK257 := n0_
    have HB := n1_
    clear n0_ n1_
    refine start_ (n := 3) (S := fun w' => w'.cell? ⟨gb257, 0, none⟩ = some (.int .i64 t258) ∧ w'.cell? ⟨gb257, 1, none⟩ = some (.int .i64 t259)) (ds := []) #[false, false, false] (by kernel_rfl) rfl rfl ⟨(blk_cell BK257.out 0).trans rfl, (blk_cell BK257.out 1).trans rfl⟩ (fun hHeld => ?_)
    generalize w28.drew = w29 at BK257 HB hHeld ⊢
    refine take_ (i := 0) (N := some 24) (v := ?_) (a' := ?_) #[true, false, false] rfl rfl (by kernel_rfl) (fun _ _ _ h => h) (Or.inl ⟨by rfl, ?_⟩) hHeld ?_ ?_
    rotate_left
    · rintro w' ⟨s0, s1⟩
      go_simp
      with_reducible rfl
    rotate_left
    · simp only [Act.put, List.setIfInBounds_toArray, List.set_cons_zero, List.set_cons_succ, i64_w, i32_w]
      rfl
    refine one_ (i := 1) (N := some 25) #[true, true, false] rfl rfl (by kernel_rfl) (by decide) (fun K hK => ?_)
    refine goes_ Try.func49 (by kernel_rfl) rfl #[] (by rfl) rfl rfl (by (try simp only [List.map_toArray, List.map_cons, List.map_nil]); first | done | rfl | (simp only [List.length_drop, List.length_take]; rfl)) ?_
    with_reducible refine (julian_gregorianDate.calls  t262 t263 _ A5.out).mono ?_
    rintro e w30 ⟨rfl, hb⟩
    refine ⟨_, rfl, ?_⟩
    have n0_ := Aside0.mk (blk_below (g := gb257) (o := .cells #[.int .i64 t258, .int .i64 t259] 42 (0, 0)) (by (with_reducible repeat (first | refine blk_drewN ?_ _ | refine blk_drew ?_ | refine blk_alloc ?_ _)); exact BK257.out) hb)
    have n1_ := Aside0.mk (below_step (by repeat (first | (with_reducible first | exact HB.out | apply below_alloc | apply pw_below_drewN | apply below_drew1 | refine below_set ?_ GE257.out) | exact HB.out)) hb)
    clear BK257
    clear HB
    have BK257 := n0_
    have HB := n1_
    clear n0_ n1_
    (try clear hb)
    (try clear hb2)
    (try clear hk)
    (try clear hi)
    refine hK.out _ _ ⟨(blk_cell BK257.out 0).trans rfl, (blk_cell BK257.out 1).trans rfl⟩ (fun hHeld => ?_)
    clear hK K
    refine norm_ (a' := ?_) ?_ ?_
    rotate_left
    · show Act.put _ (some 25) _ = _
      simp only [Act.put, List.setIfInBounds_toArray, List.set_cons_zero, List.set_cons_succ, i64_w, i32_w]
      rfl
    refine one_ (i := 2) (N := some 26) #[true, true, true] rfl rfl (by kernel_rfl) (by decide) (fun K hK => ?_)
    refine goes_ Try.func48 (by kernel_rfl) rfl #[.agg #[.int .i64 t258, .int .i64 t259], .agg #[.int .i64 t262, .int .i64 t263]] (by rfl) rfl rfl (by (try simp only [List.map_toArray, List.map_cons, List.map_nil]); first | done | rfl | (simp only [List.length_drop, List.length_take]; rfl)) ?_
    with_reducible refine (zztime_Time_Before.calls t258 t259 t262 t263 false _ A6.out).mono ?_
    rintro e w31 ⟨rfl, hb⟩
    refine ⟨_, rfl, ?_⟩
    have n0_ := Aside0.mk (blk_below (g := gb257) (o := .cells #[.int .i64 t258, .int .i64 t259] 42 (0, 0)) (by (with_reducible repeat (first | refine blk_drewN ?_ _ | refine blk_drew ?_ | refine blk_alloc ?_ _)); exact BK257.out) hb)
    have n1_ := Aside0.mk (below_step (by repeat (first | (with_reducible first | exact HB.out | apply below_alloc | apply pw_below_drewN | apply below_drew1 | refine below_set ?_ GE257.out) | exact HB.out)) hb)
    clear BK257
    clear HB
    have BK257 := n0_
    have HB := n1_
    clear n0_ n1_
    (try clear hb)
    (try clear hb2)
    (try clear hk)
    (try clear hi)
    refine hK.out _ _ ⟨(blk_cell BK257.out 0).trans rfl, (blk_cell BK257.out 1).trans rfl⟩ (fun hHeld => ?_)
    clear hK K
    refine norm_ (a' := ?_) ?_ ?_
    rotate_left
    · show Act.put _ (some 26) _ = _
      simp only [Act.put, List.setIfInBounds_toArray, List.set_cons_zero, List.set_cons_succ, i64_w, i32_w]
      rfl
    refine done_ (by kernel_rfl) ?_
    have hcz32_0 : w31.cell? ⟨gb257, 0, none⟩ = some (.int .i64 t258) := (blk_cell BK257.out 0).trans rfl
    have hcz32_1 : w31.cell? ⟨gb257, 1, none⟩ = some (.int .i64 t259) := (blk_cell BK257.out 1).trans rfl
    have hfz32_0 := blk_frozen BK257.out 0
    have hfz32_1 := blk_frozen BK257.out 1
    try go_wp2_with (first | ((with_reducible refine gate_callee (f := 50) rfl ?_); refine goesL_ (some 42) rfl rfl Try.func50 (by kernel_rfl) rfl #[.agg #[.int .i64 t258, .int .i64 t259]] rfl (by (try simp only [List.map_toArray, List.map_cons, List.map_nil]); first | done | rfl | (simp only [List.length_drop, List.length_take]; rfl)) ?_; (with_reducible refine (zztime_Time_Day.calls t258 t259 t266 _ A21.out).mono ?_); rintro e w33 ⟨rfl, hb⟩; refine ⟨_, rfl, ?_⟩; have n0_ := Aside0.mk (blk_below (g := gb257) (o := .cells #[.int .i64 t258, .int .i64 t259] 42 (0, 0)) (by (with_reducible repeat (first | refine blk_drewN ?_ _ | refine blk_drew ?_ | refine blk_alloc ?_ _)); exact BK257.out) hb); have n1_ := Aside0.mk (below_step (by repeat (first | (with_reducible first | exact HB.out | apply below_alloc | apply pw_below_drewN | apply below_drew1 | refine below_set ?_ GE257.out) | exact HB.out)) hb); clear BK257; clear HB; have BK257 := n0_; have HB := n1_; clear n0_ n1_; (try clear hb); (try clear hb2); (try clear hk); (try clear hi)))
    go_ret
    exact ⟨by first | rfl | (simp [errW_none, errW_some] <;> rfl) | (simp [*, errW_none, errW_some] <;> rfl), by repeat (first | (with_reducible first | exact HB.out | apply below_alloc | apply pw_below_drewN | apply below_drew1 | refine below_set ?_ GE257.out) | exact HB.out)⟩

/-! ### impl_JulianDay: function 14 -/
def impl_JulianDay.f (a0_0 : Int) (a0_1 : Int) (a0_2 : Int) (a0_3 : Int) (a0_4 : Int) (a0_5 : Int) (a0_6 : Int) : Option (Int × Int) := (impl_timeOf.f a0_0 a0_1 a0_2 a0_3 a0_4 a0_5 a0_6).bind fun bt268 => (if bt268.2.2 = true then ((julian_TimeToDay.f bt268.1 bt268.2.1).bind fun t272 => (some (t272, 0))) else (some (0, 3)))
set_option maxHeartbeats 8000000 in
set_option maxRecDepth 100000 in
theorem impl_JulianDay.calls (a0_0 : Int) (a0_1 : Int) (a0_2 : Int) (a0_3 : Int) (a0_4 : Int) (a0_5 : Int) (a0_6 : Int) (r1 : Int) (r2 : Int) (w : World) (h : impl_JulianDay.f a0_0 a0_1 a0_2 a0_3 a0_4 a0_5 a0_6 = some (r1, r2)) :
    Calls Try.prog 14 #[.agg #[.int .i64 a0_0, .int .i64 a0_1, .int .i64 a0_2, .int .i64 a0_3, .int .i64 a0_4, .int .i64 a0_5, .int .i64 a0_6]] w fun e w' => e = .returned (.tuple #[.int .i64 r1, .int .i64 r2]) ∧ Below w.heap.size w w' := by
  have hu23 := Try.underlying23
  have hu42 := Try.underlying42
  have HB := Aside0.mk (Below.refl w.heap.size w)
  have H : ((impl_timeOf.f a0_0 a0_1 a0_2 a0_3 a0_4 a0_5 a0_6).bind fun bt268 => (if bt268.2.2 = true then ((julian_TimeToDay.f bt268.1 bt268.2.1).bind fun t272 => (some (t272, 0))) else (some (0, 3)))) = some (r1, r2) := h
  clear h
  replace H := Option.bind_eq_some_iff.mp H
  obtain ⟨⟨t268, t269, t270⟩, A20, H⟩ := H
  replace H : (if t270 = true then ((julian_TimeToDay.f t268 t269).bind fun t272 => (some (t272, 0))) else (some (0, 3))) = some (r1, r2) := H
  have A2 := Aside0.mk A20
  clear A20
  by_cases c3 : t270 = true
  · subst c3
    have H1 : ((julian_TimeToDay.f t268 t269).bind fun t272 => (some (t272, 0))) = some (r1, r2) := by rw [if_pos rfl] at H; exact H
    clear H
    have H := H1
    clear H1
    replace H := Option.bind_eq_some_iff.mp H
    obtain ⟨t272, A40, H⟩ := H
    replace H : (some (t272, 0)) = some (r1, r2) := H
    have A4 := Aside0.mk A40
    clear A40
    simp only [Option.some.injEq, Prod.mk.injEq] at H
    obtain ⟨rfl, rfl⟩ := H
    go_enter Try.func14, Try.ntmps14
    go_wp2_with (first | ((with_reducible refine gate_dst (N := 1) rfl ?_); refine box_event ?hg (N := 1) ?hd (cs := #[.int .i64 a0_0, .int .i64 a0_1, .int .i64 a0_2, .int .i64 a0_3, .int .i64 a0_4, .int .i64 a0_5, .int .i64 a0_6]) (t := 23) ?hr ?_; (case hd => rfl); (case hg => rfl); (case hr => first | (go_simp; done) | (go_simp; rfl)); intro gb267 hg w5 hbox hb; have n0_ := Aside0.mk (below_step (by repeat (first | (with_reducible first | exact HB.out | apply below_alloc | apply pw_below_drewN | apply below_drew1) | exact HB.out)) hb); have n1_ := Aside0.mk (hbox); have n2_ := Aside0.mk ((by rw [hg]; exact (below_size (by repeat (first | (with_reducible first | exact HB.out | apply below_alloc | apply pw_below_drewN | apply below_drew1) | exact HB.out))) : w.heap.size ≤ gb267)); have n3_ := Aside0.mk ((by rw [hg]; exact (below_size (by repeat (first | (with_reducible first | exact HB.out | apply below_alloc | apply pw_below_drewN | apply below_drew1) | exact HB.out))) : w.heap.size ≤ gb267)); clear HB; have HB := n0_; have BK267 := n1_; have GW267 := n2_; have GE267 := n3_; clear n0_ n1_ n2_ n3_; clear hb hbox hg; have hcz6_0 : w5.cell? ⟨gb267, 0, none⟩ = some (.int .i64 a0_0) := (blk_cell BK267.out 0).trans rfl; have hcz6_1 : w5.cell? ⟨gb267, 1, none⟩ = some (.int .i64 a0_1) := (blk_cell BK267.out 1).trans rfl; have hcz6_2 : w5.cell? ⟨gb267, 2, none⟩ = some (.int .i64 a0_2) := (blk_cell BK267.out 2).trans rfl; have hcz6_3 : w5.cell? ⟨gb267, 3, none⟩ = some (.int .i64 a0_3) := (blk_cell BK267.out 3).trans rfl; have hcz6_4 : w5.cell? ⟨gb267, 4, none⟩ = some (.int .i64 a0_4) := (blk_cell BK267.out 4).trans rfl; have hcz6_5 : w5.cell? ⟨gb267, 5, none⟩ = some (.int .i64 a0_5) := (blk_cell BK267.out 5).trans rfl; have hcz6_6 : w5.cell? ⟨gb267, 6, none⟩ = some (.int .i64 a0_6) := (blk_cell BK267.out 6).trans rfl; have hfz6_0 := blk_frozen BK267.out 0; have hfz6_1 := blk_frozen BK267.out 1; have hfz6_2 := blk_frozen BK267.out 2; have hfz6_3 := blk_frozen BK267.out 3; have hfz6_4 := blk_frozen BK267.out 4; have hfz6_5 := blk_frozen BK267.out 5; have hfz6_6 := blk_frozen BK267.out 6) | ((with_reducible refine gate_callee (f := 23) rfl ?_); refine goesL_ (some 8) rfl rfl Try.func23 (by kernel_rfl) rfl #[.agg #[.int .i64 a0_0, .int .i64 a0_1, .int .i64 a0_2, .int .i64 a0_3, .int .i64 a0_4, .int .i64 a0_5, .int .i64 a0_6]] rfl (by (try simp only [List.map_toArray, List.map_cons, List.map_nil]); first | done | rfl | (simp only [List.length_drop, List.length_take]; rfl)) ?_; (with_reducible refine (impl_timeOf.calls a0_0 a0_1 a0_2 a0_3 a0_4 a0_5 a0_6 t268 t269 true _ A2.out).mono ?_); rintro e w7 ⟨rfl, hb⟩; refine ⟨_, rfl, ?_⟩; have n0_ := Aside0.mk (blk_below (g := gb267) (o := .cells #[.int .i64 a0_0, .int .i64 a0_1, .int .i64 a0_2, .int .i64 a0_3, .int .i64 a0_4, .int .i64 a0_5, .int .i64 a0_6] 23 (0, 0)) (by (with_reducible repeat (first | refine blk_drewN ?_ _ | refine blk_drew ?_ | refine blk_alloc ?_ _)); exact BK267.out) hb); have n1_ := Aside0.mk (below_step (by repeat (first | (with_reducible first | exact HB.out | apply below_alloc | apply pw_below_drewN | apply below_drew1 | refine below_set ?_ GE267.out) | exact HB.out)) hb); clear BK267; clear HB; have BK267 := n0_; have HB := n1_; clear n0_ n1_; (try clear hb); (try clear hb2); (try clear hk); (try clear hi)) | ((with_reducible refine gate_dst (N := 4) rfl ?_); refine box_event ?hg (N := 4) ?hd (cs := #[.int .i64 0, .int .i64 0]) (t := 42) ?hr ?_; (case hd => rfl); (case hg => rfl); (case hr => first | (go_simp; done) | (go_simp; rfl)); intro gb271 hg w8 hbox hb; have n0_ := Aside0.mk (blk_below (g := gb267) (o := .cells #[.int .i64 a0_0, .int .i64 a0_1, .int .i64 a0_2, .int .i64 a0_3, .int .i64 a0_4, .int .i64 a0_5, .int .i64 a0_6] 23 (0, 0)) (by (with_reducible repeat (first | refine blk_drewN ?_ _ | refine blk_drew ?_ | refine blk_alloc ?_ _)); exact BK267.out) hb); have n1_ := Aside0.mk (below_step (by repeat (first | (with_reducible first | exact HB.out | apply below_alloc | apply pw_below_drewN | apply below_drew1 | refine below_set ?_ GE267.out) | exact HB.out)) hb); have n2_ := Aside0.mk (hbox); have n3_ := Aside0.mk ((by rw [hg]; exact (below_size (by repeat (first | (with_reducible first | exact HB.out | apply below_alloc | apply pw_below_drewN | apply below_drew1 | refine below_set ?_ GE267.out) | exact HB.out))) : w.heap.size ≤ gb271)); have n4_ := Aside0.mk ((by rw [hg]; exact (below_size (by repeat (first | (with_reducible first | exact HB.out | apply below_alloc | apply pw_below_drewN | apply below_drew1 | refine below_set ?_ GE267.out) | exact HB.out))) : w.heap.size ≤ gb271)); have n5_ := Aside0.mk ((by rw [hg]; exact Nat.ne_of_lt (blk_lt (g := gb267) (o := .cells #[.int .i64 a0_0, .int .i64 a0_1, .int .i64 a0_2, .int .i64 a0_3, .int .i64 a0_4, .int .i64 a0_5, .int .i64 a0_6] 23 (0, 0)) (by (with_reducible repeat (first | refine blk_drewN ?_ _ | refine blk_drew ?_ | refine blk_alloc ?_ _)); exact BK267.out)) : gb267 ≠ gb271)); have n6_ := Aside0.mk ((by rw [hg]; exact Nat.ne_of_gt (blk_lt (g := gb267) (o := .cells #[.int .i64 a0_0, .int .i64 a0_1, .int .i64 a0_2, .int .i64 a0_3, .int .i64 a0_4, .int .i64 a0_5, .int .i64 a0_6] 23 (0, 0)) (by (with_reducible repeat (first | refine blk_drewN ?_ _ | refine blk_drew ?_ | refine blk_alloc ?_ _)); exact BK267.out)) : gb271 ≠ gb267)); clear BK267; clear HB; have BK267 := n0_; have HB := n1_; have BK271 := n2_; have GW271 := n3_; have GE271 := n4_; have NB267_271 := n5_; have NB271_267 := n6_; clear n0_ n1_ n2_ n3_ n4_ n5_ n6_; clear hb hbox hg; have hnb9 := NB271_267.out; have hnc9 := NB267_271.out; have hcz10_0 : w8.cell? ⟨gb271, 0, none⟩ = some (.int .i64 0) := (blk_cell BK271.out 0).trans rfl; have hcz10_1 : w8.cell? ⟨gb271, 1, none⟩ = some (.int .i64 0) := (blk_cell BK271.out 1).trans rfl; have hfz10_0 := blk_frozen BK271.out 0; have hfz10_1 := blk_frozen BK271.out 1) | ((with_reducible refine gate_callee (f := 29) rfl ?_); refine goesL_ (some 14) rfl rfl Try.func29 (by kernel_rfl) rfl #[.agg #[.int .i64 t268, .int .i64 t269]] rfl (by (try simp only [List.map_toArray, List.map_cons, List.map_nil]); first | done | rfl | (simp only [List.length_drop, List.length_take]; rfl)) ?_; (with_reducible refine (julian_TimeToDay.calls t268 t269 t272 _ A4.out).mono ?_); rintro e w11 ⟨rfl, hb⟩; refine ⟨_, rfl, ?_⟩; have n0_ := Aside0.mk (blk_below (g := gb267) (o := .cells #[.int .i64 a0_0, .int .i64 a0_1, .int .i64 a0_2, .int .i64 a0_3, .int .i64 a0_4, .int .i64 a0_5, .int .i64 a0_6] 23 (0, 0)) (by (with_reducible repeat (first | refine blk_drewN ?_ _ | refine blk_drew ?_ | refine blk_alloc ?_ _)); refine blk_far ?_ NB267_271.out _; (with_reducible repeat (first | refine blk_drewN ?_ _ | refine blk_drew ?_ | refine blk_alloc ?_ _)); refine blk_far ?_ NB267_271.out _; (with_reducible repeat (first | refine blk_drewN ?_ _ | refine blk_drew ?_ | refine blk_alloc ?_ _)); exact BK267.out) hb); have n1_ := Aside0.mk (blk_below (g := gb271) (o := .cells #[.int .i64 t268, .int .i64 t269] 42 (0, 0)) (by (with_reducible repeat (first | refine blk_drewN ?_ _ | refine blk_drew ?_ | refine blk_alloc ?_ _)); refine blk_put (cs := #[.int .i64 t268, .int .i64 0]) ?_ 1 _ rfl; (with_reducible repeat (first | refine blk_drewN ?_ _ | refine blk_drew ?_ | refine blk_alloc ?_ _)); refine blk_put (cs := #[.int .i64 0, .int .i64 0]) ?_ 0 _ rfl; (with_reducible repeat (first | refine blk_drewN ?_ _ | refine blk_drew ?_ | refine blk_alloc ?_ _)); exact BK271.out) hb); have n2_ := Aside0.mk (below_step (by repeat (first | (with_reducible first | exact HB.out | apply below_alloc | apply pw_below_drewN | apply below_drew1 | refine below_set ?_ GE267.out | refine below_set ?_ GE271.out) | exact HB.out)) hb); clear BK267; clear BK271; clear HB; have BK267 := n0_; have BK271 := n1_; have HB := n2_; clear n0_ n1_ n2_; (try clear hb); (try clear hb2); (try clear hk); (try clear hi)))
    go_ret2
    exact ⟨by first | rfl | (simp [errW_none, errW_some] <;> rfl) | (simp [*, errW_none, errW_some] <;> rfl), by repeat (first | (with_reducible first | exact HB.out | apply below_alloc | apply pw_below_drewN | apply below_drew1 | refine below_set ?_ GE267.out | refine below_set ?_ GE271.out) | exact HB.out)⟩
  · replace c3 := Bool.eq_false_iff.mpr c3
    subst c3
    have H1 : (some (0, 3)) = some (r1, r2) := by rw [if_neg (show ¬ (false = true) by decide)] at H; exact H
    clear H
    have H := H1
    clear H1
    simp only [Option.some.injEq, Prod.mk.injEq] at H
    obtain ⟨rfl, rfl⟩ := H
    go_enter Try.func14, Try.ntmps14
    go_wp2_with (first | ((with_reducible refine gate_dst (N := 1) rfl ?_); refine box_event ?hg (N := 1) ?hd (cs := #[.int .i64 a0_0, .int .i64 a0_1, .int .i64 a0_2, .int .i64 a0_3, .int .i64 a0_4, .int .i64 a0_5, .int .i64 a0_6]) (t := 23) ?hr ?_; (case hd => rfl); (case hg => rfl); (case hr => first | (go_simp; done) | (go_simp; rfl)); intro gb267 hg w12 hbox hb; have n0_ := Aside0.mk (below_step (by repeat (first | (with_reducible first | exact HB.out | apply below_alloc | apply pw_below_drewN | apply below_drew1) | exact HB.out)) hb); have n1_ := Aside0.mk (hbox); have n2_ := Aside0.mk ((by rw [hg]; exact (below_size (by repeat (first | (with_reducible first | exact HB.out | apply below_alloc | apply pw_below_drewN | apply below_drew1) | exact HB.out))) : w.heap.size ≤ gb267)); have n3_ := Aside0.mk ((by rw [hg]; exact (below_size (by repeat (first | (with_reducible first | exact HB.out | apply below_alloc | apply pw_below_drewN | apply below_drew1) | exact HB.out))) : w.heap.size ≤ gb267)); clear HB; have HB := n0_; have BK267 := n1_; have GW267 := n2_; have GE267 := n3_; clear n0_ n1_ n2_ n3_; clear hb hbox hg; have hcz13_0 : w12.cell? ⟨gb267, 0, none⟩ = some (.int .i64 a0_0) := (blk_cell BK267.out 0).trans rfl; have hcz13_1 : w12.cell? ⟨gb267, 1, none⟩ = some (.int .i64 a0_1) := (blk_cell BK267.out 1).trans rfl; have hcz13_2 : w12.cell? ⟨gb267, 2, none⟩ = some (.int .i64 a0_2) := (blk_cell BK267.out 2).trans rfl; have hcz13_3 : w12.cell? ⟨gb267, 3, none⟩ = some (.int .i64 a0_3) := (blk_cell BK267.out 3).trans rfl; have hcz13_4 : w12.cell? ⟨gb267, 4, none⟩ = some (.int .i64 a0_4) := (blk_cell BK267.out 4).trans rfl; have hcz13_5 : w12.cell? ⟨gb267, 5, none⟩ = some (.int .i64 a0_5) := (blk_cell BK267.out 5).trans rfl; have hcz13_6 : w12.cell? ⟨gb267, 6, none⟩ = some (.int .i64 a0_6) := (blk_cell BK267.out 6).trans rfl; have hfz13_0 := blk_frozen BK267.out 0; have hfz13_1 := blk_frozen BK267.out 1; have hfz13_2 := blk_frozen BK267.out 2; have hfz13_3 := blk_frozen BK267.out 3; have hfz13_4 := blk_frozen BK267.out 4; have hfz13_5 := blk_frozen BK267.out 5; have hfz13_6 := blk_frozen BK267.out 6) | ((with_reducible refine gate_callee (f := 23) rfl ?_); refine goesL_ (some 8) rfl rfl Try.func23 (by kernel_rfl) rfl #[.agg #[.int .i64 a0_0, .int .i64 a0_1, .int .i64 a0_2, .int .i64 a0_3, .int .i64 a0_4, .int .i64 a0_5, .int .i64 a0_6]] rfl (by (try simp only [List.map_toArray, List.map_cons, List.map_nil]); first | done | rfl | (simp only [List.length_drop, List.length_take]; rfl)) ?_; (with_reducible refine (impl_timeOf.calls a0_0 a0_1 a0_2 a0_3 a0_4 a0_5 a0_6 t268 t269 false _ A2.out).mono ?_); rintro e w14 ⟨rfl, hb⟩; refine ⟨_, rfl, ?_⟩; have n0_ := Aside0.mk (blk_below (g := gb267) (o := .cells #[.int .i64 a0_0, .int .i64 a0_1, .int .i64 a0_2, .int .i64 a0_3, .int .i64 a0_4, .int .i64 a0_5, .int .i64 a0_6] 23 (0, 0)) (by (with_reducible repeat (first | refine blk_drewN ?_ _ | refine blk_drew ?_ | refine blk_alloc ?_ _)); exact BK267.out) hb); have n1_ := Aside0.mk (below_step (by repeat (first | (with_reducible first | exact HB.out | apply below_alloc | apply pw_below_drewN | apply below_drew1 | refine below_set ?_ GE267.out) | exact HB.out)) hb); clear BK267; clear HB; have BK267 := n0_; have HB := n1_; clear n0_ n1_; (try clear hb); (try clear hb2); (try clear hk); (try clear hi)) | ((with_reducible refine gate_dst (N := 4) rfl ?_); refine box_event ?hg (N := 4) ?hd (cs := #[.int .i64 0, .int .i64 0]) (t := 42) ?hr ?_; (case hd => rfl); (case hg => rfl); (case hr => first | (go_simp; done) | (go_simp; rfl)); intro gb271 hg w15 hbox hb; have n0_ := Aside0.mk (blk_below (g := gb267) (o := .cells #[.int .i64 a0_0, .int .i64 a0_1, .int .i64 a0_2, .int .i64 a0_3, .int .i64 a0_4, .int .i64 a0_5, .int .i64 a0_6] 23 (0, 0)) (by (with_reducible repeat (first | refine blk_drewN ?_ _ | refine blk_drew ?_ | refine blk_alloc ?_ _)); exact BK267.out) hb); have n1_ := Aside0.mk (below_step (by repeat (first | (with_reducible first | exact HB.out | apply below_alloc | apply pw_below_drewN | apply below_drew1 | refine below_set ?_ GE267.out) | exact HB.out)) hb); have n2_ := Aside0.mk (hbox); have n3_ := Aside0.mk ((by rw [hg]; exact (below_size (by repeat (first | (with_reducible first | exact HB.out | apply below_alloc | apply pw_below_drewN | apply below_drew1 | refine below_set ?_ GE267.out) | exact HB.out))) : w.heap.size ≤ gb271)); have n4_ := Aside0.mk ((by rw [hg]; exact (below_size (by repeat (first | (with_reducible first | exact HB.out | apply below_alloc | apply pw_below_drewN | apply below_drew1 | refine below_set ?_ GE267.out) | exact HB.out))) : w.heap.size ≤ gb271)); have n5_ := Aside0.mk ((by rw [hg]; exact Nat.ne_of_lt (blk_lt (g := gb267) (o := .cells #[.int .i64 a0_0, .int .i64 a0_1, .int .i64 a0_2, .int .i64 a0_3, .int .i64 a0_4, .int .i64 a0_5, .int .i64 a0_6] 23 (0, 0)) (by (with_reducible repeat (first | refine blk_drewN ?_ _ | refine blk_drew ?_ | refine blk_alloc ?_ _)); exact BK267.out)) : gb267 ≠ gb271)); have n6_ := Aside0.mk ((by rw [hg]; exact Nat.ne_of_gt (blk_lt (g := gb267) (o := .cells #[.int .i64 a0_0, .int .i64 a0_1, .int .i64 a0_2, .int .i64 a0_3, .int .i64 a0_4, .int .i64 a0_5, .int .i64 a0_6] 23 (0, 0)) (by (with_reducible repeat (first | refine blk_drewN ?_ _ | refine blk_drew ?_ | refine blk_alloc ?_ _)); exact BK267.out)) : gb271 ≠ gb267)); clear BK267; clear HB; have BK267 := n0_; have HB := n1_; have BK271 := n2_; have GW271 := n3_; have GE271 := n4_; have NB267_271 := n5_; have NB271_267 := n6_; clear n0_ n1_ n2_ n3_ n4_ n5_ n6_; clear hb hbox hg; have hnb16 := NB271_267.out; have hnc16 := NB267_271.out; have hcz17_0 : w15.cell? ⟨gb271, 0, none⟩ = some (.int .i64 0) := (blk_cell BK271.out 0).trans rfl; have hcz17_1 : w15.cell? ⟨gb271, 1, none⟩ = some (.int .i64 0) := (blk_cell BK271.out 1).trans rfl; have hfz17_0 := blk_frozen BK271.out 0; have hfz17_1 := blk_frozen BK271.out 1))
    go_ret2
    exact ⟨by first | rfl | (simp [errW_none, errW_some] <;> rfl) | (simp [*, errW_none, errW_some] <;> rfl), by repeat (first | (with_reducible first | exact HB.out | apply below_alloc | apply pw_below_drewN | apply below_drew1 | refine below_set ?_ GE267.out | refine below_set ?_ GE271.out) | exact HB.out)⟩

/-! ### spec_juGregorian: function 30 -/
def spec_juGregorian.f (a0 : Int) (a1 : Int) (a2 : Int) : Option (Bool) := if a0 > 1582 then (some true) else (if a0 = 1582 then (if a1 > 10 then (some true) else (if a1 = 10 then (some (decide (a2 ≥ 15))) else (some false))) else (some false))
set_option maxHeartbeats 8000000 in
set_option maxRecDepth 100000 in
theorem spec_juGregorian.calls (a0 : Int) (a1 : Int) (a2 : Int) (r : Bool) (w : World) (h : spec_juGregorian.f a0 a1 a2 = some r) :
    Calls Try.prog 30 #[.int .i64 a0, .int .i64 a1, .int .i64 a2] w fun e w' => e = .returned (.bool r) ∧ Drawn0 w w' := by
  have H : (if a0 > 1582 then (some true) else (if a0 = 1582 then (if a1 > 10 then (some true) else (if a1 = 10 then (some (decide (a2 ≥ 15))) else (some false))) else (some false))) = some r := h
  clear h
  by_cases c4 : a0 > 1582
  · rw [if_pos c4] at H
    have c4b0 : decide (1582 < a0) = true := decide_eq_true c4
    clear c4
    obtain rfl := Option.some.inj H
    go_enter Try.func30, Try.ntmps30
    go_wp2
    go_ret
    exact ⟨by first | rfl | (simp; done) | (simp [*]; done), by repeat (first | exact Drawn0.refl _ | apply Drawn0.step)⟩
  · rw [if_neg c4] at H
    have c4b0 : decide (1582 < a0) = false := decide_eq_false c4
    clear c4
    by_cases c5 : a0 = 1582
    · rw [if_pos c5] at H
      have c5b0 : (a0 == 1582) = true := beq_iff_eq.mpr c5
      have c5b1 : (a0 != 1582) = false := bne_eq_false_iff_eq.mpr c5
      clear c5
      by_cases c6 : a1 > 10
      · rw [if_pos c6] at H
        have c6b0 : decide (10 < a1) = true := decide_eq_true c6
        clear c6
        obtain rfl := Option.some.inj H
        go_enter Try.func30, Try.ntmps30
        go_wp2
        go_ret
        exact ⟨by first | rfl | (simp; done) | (simp [*]; done), by repeat (first | exact Drawn0.refl _ | apply Drawn0.step)⟩
      · rw [if_neg c6] at H
        have c6b0 : decide (10 < a1) = false := decide_eq_false c6
        clear c6
        by_cases c7 : a1 = 10
        · rw [if_pos c7] at H
          have c7b0 : (a1 == 10) = true := beq_iff_eq.mpr c7
          have c7b1 : (a1 != 10) = false := bne_eq_false_iff_eq.mpr c7
          clear c7
          obtain rfl := Option.some.inj H
          go_enter Try.func30, Try.ntmps30
          go_wp2
          go_ret
          exact ⟨by first | rfl | (simp; done) | (simp [*]; done), by repeat (first | exact Drawn0.refl _ | apply Drawn0.step)⟩
        · rw [if_neg c7] at H
          have c7b0 : (a1 == 10) = false := beq_eq_false_iff_ne.mpr c7
          have c7b1 : (a1 != 10) = true := bne_iff_ne.mpr c7
          obtain rfl := Option.some.inj H
          go_enter Try.func30, Try.ntmps30
          go_wp2
          go_ret
          exact ⟨by first | rfl | (simp; done) | (simp [*]; done), by repeat (first | exact Drawn0.refl _ | apply Drawn0.step)⟩
    · rw [if_neg c5] at H
      have c5b0 : (a0 == 1582) = false := beq_eq_false_iff_ne.mpr c5
      have c5b1 : (a0 != 1582) = true := bne_iff_ne.mpr c5
      obtain rfl := Option.some.inj H
      go_enter Try.func30, Try.ntmps30
      go_wp2
      go_ret
      exact ⟨by first | rfl | (simp; done) | (simp [*]; done), by repeat (first | exact Drawn0.refl _ | apply Drawn0.step)⟩

/-! ### spec_JuDayOf: function 15 -/
def spec_JuDayOf.f (k : Nat) (a0_0 : Int) (a0_1 : Int) (a0_2 : Int) (a0_3 : Int) (a0_4 : Int) (a0_5 : Int) (a0_6 : Int) : Option (Int) := (spec_JuMade.f k a0_0 a0_1 a0_2 a0_3 a0_4 a0_5 a0_6).bind fun bt274 => ((spec_juGregorian.f bt274.1 bt274.2.1 bt274.2.2.1).bind fun t281 => ((spec_JuDay.f bt274.1 bt274.2.1 bt274.2.2.1 t281).bind fun t282 => (some t282)))
theorem spec_JuDayOf.mono : ∀ a0 a1 a2 a3 a4 a5 a6 k, LeO (spec_JuDayOf.f k a0 a1 a2 a3 a4 a5 a6) (spec_JuDayOf.f (k + 1) a0 a1 a2 a3 a4 a5 a6) := by
  intro a0 a1 a2 a3 a4 a5 a6 k
  unfold spec_JuDayOf.f
  repeat' first
      | (with_reducible exact spec_JuMade.mono _ _ _ _ _ _ _ _)
      | (with_reducible exact LeO.refl _)
      | (with_reducible exact LeO.none _)
      | (with_reducible refine LeO.ite ?_ ?_)
      | (with_reducible refine LeO.bind ?_ (fun _ => ?_))
      | exact spec_JuMade.mono _ _ _ _ _ _ _ _
      | exact LeO.none _
      | refine LeO.ite ?_ ?_
      | refine LeO.bind ?_ (fun _ => ?_)
set_option maxHeartbeats 8000000 in
set_option maxRecDepth 100000 in
theorem spec_JuDayOf.calls (k : Nat) (a0_0 : Int) (a0_1 : Int) (a0_2 : Int) (a0_3 : Int) (a0_4 : Int) (a0_5 : Int) (a0_6 : Int) (r : Int) (w : World) (h : spec_JuDayOf.f k a0_0 a0_1 a0_2 a0_3 a0_4 a0_5 a0_6 = some r) :
    Calls Try.prog 15 #[.agg #[.int .i64 a0_0, .int .i64 a0_1, .int .i64 a0_2, .int .i64 a0_3, .int .i64 a0_4, .int .i64 a0_5, .int .i64 a0_6]] w fun e w' => e = .returned (.int .i64 r) ∧ Below w.heap.size w w' := by
  have hu23 := Try.underlying23
  have HB := Aside0.mk (Below.refl w.heap.size w)
  have H : ((spec_JuMade.f k a0_0 a0_1 a0_2 a0_3 a0_4 a0_5 a0_6).bind fun bt274 => ((spec_juGregorian.f bt274.1 bt274.2.1 bt274.2.2.1).bind fun t281 => ((spec_JuDay.f bt274.1 bt274.2.1 bt274.2.2.1 t281).bind fun t282 => (some t282)))) = some r := h
  clear h
  replace H := Option.bind_eq_some_iff.mp H
  obtain ⟨⟨t274, t275, t276, t277, t278, t279, t280⟩, A20, H⟩ := H
  replace H : ((spec_juGregorian.f t274 t275 t276).bind fun t281 => ((spec_JuDay.f t274 t275 t276 t281).bind fun t282 => (some t282))) = some r := H
  have A2 := Aside0.mk A20
  clear A20
  replace H := Option.bind_eq_some_iff.mp H
  obtain ⟨t281, A30, H⟩ := H
  replace H : ((spec_JuDay.f t274 t275 t276 t281).bind fun t282 => (some t282)) = some r := H
  have A3 := Aside0.mk A30
  clear A30
  replace H := Option.bind_eq_some_iff.mp H
  obtain ⟨t282, A40, H⟩ := H
  replace H : (some t282) = some r := H
  have A4 := Aside0.mk A40
  clear A40
  obtain rfl := Option.some.inj H
  go_enter Try.func15, Try.ntmps15
  go_wp2_with (first | ((with_reducible refine gate_dst (N := 1) rfl ?_); refine box_event ?hg (N := 1) ?hd (cs := #[.int .i64 a0_0, .int .i64 a0_1, .int .i64 a0_2, .int .i64 a0_3, .int .i64 a0_4, .int .i64 a0_5, .int .i64 a0_6]) (t := 23) ?hr ?_; (case hd => rfl); (case hg => rfl); (case hr => first | (go_simp; done) | (go_simp; rfl)); intro gb273 hg w5 hbox hb; have n0_ := Aside0.mk (below_step (by repeat (first | (with_reducible first | exact HB.out | apply below_alloc | apply pw_below_drewN | apply below_drew1) | exact HB.out)) hb); have n1_ := Aside0.mk (hbox); have n2_ := Aside0.mk ((by rw [hg]; exact (below_size (by repeat (first | (with_reducible first | exact HB.out | apply below_alloc | apply pw_below_drewN | apply below_drew1) | exact HB.out))) : w.heap.size ≤ gb273)); have n3_ := Aside0.mk ((by rw [hg]; exact (below_size (by repeat (first | (with_reducible first | exact HB.out | apply below_alloc | apply pw_below_drewN | apply below_drew1) | exact HB.out))) : w.heap.size ≤ gb273)); clear HB; have HB := n0_; have BK273 := n1_; have GW273 := n2_; have GE273 := n3_; clear n0_ n1_ n2_ n3_; clear hb hbox hg; have hcz6_0 : w5.cell? ⟨gb273, 0, none⟩ = some (.int .i64 a0_0) := (blk_cell BK273.out 0).trans rfl; have hcz6_1 : w5.cell? ⟨gb273, 1, none⟩ = some (.int .i64 a0_1) := (blk_cell BK273.out 1).trans rfl; have hcz6_2 : w5.cell? ⟨gb273, 2, none⟩ = some (.int .i64 a0_2) := (blk_cell BK273.out 2).trans rfl; have hcz6_3 : w5.cell? ⟨gb273, 3, none⟩ = some (.int .i64 a0_3) := (blk_cell BK273.out 3).trans rfl; have hcz6_4 : w5.cell? ⟨gb273, 4, none⟩ = some (.int .i64 a0_4) := (blk_cell BK273.out 4).trans rfl; have hcz6_5 : w5.cell? ⟨gb273, 5, none⟩ = some (.int .i64 a0_5) := (blk_cell BK273.out 5).trans rfl; have hcz6_6 : w5.cell? ⟨gb273, 6, none⟩ = some (.int .i64 a0_6) := (blk_cell BK273.out 6).trans rfl; have hfz6_0 := blk_frozen BK273.out 0; have hfz6_1 := blk_frozen BK273.out 1; have hfz6_2 := blk_frozen BK273.out 2; have hfz6_3 := blk_frozen BK273.out 3; have hfz6_4 := blk_frozen BK273.out 4; have hfz6_5 := blk_frozen BK273.out 5; have hfz6_6 := blk_frozen BK273.out 6) | (go_at_call 11; (with_reducible refine (spec_JuMade.calls k a0_0 a0_1 a0_2 a0_3 a0_4 a0_5 a0_6 t274 t275 t276 t277 t278 t279 t280 _ A2.out).mono ?_); rintro e w7 ⟨rfl, hb⟩; have n0_ := Aside0.mk (blk_below (g := gb273) (o := .cells #[.int .i64 a0_0, .int .i64 a0_1, .int .i64 a0_2, .int .i64 a0_3, .int .i64 a0_4, .int .i64 a0_5, .int .i64 a0_6] 23 (0, 0)) (by (with_reducible repeat (first | refine blk_drewN ?_ _ | refine blk_drew ?_ | refine blk_alloc ?_ _)); exact BK273.out) hb); have n1_ := Aside0.mk (below_step (by repeat (first | (with_reducible first | exact HB.out | apply below_alloc | apply pw_below_drewN | apply below_drew1 | refine below_set ?_ GE273.out) | exact HB.out)) hb); clear BK273; clear HB; have BK273 := n0_; have HB := n1_; clear n0_ n1_; (try clear hb); (try clear hb2); (try clear hk); (try clear hi); have hcz8_0 : w7.cell? ⟨gb273, 0, none⟩ = some (.int .i64 a0_0) := (blk_cell BK273.out 0).trans rfl; have hcz8_1 : w7.cell? ⟨gb273, 1, none⟩ = some (.int .i64 a0_1) := (blk_cell BK273.out 1).trans rfl; have hcz8_2 : w7.cell? ⟨gb273, 2, none⟩ = some (.int .i64 a0_2) := (blk_cell BK273.out 2).trans rfl; have hcz8_3 : w7.cell? ⟨gb273, 3, none⟩ = some (.int .i64 a0_3) := (blk_cell BK273.out 3).trans rfl; have hcz8_4 : w7.cell? ⟨gb273, 4, none⟩ = some (.int .i64 a0_4) := (blk_cell BK273.out 4).trans rfl; have hcz8_5 : w7.cell? ⟨gb273, 5, none⟩ = some (.int .i64 a0_5) := (blk_cell BK273.out 5).trans rfl; have hcz8_6 : w7.cell? ⟨gb273, 6, none⟩ = some (.int .i64 a0_6) := (blk_cell BK273.out 6).trans rfl; have hfz8_0 := blk_frozen BK273.out 0; have hfz8_1 := blk_frozen BK273.out 1; have hfz8_2 := blk_frozen BK273.out 2; have hfz8_3 := blk_frozen BK273.out 3; have hfz8_4 := blk_frozen BK273.out 4; have hfz8_5 := blk_frozen BK273.out 5; have hfz8_6 := blk_frozen BK273.out 6) | (go_at_call 30; (with_reducible refine (spec_juGregorian.calls t274 t275 t276 t281 _ A3.out).mono ?_); rintro e w' ⟨rfl, ⟨nd, rfl⟩⟩; (try first | exact ⟨rfl, _, World.drewN_drewN _ _ _⟩ | exact ⟨rfl, _, Eq.trans (World.drewN_drewN _ _ _) (congrArg (World.drewN _) (Nat.add_assoc _ _ _))⟩)) | (go_at_call 27; (with_reducible refine (spec_JuDay.calls t274 t275 t276 t281 t282 _ A4.out).mono ?_); rintro e w' ⟨rfl, ⟨nd, rfl⟩⟩; (try first | exact ⟨rfl, _, World.drewN_drewN _ _ _⟩ | exact ⟨rfl, _, Eq.trans (World.drewN_drewN _ _ _) (congrArg (World.drewN _) (Nat.add_assoc _ _ _))⟩)))
  repeat (go_quiet (first | ((with_reducible refine gate_dst (N := 1) rfl ?_); refine box_event ?hg (N := 1) ?hd (cs := #[.int .i64 a0_0, .int .i64 a0_1, .int .i64 a0_2, .int .i64 a0_3, .int .i64 a0_4, .int .i64 a0_5, .int .i64 a0_6]) (t := 23) ?hr ?_; (case hd => rfl); (case hg => rfl); (case hr => first | (go_simp; done) | (go_simp; rfl)); intro gb273 hg w5 hbox hb; have n0_ := Aside0.mk (below_step (by repeat (first | (with_reducible first | exact HB.out | apply below_alloc | apply pw_below_drewN | apply below_drew1) | exact HB.out)) hb); have n1_ := Aside0.mk (hbox); have n2_ := Aside0.mk ((by rw [hg]; exact (below_size (by repeat (first | (with_reducible first | exact HB.out | apply below_alloc | apply pw_below_drewN | apply below_drew1) | exact HB.out))) : w.heap.size ≤ gb273)); have n3_ := Aside0.mk ((by rw [hg]; exact (below_size (by repeat (first | (with_reducible first | exact HB.out | apply below_alloc | apply pw_below_drewN | apply below_drew1) | exact HB.out))) : w.heap.size ≤ gb273)); clear HB; have HB := n0_; have BK273 := n1_; have GW273 := n2_; have GE273 := n3_; clear n0_ n1_ n2_ n3_; clear hb hbox hg; have hcz6_0 : w5.cell? ⟨gb273, 0, none⟩ = some (.int .i64 a0_0) := (blk_cell BK273.out 0).trans rfl; have hcz6_1 : w5.cell? ⟨gb273, 1, none⟩ = some (.int .i64 a0_1) := (blk_cell BK273.out 1).trans rfl; have hcz6_2 : w5.cell? ⟨gb273, 2, none⟩ = some (.int .i64 a0_2) := (blk_cell BK273.out 2).trans rfl; have hcz6_3 : w5.cell? ⟨gb273, 3, none⟩ = some (.int .i64 a0_3) := (blk_cell BK273.out 3).trans rfl; have hcz6_4 : w5.cell? ⟨gb273, 4, none⟩ = some (.int .i64 a0_4) := (blk_cell BK273.out 4).trans rfl; have hcz6_5 : w5.cell? ⟨gb273, 5, none⟩ = some (.int .i64 a0_5) := (blk_cell BK273.out 5).trans rfl; have hcz6_6 : w5.cell? ⟨gb273, 6, none⟩ = some (.int .i64 a0_6) := (blk_cell BK273.out 6).trans rfl; have hfz6_0 := blk_frozen BK273.out 0; have hfz6_1 := blk_frozen BK273.out 1; have hfz6_2 := blk_frozen BK273.out 2; have hfz6_3 := blk_frozen BK273.out 3; have hfz6_4 := blk_frozen BK273.out 4; have hfz6_5 := blk_frozen BK273.out 5; have hfz6_6 := blk_frozen BK273.out 6) | (go_at_call 11; (with_reducible refine (spec_JuMade.calls k a0_0 a0_1 a0_2 a0_3 a0_4 a0_5 a0_6 t274 t275 t276 t277 t278 t279 t280 _ A2.out).mono ?_); rintro e w7 ⟨rfl, hb⟩; have n0_ := Aside0.mk (blk_below (g := gb273) (o := .cells #[.int .i64 a0_0, .int .i64 a0_1, .int .i64 a0_2, .int .i64 a0_3, .int .i64 a0_4, .int .i64 a0_5, .int .i64 a0_6] 23 (0, 0)) (by (with_reducible repeat (first | refine blk_drewN ?_ _ | refine blk_drew ?_ | refine blk_alloc ?_ _)); exact BK273.out) hb); have n1_ := Aside0.mk (below_step (by repeat (first | (with_reducible first | exact HB.out | apply below_alloc | apply pw_below_drewN | apply below_drew1 | refine below_set ?_ GE273.out) | exact HB.out)) hb); clear BK273; clear HB; have BK273 := n0_; have HB := n1_; clear n0_ n1_; (try clear hb); (try clear hb2); (try clear hk); (try clear hi); have hcz8_0 : w7.cell? ⟨gb273, 0, none⟩ = some (.int .i64 a0_0) := (blk_cell BK273.out 0).trans rfl; have hcz8_1 : w7.cell? ⟨gb273, 1, none⟩ = some (.int .i64 a0_1) := (blk_cell BK273.out 1).trans rfl; have hcz8_2 : w7.cell? ⟨gb273, 2, none⟩ = some (.int .i64 a0_2) := (blk_cell BK273.out 2).trans rfl; have hcz8_3 : w7.cell? ⟨gb273, 3, none⟩ = some (.int .i64 a0_3) := (blk_cell BK273.out 3).trans rfl; have hcz8_4 : w7.cell? ⟨gb273, 4, none⟩ = some (.int .i64 a0_4) := (blk_cell BK273.out 4).trans rfl; have hcz8_5 : w7.cell? ⟨gb273, 5, none⟩ = some (.int .i64 a0_5) := (blk_cell BK273.out 5).trans rfl; have hcz8_6 : w7.cell? ⟨gb273, 6, none⟩ = some (.int .i64 a0_6) := (blk_cell BK273.out 6).trans rfl; have hfz8_0 := blk_frozen BK273.out 0; have hfz8_1 := blk_frozen BK273.out 1; have hfz8_2 := blk_frozen BK273.out 2; have hfz8_3 := blk_frozen BK273.out 3; have hfz8_4 := blk_frozen BK273.out 4; have hfz8_5 := blk_frozen BK273.out 5; have hfz8_6 := blk_frozen BK273.out 6) | (go_at_call 30; (with_reducible refine (spec_juGregorian.calls t274 t275 t276 t281 _ A3.out).mono ?_); rintro e w' ⟨rfl, ⟨nd, rfl⟩⟩; (try first | exact ⟨rfl, _, World.drewN_drewN _ _ _⟩ | exact ⟨rfl, _, Eq.trans (World.drewN_drewN _ _ _) (congrArg (World.drewN _) (Nat.add_assoc _ _ _))⟩)) | (go_at_call 27; (with_reducible refine (spec_JuDay.calls t274 t275 t276 t281 t282 _ A4.out).mono ?_); rintro e w' ⟨rfl, ⟨nd, rfl⟩⟩; (try first | exact ⟨rfl, _, World.drewN_drewN _ _ _⟩ | exact ⟨rfl, _, Eq.trans (World.drewN_drewN _ _ _) (congrArg (World.drewN _) (Nat.add_assoc _ _ _))⟩))); try go_wp2_with (first | ((with_reducible refine gate_dst (N := 1) rfl ?_); refine box_event ?hg (N := 1) ?hd (cs := #[.int .i64 a0_0, .int .i64 a0_1, .int .i64 a0_2, .int .i64 a0_3, .int .i64 a0_4, .int .i64 a0_5, .int .i64 a0_6]) (t := 23) ?hr ?_; (case hd => rfl); (case hg => rfl); (case hr => first | (go_simp; done) | (go_simp; rfl)); intro gb273 hg w5 hbox hb; have n0_ := Aside0.mk (below_step (by repeat (first | (with_reducible first | exact HB.out | apply below_alloc | apply pw_below_drewN | apply below_drew1) | exact HB.out)) hb); have n1_ := Aside0.mk (hbox); have n2_ := Aside0.mk ((by rw [hg]; exact (below_size (by repeat (first | (with_reducible first | exact HB.out | apply below_alloc | apply pw_below_drewN | apply below_drew1) | exact HB.out))) : w.heap.size ≤ gb273)); have n3_ := Aside0.mk ((by rw [hg]; exact (below_size (by repeat (first | (with_reducible first | exact HB.out | apply below_alloc | apply pw_below_drewN | apply below_drew1) | exact HB.out))) : w.heap.size ≤ gb273)); clear HB; have HB := n0_; have BK273 := n1_; have GW273 := n2_; have GE273 := n3_; clear n0_ n1_ n2_ n3_; clear hb hbox hg; have hcz6_0 : w5.cell? ⟨gb273, 0, none⟩ = some (.int .i64 a0_0) := (blk_cell BK273.out 0).trans rfl; have hcz6_1 : w5.cell? ⟨gb273, 1, none⟩ = some (.int .i64 a0_1) := (blk_cell BK273.out 1).trans rfl; have hcz6_2 : w5.cell? ⟨gb273, 2, none⟩ = some (.int .i64 a0_2) := (blk_cell BK273.out 2).trans rfl; have hcz6_3 : w5.cell? ⟨gb273, 3, none⟩ = some (.int .i64 a0_3) := (blk_cell BK273.out 3).trans rfl; have hcz6_4 : w5.cell? ⟨gb273, 4, none⟩ = some (.int .i64 a0_4) := (blk_cell BK273.out 4).trans rfl; have hcz6_5 : w5.cell? ⟨gb273, 5, none⟩ = some (.int .i64 a0_5) := (blk_cell BK273.out 5).trans rfl; have hcz6_6 : w5.cell? ⟨gb273, 6, none⟩ = some (.int .i64 a0_6) := (blk_cell BK273.out 6).trans rfl; have hfz6_0 := blk_frozen BK273.out 0; have hfz6_1 := blk_frozen BK273.out 1; have hfz6_2 := blk_frozen BK273.out 2; have hfz6_3 := blk_frozen BK273.out 3; have hfz6_4 := blk_frozen BK273.out 4; have hfz6_5 := blk_frozen BK273.out 5; have hfz6_6 := blk_frozen BK273.out 6) | (go_at_call 11; (with_reducible refine (spec_JuMade.calls k a0_0 a0_1 a0_2 a0_3 a0_4 a0_5 a0_6 t274 t275 t276 t277 t278 t279 t280 _ A2.out).mono ?_); rintro e w7 ⟨rfl, hb⟩; have n0_ := Aside0.mk (blk_below (g := gb273) (o := .cells #[.int .i64 a0_0, .int .i64 a0_1, .int .i64 a0_2, .int .i64 a0_3, .int .i64 a0_4, .int .i64 a0_5, .int .i64 a0_6] 23 (0, 0)) (by (with_reducible repeat (first | refine blk_drewN ?_ _ | refine blk_drew ?_ | refine blk_alloc ?_ _)); exact BK273.out) hb); have n1_ := Aside0.mk (below_step (by repeat (first | (with_reducible first | exact HB.out | apply below_alloc | apply pw_below_drewN | apply below_drew1 | refine below_set ?_ GE273.out) | exact HB.out)) hb); clear BK273; clear HB; have BK273 := n0_; have HB := n1_; clear n0_ n1_; (try clear hb); (try clear hb2); (try clear hk); (try clear hi); have hcz8_0 : w7.cell? ⟨gb273, 0, none⟩ = some (.int .i64 a0_0) := (blk_cell BK273.out 0).trans rfl; have hcz8_1 : w7.cell? ⟨gb273, 1, none⟩ = some (.int .i64 a0_1) := (blk_cell BK273.out 1).trans rfl; have hcz8_2 : w7.cell? ⟨gb273, 2, none⟩ = some (.int .i64 a0_2) := (blk_cell BK273.out 2).trans rfl; have hcz8_3 : w7.cell? ⟨gb273, 3, none⟩ = some (.int .i64 a0_3) := (blk_cell BK273.out 3).trans rfl; have hcz8_4 : w7.cell? ⟨gb273, 4, none⟩ = some (.int .i64 a0_4) := (blk_cell BK273.out 4).trans rfl; have hcz8_5 : w7.cell? ⟨gb273, 5, none⟩ = some (.int .i64 a0_5) := (blk_cell BK273.out 5).trans rfl; have hcz8_6 : w7.cell? ⟨gb273, 6, none⟩ = some (.int .i64 a0_6) := (blk_cell BK273.out 6).trans rfl; have hfz8_0 := blk_frozen BK273.out 0; have hfz8_1 := blk_frozen BK273.out 1; have hfz8_2 := blk_frozen BK273.out 2; have hfz8_3 := blk_frozen BK273.out 3; have hfz8_4 := blk_frozen BK273.out 4; have hfz8_5 := blk_frozen BK273.out 5; have hfz8_6 := blk_frozen BK273.out 6) | (go_at_call 30; (with_reducible refine (spec_juGregorian.calls t274 t275 t276 t281 _ A3.out).mono ?_); rintro e w' ⟨rfl, ⟨nd, rfl⟩⟩; (try first | exact ⟨rfl, _, World.drewN_drewN _ _ _⟩ | exact ⟨rfl, _, Eq.trans (World.drewN_drewN _ _ _) (congrArg (World.drewN _) (Nat.add_assoc _ _ _))⟩)) | (go_at_call 27; (with_reducible refine (spec_JuDay.calls t274 t275 t276 t281 t282 _ A4.out).mono ?_); rintro e w' ⟨rfl, ⟨nd, rfl⟩⟩; (try first | exact ⟨rfl, _, World.drewN_drewN _ _ _⟩ | exact ⟨rfl, _, Eq.trans (World.drewN_drewN _ _ _) (congrArg (World.drewN _) (Nat.add_assoc _ _ _))⟩))))
  go_ret
  exact ⟨by first | rfl | (simp [errW_none, errW_some] <;> rfl) | (simp [*, errW_none, errW_some] <;> rfl), by repeat (first | (with_reducible first | exact HB.out | apply below_alloc | apply pw_below_drewN | apply below_drew1 | refine below_set ?_ GE273.out) | exact HB.out)⟩

/-! ### laws_FnJulianDay: function 5 -/
def laws_FnJulianDay.f (k : Nat) (a0_0 : Int) (a0_1 : Int) (a0_2 : Int) (a0_3 : Int) (a0_4 : Int) (a0_5 : Int) (a0_6 : Int) : Option (Bool) := (laws_juTime.f a0_0 a0_1 a0_2 a0_3 a0_4 a0_5 a0_6).bind fun bt284 => ((impl_JulianDay.f (wrap64 ((-3998) + (wrap64 (Int.tmod (IntKind.u64.wrap (a0_0)) 23996)))) bt284.2.1 bt284.2.2.1 bt284.2.2.2.1 bt284.2.2.2.2.1 bt284.2.2.2.2.2.1 bt284.2.2.2.2.2.2).bind fun bt291 => (if bt291.2 = 0 then ((spec_JuDayOf.f k (wrap64 ((-3998) + (wrap64 (Int.tmod (IntKind.u64.wrap (a0_0)) 23996)))) bt284.2.1 bt284.2.2.1 bt284.2.2.2.1 bt284.2.2.2.2.1 bt284.2.2.2.2.2.1 bt284.2.2.2.2.2.2).bind fun t293 => (some (bt291.1 == t293))) else (some false)))
theorem laws_FnJulianDay.mono : ∀ a0 a1 a2 a3 a4 a5 a6 k, LeO (laws_FnJulianDay.f k a0 a1 a2 a3 a4 a5 a6) (laws_FnJulianDay.f (k + 1) a0 a1 a2 a3 a4 a5 a6) := by
  intro a0 a1 a2 a3 a4 a5 a6 k
  unfold laws_FnJulianDay.f
  repeat' first
      | (with_reducible exact spec_JuDayOf.mono _ _ _ _ _ _ _ _)
      | (with_reducible exact LeO.refl _)
      | (with_reducible exact LeO.none _)
      | (with_reducible refine LeO.ite ?_ ?_)
      | (with_reducible refine LeO.bind ?_ (fun _ => ?_))
      | exact spec_JuDayOf.mono _ _ _ _ _ _ _ _
      | exact LeO.none _
      | refine LeO.ite ?_ ?_
      | refine LeO.bind ?_ (fun _ => ?_)
set_option maxHeartbeats 8000000 in
set_option maxRecDepth 100000 in
theorem laws_FnJulianDay.calls (k : Nat) (a0_0 : Int) (a0_1 : Int) (a0_2 : Int) (a0_3 : Int) (a0_4 : Int) (a0_5 : Int) (a0_6 : Int) (r : Bool) (w : World) (h : laws_FnJulianDay.f k a0_0 a0_1 a0_2 a0_3 a0_4 a0_5 a0_6 = some r) :
    Calls Try.prog 5 #[.agg #[.int .i64 a0_0, .int .i64 a0_1, .int .i64 a0_2, .int .i64 a0_3, .int .i64 a0_4, .int .i64 a0_5, .int .i64 a0_6]] w fun e w' => e = .returned (.bool r) ∧ Below w.heap.size w w' := by
  have hu23 := Try.underlying23
  have HB := Aside0.mk (Below.refl w.heap.size w)
  have H : ((laws_juTime.f a0_0 a0_1 a0_2 a0_3 a0_4 a0_5 a0_6).bind fun bt284 => ((impl_JulianDay.f (wrap64 ((-3998) + (wrap64 (Int.tmod (IntKind.u64.wrap (a0_0)) 23996)))) bt284.2.1 bt284.2.2.1 bt284.2.2.2.1 bt284.2.2.2.2.1 bt284.2.2.2.2.2.1 bt284.2.2.2.2.2.2).bind fun bt291 => (if bt291.2 = 0 then ((spec_JuDayOf.f k (wrap64 ((-3998) + (wrap64 (Int.tmod (IntKind.u64.wrap (a0_0)) 23996)))) bt284.2.1 bt284.2.2.1 bt284.2.2.2.1 bt284.2.2.2.2.1 bt284.2.2.2.2.2.1 bt284.2.2.2.2.2.2).bind fun t293 => (some (bt291.1 == t293))) else (some false)))) = some r := h
  clear h
  replace H := Option.bind_eq_some_iff.mp H
  obtain ⟨⟨t284, t285, t286, t287, t288, t289, t290⟩, A20, H⟩ := H
  replace H : ((impl_JulianDay.f (wrap64 ((-3998) + (wrap64 (Int.tmod (IntKind.u64.wrap (a0_0)) 23996)))) t285 t286 t287 t288 t289 t290).bind fun bt291 => (if bt291.2 = 0 then ((spec_JuDayOf.f k (wrap64 ((-3998) + (wrap64 (Int.tmod (IntKind.u64.wrap (a0_0)) 23996)))) t285 t286 t287 t288 t289 t290).bind fun t293 => (some (bt291.1 == t293))) else (some false))) = some r := H
  have A2 := Aside0.mk A20
  clear A20
  replace H := Option.bind_eq_some_iff.mp H
  obtain ⟨⟨t291, t292⟩, A30, H⟩ := H
  replace H : (if t292 = 0 then ((spec_JuDayOf.f k (wrap64 ((-3998) + (wrap64 (Int.tmod (IntKind.u64.wrap (a0_0)) 23996)))) t285 t286 t287 t288 t289 t290).bind fun t293 => (some (t291 == t293))) else (some false)) = some r := H
  have A3 := Aside0.mk A30
  clear A30
  by_cases c4 : t292 = 0
  · rw [if_pos c4] at H
    have c4b0 : (t292 == 0) = true := beq_iff_eq.mpr c4
    have c4b1 : (t292 != 0) = false := bne_eq_false_iff_eq.mpr c4
    clear c4
    replace H := Option.bind_eq_some_iff.mp H
    obtain ⟨t293, A50, H⟩ := H
    replace H : (some (t291 == t293)) = some r := H
    have A5 := Aside0.mk A50
    clear A50
    obtain rfl := Option.some.inj H
    go_enter Try.func5, Try.ntmps5
    go_wp2_with (first | ((with_reducible refine gate_dst (N := 1) rfl ?_); refine box_event ?hg (N := 1) ?hd (cs := #[.int .i64 a0_0, .int .i64 a0_1, .int .i64 a0_2, .int .i64 a0_3, .int .i64 a0_4, .int .i64 a0_5, .int .i64 a0_6]) (t := 23) ?hr ?_; (case hd => rfl); (case hg => rfl); (case hr => first | (go_simp; done) | (go_simp; rfl)); intro gb283 hg w6 hbox hb; have n0_ := Aside0.mk (below_step (by repeat (first | (with_reducible first | exact HB.out | apply below_alloc | apply pw_below_drewN | apply below_drew1) | exact HB.out)) hb); have n1_ := Aside0.mk (hbox); have n2_ := Aside0.mk ((by rw [hg]; exact (below_size (by repeat (first | (with_reducible first | exact HB.out | apply below_alloc | apply pw_below_drewN | apply below_drew1) | exact HB.out))) : w.heap.size ≤ gb283)); have n3_ := Aside0.mk ((by rw [hg]; exact (below_size (by repeat (first | (with_reducible first | exact HB.out | apply below_alloc | apply pw_below_drewN | apply below_drew1) | exact HB.out))) : w.heap.size ≤ gb283)); clear HB; have HB := n0_; have BK283 := n1_; have GW283 := n2_; have GE283 := n3_; clear n0_ n1_ n2_ n3_; clear hb hbox hg; have hcz7_0 : w6.cell? ⟨gb283, 0, none⟩ = some (.int .i64 a0_0) := (blk_cell BK283.out 0).trans rfl; have hcz7_1 : w6.cell? ⟨gb283, 1, none⟩ = some (.int .i64 a0_1) := (blk_cell BK283.out 1).trans rfl; have hcz7_2 : w6.cell? ⟨gb283, 2, none⟩ = some (.int .i64 a0_2) := (blk_cell BK283.out 2).trans rfl; have hcz7_3 : w6.cell? ⟨gb283, 3, none⟩ = some (.int .i64 a0_3) := (blk_cell BK283.out 3).trans rfl; have hcz7_4 : w6.cell? ⟨gb283, 4, none⟩ = some (.int .i64 a0_4) := (blk_cell BK283.out 4).trans rfl; have hcz7_5 : w6.cell? ⟨gb283, 5, none⟩ = some (.int .i64 a0_5) := (blk_cell BK283.out 5).trans rfl; have hcz7_6 : w6.cell? ⟨gb283, 6, none⟩ = some (.int .i64 a0_6) := (blk_cell BK283.out 6).trans rfl; have hfz7_0 := blk_frozen BK283.out 0; have hfz7_1 := blk_frozen BK283.out 1; have hfz7_2 := blk_frozen BK283.out 2; have hfz7_3 := blk_frozen BK283.out 3; have hfz7_4 := blk_frozen BK283.out 4; have hfz7_5 := blk_frozen BK283.out 5; have hfz7_6 := blk_frozen BK283.out 6) | ((with_reducible refine gate_callee (f := 9) rfl ?_); refine goesL_ (some 13) rfl rfl Try.func9 (by kernel_rfl) rfl #[.agg #[.int .i64 a0_0, .int .i64 a0_1, .int .i64 a0_2, .int .i64 a0_3, .int .i64 a0_4, .int .i64 a0_5, .int .i64 a0_6]] rfl (by (try simp only [List.map_toArray, List.map_cons, List.map_nil]); first | done | rfl | (simp only [List.length_drop, List.length_take]; rfl)) ?_; (with_reducible refine (laws_juTime.calls a0_0 a0_1 a0_2 a0_3 a0_4 a0_5 a0_6 t284 t285 t286 t287 t288 t289 t290 _ A2.out).mono ?_); rintro e w8 ⟨rfl, hb⟩; refine ⟨_, rfl, ?_⟩; have n0_ := Aside0.mk (blk_below (g := gb283) (o := .cells #[.int .i64 a0_0, .int .i64 a0_1, .int .i64 a0_2, .int .i64 a0_3, .int .i64 a0_4, .int .i64 a0_5, .int .i64 a0_6] 23 (0, 0)) (by (with_reducible repeat (first | refine blk_drewN ?_ _ | refine blk_drew ?_ | refine blk_alloc ?_ _)); exact BK283.out) hb); have n1_ := Aside0.mk (below_step (by repeat (first | (with_reducible first | exact HB.out | apply below_alloc | apply pw_below_drewN | apply below_drew1 | refine below_set ?_ GE283.out) | exact HB.out)) hb); clear BK283; clear HB; have BK283 := n0_; have HB := n1_; clear n0_ n1_; (try clear hb); (try clear hb2); (try clear hk); (try clear hi); have hcz9_0 : w8.cell? ⟨gb283, 0, none⟩ = some (.int .i64 a0_0) := (blk_cell BK283.out 0).trans rfl; have hcz9_1 : w8.cell? ⟨gb283, 1, none⟩ = some (.int .i64 a0_1) := (blk_cell BK283.out 1).trans rfl; have hcz9_2 : w8.cell? ⟨gb283, 2, none⟩ = some (.int .i64 a0_2) := (blk_cell BK283.out 2).trans rfl; have hcz9_3 : w8.cell? ⟨gb283, 3, none⟩ = some (.int .i64 a0_3) := (blk_cell BK283.out 3).trans rfl; have hcz9_4 : w8.cell? ⟨gb283, 4, none⟩ = some (.int .i64 a0_4) := (blk_cell BK283.out 4).trans rfl; have hcz9_5 : w8.cell? ⟨gb283, 5, none⟩ = some (.int .i64 a0_5) := (blk_cell BK283.out 5).trans rfl; have hcz9_6 : w8.cell? ⟨gb283, 6, none⟩ = some (.int .i64 a0_6) := (blk_cell BK283.out 6).trans rfl; have hfz9_0 := blk_frozen BK283.out 0; have hfz9_1 := blk_frozen BK283.out 1; have hfz9_2 := blk_frozen BK283.out 2; have hfz9_3 := blk_frozen BK283.out 3; have hfz9_4 := blk_frozen BK283.out 4; have hfz9_5 := blk_frozen BK283.out 5; have hfz9_6 := blk_frozen BK283.out 6) | ((with_reducible refine gate_callee (f := 14) rfl ?_); refine goesL_ (some 18) rfl rfl Try.func14 (by kernel_rfl) rfl #[.agg #[.int .i64 (wrap64 ((-3998) + (wrap64 (Int.tmod (IntKind.u64.wrap (a0_0)) 23996)))), .int .i64 t285, .int .i64 t286, .int .i64 t287, .int .i64 t288, .int .i64 t289, .int .i64 t290]] rfl (by (try simp only [List.map_toArray, List.map_cons, List.map_nil]); first | done | rfl | (simp only [List.length_drop, List.length_take]; rfl)) ?_; (with_reducible refine (impl_JulianDay.calls (wrap64 ((-3998) + (wrap64 (Int.tmod (IntKind.u64.wrap (a0_0)) 23996)))) t285 t286 t287 t288 t289 t290 t291 t292 _ A3.out).mono ?_); rintro e w10 ⟨rfl, hb⟩; refine ⟨_, rfl, ?_⟩; have n0_ := Aside0.mk (blk_below (g := gb283) (o := .cells #[.int .i64 (wrap64 ((-3998) + (wrap64 (Int.tmod (IntKind.u64.wrap (a0_0)) 23996)))), .int .i64 t285, .int .i64 t286, .int .i64 t287, .int .i64 t288, .int .i64 t289, .int .i64 t290] 23 (0, 0)) (by (with_reducible repeat (first | refine blk_drewN ?_ _ | refine blk_drew ?_ | refine blk_alloc ?_ _)); refine blk_put (cs := #[.int .i64 t284, .int .i64 t285, .int .i64 t286, .int .i64 t287, .int .i64 t288, .int .i64 t289, .int .i64 t290]) ?_ 0 _ rfl; (with_reducible repeat (first | refine blk_drewN ?_ _ | refine blk_drew ?_ | refine blk_alloc ?_ _)); refine blk_put (cs := #[.int .i64 t284, .int .i64 t285, .int .i64 t286, .int .i64 t287, .int .i64 t288, .int .i64 t289, .int .i64 a0_6]) ?_ 6 _ rfl; (with_reducible repeat (first | refine blk_drewN ?_ _ | refine blk_drew ?_ | refine blk_alloc ?_ _)); refine blk_put (cs := #[.int .i64 t284, .int .i64 t285, .int .i64 t286, .int .i64 t287, .int .i64 t288, .int .i64 a0_5, .int .i64 a0_6]) ?_ 5 _ rfl; (with_reducible repeat (first | refine blk_drewN ?_ _ | refine blk_drew ?_ | refine blk_alloc ?_ _)); refine blk_put (cs := #[.int .i64 t284, .int .i64 t285, .int .i64 t286, .int .i64 t287, .int .i64 a0_4, .int .i64 a0_5, .int .i64 a0_6]) ?_ 4 _ rfl; (with_reducible repeat (first | refine blk_drewN ?_ _ | refine blk_drew ?_ | refine blk_alloc ?_ _)); refine blk_put (cs := #[.int .i64 t284, .int .i64 t285, .int .i64 t286, .int .i64 a0_3, .int .i64 a0_4, .int .i64 a0_5, .int .i64 a0_6]) ?_ 3 _ rfl; (with_reducible repeat (first | refine blk_drewN ?_ _ | refine blk_drew ?_ | refine blk_alloc ?_ _)); refine blk_put (cs := #[.int .i64 t284, .int .i64 t285, .int .i64 a0_2, .int .i64 a0_3, .int .i64 a0_4, .int .i64 a0_5, .int .i64 a0_6]) ?_ 2 _ rfl; (with_reducible repeat (first | refine blk_drewN ?_ _ | refine blk_drew ?_ | refine blk_alloc ?_ _)); refine blk_put (cs := #[.int .i64 t284, .int .i64 a0_1, .int .i64 a0_2, .int .i64 a0_3, .int .i64 a0_4, .int .i64 a0_5, .int .i64 a0_6]) ?_ 1 _ rfl; (with_reducible repeat (first | refine blk_drewN ?_ _ | refine blk_drew ?_ | refine blk_alloc ?_ _)); refine blk_put (cs := #[.int .i64 a0_0, .int .i64 a0_1, .int .i64 a0_2, .int .i64 a0_3, .int .i64 a0_4, .int .i64 a0_5, .int .i64 a0_6]) ?_ 0 _ rfl; (with_reducible repeat (first | refine blk_drewN ?_ _ | refine blk_drew ?_ | refine blk_alloc ?_ _)); exact BK283.out) hb); have n1_ := Aside0.mk (below_step (by repeat (first | (with_reducible first | exact HB.out | apply below_alloc | apply pw_below_drewN | apply below_drew1 | refine below_set ?_ GE283.out) | exact HB.out)) hb); clear BK283; clear HB; have BK283 := n0_; have HB := n1_; clear n0_ n1_; (try clear hb); (try clear hb2); (try clear hk); (try clear hi); have hcz11_0 : w10.cell? ⟨gb283, 0, none⟩ = some (.int .i64 (wrap64 ((-3998) + (wrap64 (Int.tmod (IntKind.u64.wrap (a0_0)) 23996))))) := (blk_cell BK283.out 0).trans rfl; have hcz11_1 : w10.cell? ⟨gb283, 1, none⟩ = some (.int .i64 t285) := (blk_cell BK283.out 1).trans rfl; have hcz11_2 : w10.cell? ⟨gb283, 2, none⟩ = some (.int .i64 t286) := (blk_cell BK283.out 2).trans rfl; have hcz11_3 : w10.cell? ⟨gb283, 3, none⟩ = some (.int .i64 t287) := (blk_cell BK283.out 3).trans rfl; have hcz11_4 : w10.cell? ⟨gb283, 4, none⟩ = some (.int .i64 t288) := (blk_cell BK283.out 4).trans rfl; have hcz11_5 : w10.cell? ⟨gb283, 5, none⟩ = some (.int .i64 t289) := (blk_cell BK283.out 5).trans rfl; have hcz11_6 : w10.cell? ⟨gb283, 6, none⟩ = some (.int .i64 t290) := (blk_cell BK283.out 6).trans rfl; have hfz11_0 := blk_frozen BK283.out 0; have hfz11_1 := blk_frozen BK283.out 1; have hfz11_2 := blk_frozen BK283.out 2; have hfz11_3 := blk_frozen BK283.out 3; have hfz11_4 := blk_frozen BK283.out 4; have hfz11_5 := blk_frozen BK283.out 5; have hfz11_6 := blk_frozen BK283.out 6) | (go_at_call 15; (with_reducible refine (spec_JuDayOf.calls k (wrap64 ((-3998) + (wrap64 (Int.tmod (IntKind.u64.wrap (a0_0)) 23996)))) t285 t286 t287 t288 t289 t290 t293 _ A5.out).mono ?_); rintro e w12 ⟨rfl, hb⟩; have n0_ := Aside0.mk (blk_below (g := gb283) (o := .cells #[.int .i64 (wrap64 ((-3998) + (wrap64 (Int.tmod (IntKind.u64.wrap (a0_0)) 23996)))), .int .i64 t285, .int .i64 t286, .int .i64 t287, .int .i64 t288, .int .i64 t289, .int .i64 t290] 23 (0, 0)) (by (with_reducible repeat (first | refine blk_drewN ?_ _ | refine blk_drew ?_ | refine blk_alloc ?_ _)); exact BK283.out) hb); have n1_ := Aside0.mk (below_step (by repeat (first | (with_reducible first | exact HB.out | apply below_alloc | apply pw_below_drewN | apply below_drew1 | refine below_set ?_ GE283.out) | exact HB.out)) hb); clear BK283; clear HB; have BK283 := n0_; have HB := n1_; clear n0_ n1_; (try clear hb); (try clear hb2); (try clear hk); (try clear hi)))
    go_ret
    exact ⟨by first | rfl | (simp [errW_none, errW_some] <;> rfl) | (simp [*, errW_none, errW_some] <;> rfl), by repeat (first | (with_reducible first | exact HB.out | apply below_alloc | apply pw_below_drewN | apply below_drew1 | refine below_set ?_ GE283.out) | exact HB.out)⟩
  · rw [if_neg c4] at H
    have c4b0 : (t292 == 0) = false := beq_eq_false_iff_ne.mpr c4
    have c4b1 : (t292 != 0) = true := bne_iff_ne.mpr c4
    obtain rfl := Option.some.inj H
    go_enter Try.func5, Try.ntmps5
    go_wp2_with (first | ((with_reducible refine gate_dst (N := 1) rfl ?_); refine box_event ?hg (N := 1) ?hd (cs := #[.int .i64 a0_0, .int .i64 a0_1, .int .i64 a0_2, .int .i64 a0_3, .int .i64 a0_4, .int .i64 a0_5, .int .i64 a0_6]) (t := 23) ?hr ?_; (case hd => rfl); (case hg => rfl); (case hr => first | (go_simp; done) | (go_simp; rfl)); intro gb283 hg w13 hbox hb; have n0_ := Aside0.mk (below_step (by repeat (first | (with_reducible first | exact HB.out | apply below_alloc | apply pw_below_drewN | apply below_drew1) | exact HB.out)) hb); have n1_ := Aside0.mk (hbox); have n2_ := Aside0.mk ((by rw [hg]; exact (below_size (by repeat (first | (with_reducible first | exact HB.out | apply below_alloc | apply pw_below_drewN | apply below_drew1) | exact HB.out))) : w.heap.size ≤ gb283)); have n3_ := Aside0.mk ((by rw [hg]; exact (below_size (by repeat (first | (with_reducible first | exact HB.out | apply below_alloc | apply pw_below_drewN | apply below_drew1) | exact HB.out))) : w.heap.size ≤ gb283)); clear HB; have HB := n0_; have BK283 := n1_; have GW283 := n2_; have GE283 := n3_; clear n0_ n1_ n2_ n3_; clear hb hbox hg; have hcz14_0 : w13.cell? ⟨gb283, 0, none⟩ = some (.int .i64 a0_0) := (blk_cell BK283.out 0).trans rfl; have hcz14_1 : w13.cell? ⟨gb283, 1, none⟩ = some (.int .i64 a0_1) := (blk_cell BK283.out 1).trans rfl; have hcz14_2 : w13.cell? ⟨gb283, 2, none⟩ = some (.int .i64 a0_2) := (blk_cell BK283.out 2).trans rfl; have hcz14_3 : w13.cell? ⟨gb283, 3, none⟩ = some (.int .i64 a0_3) := (blk_cell BK283.out 3).trans rfl; have hcz14_4 : w13.cell? ⟨gb283, 4, none⟩ = some (.int .i64 a0_4) := (blk_cell BK283.out 4).trans rfl; have hcz14_5 : w13.cell? ⟨gb283, 5, none⟩ = some (.int .i64 a0_5) := (blk_cell BK283.out 5).trans rfl; have hcz14_6 : w13.cell? ⟨gb283, 6, none⟩ = some (.int .i64 a0_6) := (blk_cell BK283.out 6).trans rfl; have hfz14_0 := blk_frozen BK283.out 0; have hfz14_1 := blk_frozen BK283.out 1; have hfz14_2 := blk_frozen BK283.out 2; have hfz14_3 := blk_frozen BK283.out 3; have hfz14_4 := blk_frozen BK283.out 4; have hfz14_5 := blk_frozen BK283.out 5; have hfz14_6 := blk_frozen BK283.out 6) | ((with_reducible refine gate_callee (f := 9) rfl ?_); refine goesL_ (some 13) rfl rfl Try.func9 (by kernel_rfl) rfl #[.agg #[.int .i64 a0_0, .int .i64 a0_1, .int .i64 a0_2, .int .i64 a0_3, .int .i64 a0_4, .int .i64 a0_5, .int .i64 a0_6]] rfl (by (try simp only [List.map_toArray, List.map_cons, List.map_nil]); first | done | rfl | (simp only [List.length_drop, List.length_take]; rfl)) ?_; (with_reducible refine (laws_juTime.calls a0_0 a0_1 a0_2 a0_3 a0_4 a0_5 a0_6 t284 t285 t286 t287 t288 t289 t290 _ A2.out).mono ?_); rintro e w15 ⟨rfl, hb⟩; refine ⟨_, rfl, ?_⟩; have n0_ := Aside0.mk (blk_below (g := gb283) (o := .cells #[.int .i64 a0_0, .int .i64 a0_1, .int .i64 a0_2, .int .i64 a0_3, .int .i64 a0_4, .int .i64 a0_5, .int .i64 a0_6] 23 (0, 0)) (by (with_reducible repeat (first | refine blk_drewN ?_ _ | refine blk_drew ?_ | refine blk_alloc ?_ _)); exact BK283.out) hb); have n1_ := Aside0.mk (below_step (by repeat (first | (with_reducible first | exact HB.out | apply below_alloc | apply pw_below_drewN | apply below_drew1 | refine below_set ?_ GE283.out) | exact HB.out)) hb); clear BK283; clear HB; have BK283 := n0_; have HB := n1_; clear n0_ n1_; (try clear hb); (try clear hb2); (try clear hk); (try clear hi); have hcz16_0 : w15.cell? ⟨gb283, 0, none⟩ = some (.int .i64 a0_0) := (blk_cell BK283.out 0).trans rfl; have hcz16_1 : w15.cell? ⟨gb283, 1, none⟩ = some (.int .i64 a0_1) := (blk_cell BK283.out 1).trans rfl; have hcz16_2 : w15.cell? ⟨gb283, 2, none⟩ = some (.int .i64 a0_2) := (blk_cell BK283.out 2).trans rfl; have hcz16_3 : w15.cell? ⟨gb283, 3, none⟩ = some (.int .i64 a0_3) := (blk_cell BK283.out 3).trans rfl; have hcz16_4 : w15.cell? ⟨gb283, 4, none⟩ = some (.int .i64 a0_4) := (blk_cell BK283.out 4).trans rfl; have hcz16_5 : w15.cell? ⟨gb283, 5, none⟩ = some (.int .i64 a0_5) := (blk_cell BK283.out 5).trans rfl; have hcz16_6 : w15.cell? ⟨gb283, 6, none⟩ = some (.int .i64 a0_6) := (blk_cell BK283.out 6).trans rfl; have hfz16_0 := blk_frozen BK283.out 0; have hfz16_1 := blk_frozen BK283.out 1; have hfz16_2 := blk_frozen BK283.out 2; have hfz16_3 := blk_frozen BK283.out 3; have hfz16_4 := blk_frozen BK283.out 4; have hfz16_5 := blk_frozen BK283.out 5; have hfz16_6 := blk_frozen BK283.out 6) | ((with_reducible refine gate_callee (f := 14) rfl ?_); refine goesL_ (some 18) rfl rfl Try.func14 (by kernel_rfl) rfl #[.agg #[.int .i64 (wrap64 ((-3998) + (wrap64 (Int.tmod (IntKind.u64.wrap (a0_0)) 23996)))), .int .i64 t285, .int .i64 t286, .int .i64 t287, .int .i64 t288, .int .i64 t289, .int .i64 t290]] rfl (by (try simp only [List.map_toArray, List.map_cons, List.map_nil]); first | done | rfl | (simp only [List.length_drop, List.length_take]; rfl)) ?_; (with_reducible refine (impl_JulianDay.calls (wrap64 ((-3998) + (wrap64 (Int.tmod (IntKind.u64.wrap (a0_0)) 23996)))) t285 t286 t287 t288 t289 t290 t291 t292 _ A3.out).mono ?_); rintro e w17 ⟨rfl, hb⟩; refine ⟨_, rfl, ?_⟩; have n0_ := Aside0.mk (blk_below (g := gb283) (o := .cells #[.int .i64 (wrap64 ((-3998) + (wrap64 (Int.tmod (IntKind.u64.wrap (a0_0)) 23996)))), .int .i64 t285, .int .i64 t286, .int .i64 t287, .int .i64 t288, .int .i64 t289, .int .i64 t290] 23 (0, 0)) (by (with_reducible repeat (first | refine blk_drewN ?_ _ | refine blk_drew ?_ | refine blk_alloc ?_ _)); refine blk_put (cs := #[.int .i64 t284, .int .i64 t285, .int .i64 t286, .int .i64 t287, .int .i64 t288, .int .i64 t289, .int .i64 t290]) ?_ 0 _ rfl; (with_reducible repeat (first | refine blk_drewN ?_ _ | refine blk_drew ?_ | refine blk_alloc ?_ _)); refine blk_put (cs := #[.int .i64 t284, .int .i64 t285, .int .i64 t286, .int .i64 t287, .int .i64 t288, .int .i64 t289, .int .i64 a0_6]) ?_ 6 _ rfl; (with_reducible repeat (first | refine blk_drewN ?_ _ | refine blk_drew ?_ | refine blk_alloc ?_ _)); refine blk_put (cs := #[.int .i64 t284, .int .i64 t285, .int .i64 t286, .int .i64 t287, .int .i64 t288, .int .i64 a0_5, .int .i64 a0_6]) ?_ 5 _ rfl; (with_reducible repeat (first | refine blk_drewN ?_ _ | refine blk_drew ?_ | refine blk_alloc ?_ _)); refine blk_put (cs := #[.int .i64 t284, .int .i64 t285, .int .i64 t286, .int .i64 t287, .int .i64 a0_4, .int .i64 a0_5, .int .i64 a0_6]) ?_ 4 _ rfl; (with_reducible repeat (first | refine blk_drewN ?_ _ | refine blk_drew ?_ | refine blk_alloc ?_ _)); refine blk_put (cs := #[.int .i64 t284, .int .i64 t285, .int .i64 t286, .int .i64 a0_3, .int .i64 a0_4, .int .i64 a0_5, .int .i64 a0_6]) ?_ 3 _ rfl; (with_reducible repeat (first | refine blk_drewN ?_ _ | refine blk_drew ?_ | refine blk_alloc ?_ _)); refine blk_put (cs := #[.int .i64 t284, .int .i64 t285, .int .i64 a0_2, .int .i64 a0_3, .int .i64 a0_4, .int .i64 a0_5, .int .i64 a0_6]) ?_ 2 _ rfl; (with_reducible repeat (first | refine blk_drewN ?_ _ | refine blk_drew ?_ | refine blk_alloc ?_ _)); refine blk_put (cs := #[.int .i64 t284, .int .i64 a0_1, .int .i64 a0_2, .int .i64 a0_3, .int .i64 a0_4, .int .i64 a0_5, .int .i64 a0_6]) ?_ 1 _ rfl; (with_reducible repeat (first | refine blk_drewN ?_ _ | refine blk_drew ?_ | refine blk_alloc ?_ _)); refine blk_put (cs := #[.int .i64 a0_0, .int .i64 a0_1, .int .i64 a0_2, .int .i64 a0_3, .int .i64 a0_4, .int .i64 a0_5, .int .i64 a0_6]) ?_ 0 _ rfl; (with_reducible repeat (first | refine blk_drewN ?_ _ | refine blk_drew ?_ | refine blk_alloc ?_ _)); exact BK283.out) hb); have n1_ := Aside0.mk (below_step (by repeat (first | (with_reducible first | exact HB.out | apply below_alloc | apply pw_below_drewN | apply below_drew1 | refine below_set ?_ GE283.out) | exact HB.out)) hb); clear BK283; clear HB; have BK283 := n0_; have HB := n1_; clear n0_ n1_; (try clear hb); (try clear hb2); (try clear hk); (try clear hi)))
    go_ret
    exact ⟨by first | rfl | (simp [errW_none, errW_some] <;> rfl) | (simp [*, errW_none, errW_some] <;> rfl), by repeat (first | (with_reducible first | exact HB.out | apply below_alloc | apply pw_below_drewN | apply below_drew1 | refine below_set ?_ GE283.out) | exact HB.out)⟩

/-! ### spec_JuSeconds: function 16 -/
def spec_JuSeconds.f (a0_0 : Int) (a0_1 : Int) (a0_2 : Int) (a0_3 : Int) (a0_4 : Int) (a0_5 : Int) (a0_6 : Int) : Option (Int) := some (wrap64 ((wrap64 ((wrap64 (3600 * a0_3)) + (wrap64 (60 * a0_4)))) + a0_5))
set_option maxHeartbeats 8000000 in
set_option maxRecDepth 100000 in
theorem spec_JuSeconds.calls (a0_0 : Int) (a0_1 : Int) (a0_2 : Int) (a0_3 : Int) (a0_4 : Int) (a0_5 : Int) (a0_6 : Int) (r : Int) (w : World) (h : spec_JuSeconds.f a0_0 a0_1 a0_2 a0_3 a0_4 a0_5 a0_6 = some r) :
    Calls Try.prog 16 #[.agg #[.int .i64 a0_0, .int .i64 a0_1, .int .i64 a0_2, .int .i64 a0_3, .int .i64 a0_4, .int .i64 a0_5, .int .i64 a0_6]] w fun e w' => e = .returned (.int .i64 r) ∧ Below w.heap.size w w' := by
  have hu23 := Try.underlying23
  have HB := Aside0.mk (Below.refl w.heap.size w)
  have H : (some (wrap64 ((wrap64 ((wrap64 (3600 * a0_3)) + (wrap64 (60 * a0_4)))) + a0_5))) = some r := h
  clear h
  obtain rfl := Option.some.inj H
  go_enter Try.func16, Try.ntmps16
  go_wp2_with (first | ((with_reducible refine gate_dst (N := 1) rfl ?_); refine box_event ?hg (N := 1) ?hd (cs := #[.int .i64 a0_0, .int .i64 a0_1, .int .i64 a0_2, .int .i64 a0_3, .int .i64 a0_4, .int .i64 a0_5, .int .i64 a0_6]) (t := 23) ?hr ?_; (case hd => rfl); (case hg => rfl); (case hr => first | (go_simp; done) | (go_simp; rfl)); intro gb294 hg w2 hbox hb; have n0_ := Aside0.mk (below_step (by repeat (first | (with_reducible first | exact HB.out | apply below_alloc | apply pw_below_drewN | apply below_drew1) | exact HB.out)) hb); have n1_ := Aside0.mk (hbox); have n2_ := Aside0.mk ((by rw [hg]; exact (below_size (by repeat (first | (with_reducible first | exact HB.out | apply below_alloc | apply pw_below_drewN | apply below_drew1) | exact HB.out))) : w.heap.size ≤ gb294)); have n3_ := Aside0.mk ((by rw [hg]; exact (below_size (by repeat (first | (with_reducible first | exact HB.out | apply below_alloc | apply pw_below_drewN | apply below_drew1) | exact HB.out))) : w.heap.size ≤ gb294)); clear HB; have HB := n0_; have BK294 := n1_; have GW294 := n2_; have GE294 := n3_; clear n0_ n1_ n2_ n3_; clear hb hbox hg; have hcz3_0 : w2.cell? ⟨gb294, 0, none⟩ = some (.int .i64 a0_0) := (blk_cell BK294.out 0).trans rfl; have hcz3_1 : w2.cell? ⟨gb294, 1, none⟩ = some (.int .i64 a0_1) := (blk_cell BK294.out 1).trans rfl; have hcz3_2 : w2.cell? ⟨gb294, 2, none⟩ = some (.int .i64 a0_2) := (blk_cell BK294.out 2).trans rfl; have hcz3_3 : w2.cell? ⟨gb294, 3, none⟩ = some (.int .i64 a0_3) := (blk_cell BK294.out 3).trans rfl; have hcz3_4 : w2.cell? ⟨gb294, 4, none⟩ = some (.int .i64 a0_4) := (blk_cell BK294.out 4).trans rfl; have hcz3_5 : w2.cell? ⟨gb294, 5, none⟩ = some (.int .i64 a0_5) := (blk_cell BK294.out 5).trans rfl; have hcz3_6 : w2.cell? ⟨gb294, 6, none⟩ = some (.int .i64 a0_6) := (blk_cell BK294.out 6).trans rfl; have hfz3_0 := blk_frozen BK294.out 0; have hfz3_1 := blk_frozen BK294.out 1; have hfz3_2 := blk_frozen BK294.out 2; have hfz3_3 := blk_frozen BK294.out 3; have hfz3_4 := blk_frozen BK294.out 4; have hfz3_5 := blk_frozen BK294.out 5; have hfz3_6 := blk_frozen BK294.out 6))
  go_ret
  exact ⟨by first | rfl | (simp [errW_none, errW_some] <;> rfl) | (simp [*, errW_none, errW_some] <;> rfl), by repeat (first | (with_reducible first | exact HB.out | apply below_alloc | apply pw_below_drewN | apply below_drew1 | refine below_set ?_ GE294.out) | exact HB.out)⟩

/-! ### encoding_convertTimeToDayDate: function 53 -/
def encoding_convertTimeToDayDate.f (a0_0 : Int) (a0_1 : Int) : Option (Int) := (julian_TimeToDay.f a0_0 a0_1).bind fun t296 => (some (wrap64 (t296 - 1721423)))
set_option maxHeartbeats 8000000 in
set_option maxRecDepth 100000 in
theorem encoding_convertTimeToDayDate.calls (a0_0 : Int) (a0_1 : Int) (r : Int) (w : World) (h : encoding_convertTimeToDayDate.f a0_0 a0_1 = some r) :
    Calls Try.prog 53 #[.agg #[.int .i64 a0_0, .int .i64 a0_1]] w fun e w' => e = .returned (.int .i64 r) ∧ Below w.heap.size w w' := by
  have hu42 := Try.underlying42
  have HB := Aside0.mk (Below.refl w.heap.size w)
  have H : ((julian_TimeToDay.f a0_0 a0_1).bind fun t296 => (some (wrap64 (t296 - 1721423)))) = some r := h
  clear h
  replace H := Option.bind_eq_some_iff.mp H
  obtain ⟨t296, A20, H⟩ := H
  replace H : (some (wrap64 (t296 - 1721423))) = some r := H
  have A2 := Aside0.mk A20
  clear A20
  obtain rfl := Option.some.inj H
  go_enter Try.func53, Try.ntmps53
  go_wp2_with (first | ((with_reducible refine gate_dst (N := 1) rfl ?_); refine box_event ?hg (N := 1) ?hd (cs := #[.int .i64 a0_0, .int .i64 a0_1]) (t := 42) ?hr ?_; (case hd => rfl); (case hg => rfl); (case hr => first | (go_simp; done) | (go_simp; rfl)); intro gb295 hg w3 hbox hb; have n0_ := Aside0.mk (below_step (by repeat (first | (with_reducible first | exact HB.out | apply below_alloc | apply pw_below_drewN | apply below_drew1) | exact HB.out)) hb); have n1_ := Aside0.mk (hbox); have n2_ := Aside0.mk ((by rw [hg]; exact (below_size (by repeat (first | (with_reducible first | exact HB.out | apply below_alloc | apply pw_below_drewN | apply below_drew1) | exact HB.out))) : w.heap.size ≤ gb295)); have n3_ := Aside0.mk ((by rw [hg]; exact (below_size (by repeat (first | (with_reducible first | exact HB.out | apply below_alloc | apply pw_below_drewN | apply below_drew1) | exact HB.out))) : w.heap.size ≤ gb295)); clear HB; have HB := n0_; have BK295 := n1_; have GW295 := n2_; have GE295 := n3_; clear n0_ n1_ n2_ n3_; clear hb hbox hg; have hcz4_0 : w3.cell? ⟨gb295, 0, none⟩ = some (.int .i64 a0_0) := (blk_cell BK295.out 0).trans rfl; have hcz4_1 : w3.cell? ⟨gb295, 1, none⟩ = some (.int .i64 a0_1) := (blk_cell BK295.out 1).trans rfl; have hfz4_0 := blk_frozen BK295.out 0; have hfz4_1 := blk_frozen BK295.out 1) | ((with_reducible refine gate_callee (f := 29) rfl ?_); refine goesL_ (some 4) rfl rfl Try.func29 (by kernel_rfl) rfl #[.agg #[.int .i64 a0_0, .int .i64 a0_1]] rfl (by (try simp only [List.map_toArray, List.map_cons, List.map_nil]); first | done | rfl | (simp only [List.length_drop, List.length_take]; rfl)) ?_; (with_reducible refine (julian_TimeToDay.calls a0_0 a0_1 t296 _ A2.out).mono ?_); rintro e w5 ⟨rfl, hb⟩; refine ⟨_, rfl, ?_⟩; have n0_ := Aside0.mk (blk_below (g := gb295) (o := .cells #[.int .i64 a0_0, .int .i64 a0_1] 42 (0, 0)) (by (with_reducible repeat (first | refine blk_drewN ?_ _ | refine blk_drew ?_ | refine blk_alloc ?_ _)); exact BK295.out) hb); have n1_ := Aside0.mk (below_step (by repeat (first | (with_reducible first | exact HB.out | apply below_alloc | apply pw_below_drewN | apply below_drew1 | refine below_set ?_ GE295.out) | exact HB.out)) hb); clear BK295; clear HB; have BK295 := n0_; have HB := n1_; clear n0_ n1_; (try clear hb); (try clear hb2); (try clear hk); (try clear hi)))
  go_ret
  exact ⟨by first | rfl | (simp [errW_none, errW_some] <;> rfl) | (simp [*, errW_none, errW_some] <;> rfl), by repeat (first | (with_reducible first | exact HB.out | apply below_alloc | apply pw_below_drewN | apply below_drew1 | refine below_set ?_ GE295.out) | exact HB.out)⟩

/-! ### encoding_convertTimeToLongdate: function 51 -/
def encoding_convertTimeToLongdate.f (a0_0 : Int) (a0_1 : Int) : Option (Int) := (encoding_convertTimeToDayDate.f a0_0 a0_1).bind fun t298 => ((zztime_Time_Hour.f a0_0 a0_1).bind fun t299 => ((zztime_Time_Minute.f a0_0 a0_1).bind fun t300 => ((zztime_Time_Second.f a0_0 a0_1).bind fun t301 => ((zztime_Time_Nanosecond.f a0_0 a0_1).bind fun t302 => (some (wrap64 ((wrap64 ((wrap64 ((wrap64 ((wrap64 ((wrap64 ((wrap64 ((wrap64 ((wrap64 ((wrap64 (t298 - 1)) * 24)) + t299)) * 60)) + t300)) * 60)) + t301)) * 10000000)) + (wrap64 (Int.tdiv t302 100)))) + 1)))))))
def encoding_convertTimeToLongdate.T1 : Bool × List (List Nat × List Nat) := (true, [([], []), ([0], [0]), ([1], [1]), ([2], [2]), ([], []), ([4, 1], [4]), ([3, 5], [3, 5]), ([6], [6]), ([], []), ([8, 5], [8]), ([7, 9], [7, 9]), ([10], [10]), ([], []), ([12, 9], [12]), ([11, 13], [11, 13]), ([14], [14]), ([], []), ([16, 13], [16]), ([17], [17]), ([15, 18], [15, 18]), ([19], [19]), ([20, 17, 0, 1, 2, 3, 4, 5, 6, 7, 8, 9, 10, 11, 12, 13, 14, 15, 16, 17, 18, 19, 20], [20])])
def encoding_convertTimeToLongdate.B1 : List Nat := [0, 1, 3, 7, 0, 19, 63, 127, 0, 307, 1023, 2047, 0, 4915, 16383, 32767, 0, 78643, 209715, 524287, 1048575, 2097151]
theorem encoding_convertTimeToLongdate.tab1 : rtab .any (opsOf Try.f51 1) = encoding_convertTimeToLongdate.T1 := by kernel_rfl
theorem encoding_convertTimeToLongdate.bits1 : waitsOk encoding_convertTimeToLongdate.T1.2 encoding_convertTimeToLongdate.B1 = true := by kernel_rfl
set_option maxHeartbeats 8000000 in
set_option maxRecDepth 100000 in
theorem encoding_convertTimeToLongdate.calls (a0_0 : Int) (a0_1 : Int) (r : Int) (w : World) (h : encoding_convertTimeToLongdate.f a0_0 a0_1 = some r) :
    Calls Try.prog 51 #[.agg #[.int .i64 a0_0, .int .i64 a0_1]] w fun e w' => e = .returned (.int .i64 r) ∧ Below w.heap.size w w' := by
  have hu42 := Try.underlying42
  have HB := Aside0.mk (Below.refl w.heap.size w)
  have H : ((encoding_convertTimeToDayDate.f a0_0 a0_1).bind fun t298 => ((zztime_Time_Hour.f a0_0 a0_1).bind fun t299 => ((zztime_Time_Minute.f a0_0 a0_1).bind fun t300 => ((zztime_Time_Second.f a0_0 a0_1).bind fun t301 => ((zztime_Time_Nanosecond.f a0_0 a0_1).bind fun t302 => (some (wrap64 ((wrap64 ((wrap64 ((wrap64 ((wrap64 ((wrap64 ((wrap64 ((wrap64 ((wrap64 ((wrap64 (t298 - 1)) * 24)) + t299)) * 60)) + t300)) * 60)) + t301)) * 10000000)) + (wrap64 (Int.tdiv t302 100)))) + 1)))))))) = some r := h
  clear h
  replace H := Option.bind_eq_some_iff.mp H
  obtain ⟨t298, A20, H⟩ := H
  replace H : ((zztime_Time_Hour.f a0_0 a0_1).bind fun t299 => ((zztime_Time_Minute.f a0_0 a0_1).bind fun t300 => ((zztime_Time_Second.f a0_0 a0_1).bind fun t301 => ((zztime_Time_Nanosecond.f a0_0 a0_1).bind fun t302 => (some (wrap64 ((wrap64 ((wrap64 ((wrap64 ((wrap64 ((wrap64 ((wrap64 ((wrap64 ((wrap64 ((wrap64 (t298 - 1)) * 24)) + t299)) * 60)) + t300)) * 60)) + t301)) * 10000000)) + (wrap64 (Int.tdiv t302 100)))) + 1))))))) = some r := H
  have A2 := Aside0.mk A20
  clear A20
  replace H := Option.bind_eq_some_iff.mp H
  obtain ⟨t299, A30, H⟩ := H
  replace H : ((zztime_Time_Minute.f a0_0 a0_1).bind fun t300 => ((zztime_Time_Second.f a0_0 a0_1).bind fun t301 => ((zztime_Time_Nanosecond.f a0_0 a0_1).bind fun t302 => (some (wrap64 ((wrap64 ((wrap64 ((wrap64 ((wrap64 ((wrap64 ((wrap64 ((wrap64 ((wrap64 ((wrap64 (t298 - 1)) * 24)) + t299)) * 60)) + t300)) * 60)) + t301)) * 10000000)) + (wrap64 (Int.tdiv t302 100)))) + 1)))))) = some r := H
  have A3 := Aside0.mk A30
  clear A30
  replace H := Option.bind_eq_some_iff.mp H
  obtain ⟨t300, A40, H⟩ := H
  replace H : ((zztime_Time_Second.f a0_0 a0_1).bind fun t301 => ((zztime_Time_Nanosecond.f a0_0 a0_1).bind fun t302 => (some (wrap64 ((wrap64 ((wrap64 ((wrap64 ((wrap64 ((wrap64 ((wrap64 ((wrap64 ((wrap64 ((wrap64 (t298 - 1)) * 24)) + t299)) * 60)) + t300)) * 60)) + t301)) * 10000000)) + (wrap64 (Int.tdiv t302 100)))) + 1))))) = some r := H
  have A4 := Aside0.mk A40
  clear A40
  replace H := Option.bind_eq_some_iff.mp H
  obtain ⟨t301, A50, H⟩ := H
  replace H : ((zztime_Time_Nanosecond.f a0_0 a0_1).bind fun t302 => (some (wrap64 ((wrap64 ((wrap64 ((wrap64 ((wrap64 ((wrap64 ((wrap64 ((wrap64 ((wrap64 ((wrap64 (t298 - 1)) * 24)) + t299)) * 60)) + t300)) * 60)) + t301)) * 10000000)) + (wrap64 (Int.tdiv t302 100)))) + 1)))) = some r := H
  have A5 := Aside0.mk A50
  clear A50
  replace H := Option.bind_eq_some_iff.mp H
  obtain ⟨t302, A60, H⟩ := H
  replace H : (some (wrap64 ((wrap64 ((wrap64 ((wrap64 ((wrap64 ((wrap64 ((wrap64 ((wrap64 ((wrap64 ((wrap64 (t298 - 1)) * 24)) + t299)) * 60)) + t300)) * 60)) + t301)) * 10000000)) + (wrap64 (Int.tdiv t302 100)))) + 1))) = some r := H
  have A6 := Aside0.mk A60
  clear A60
  obtain rfl := Option.some.inj H
  go_enter Try.func51, Try.ntmps51
  try go_wp2_with (first | ((with_reducible refine gate_dst (N := 1) rfl ?_); refine box_event ?hg (N := 1) ?hd (cs := #[.int .i64 a0_0, .int .i64 a0_1]) (t := 42) ?hr ?_; (case hd => rfl); (case hg => rfl); (case hr => first | (go_simp; done) | (go_simp; rfl)); intro gb297 hg w7 hbox hb; have n0_ := Aside0.mk (below_step (by repeat (first | (with_reducible first | exact HB.out | apply below_alloc | apply pw_below_drewN | apply below_drew1) | exact HB.out)) hb); have n1_ := Aside0.mk (hbox); have n2_ := Aside0.mk ((by rw [hg]; exact (below_size (by repeat (first | (with_reducible first | exact HB.out | apply below_alloc | apply pw_below_drewN | apply below_drew1) | exact HB.out))) : w.heap.size ≤ gb297)); have n3_ := Aside0.mk ((by rw [hg]; exact (below_size (by repeat (first | (with_reducible first | exact HB.out | apply below_alloc | apply pw_below_drewN | apply below_drew1) | exact HB.out))) : w.heap.size ≤ gb297)); clear HB; have HB := n0_; have BK297 := n1_; have GW297 := n2_; have GE297 := n3_; clear n0_ n1_ n2_ n3_; clear hb hbox hg))
  have n0_ := Aside0.mk (blk_drew BK297.out)
  have n1_ := Aside0.mk (below_drew1 HB.out)
  clear BK297
  clear HB
  have BK297 := n0_
  have HB := n1_
  clear n0_ n1_
  refine start_ (n := 22) (S := fun w' => w'.cell? ⟨gb297, 0, none⟩ = some (.int .i64 a0_0) ∧ w'.cell? ⟨gb297, 1, none⟩ = some (.int .i64 a0_1)) (ds := []) #[false, false, false, false, false, false, false, false, false, false, false, false, false, false, false, false, false, false, false, false, false, false] (by kernel_rfl) rfl rfl ⟨(blk_cell BK297.out 0).trans rfl, (blk_cell BK297.out 1).trans rfl⟩ (fun hHeld => ?_); refine with_tabW encoding_convertTimeToLongdate.tab1 encoding_convertTimeToLongdate.bits1 (fun HT_ HW_ => ?_)
  generalize w7.drew = w8 at BK297 HB hHeld ⊢
  refine take_ (i := 0) (N := some 3) (v := ?_) (a' := ?_) #[true, false, false, false, false, false, false, false, false, false, false, false, false, false, false, false, false, false, false, false, false, false] rfl rfl (take_ofW HT_.out HW_.out (by kernel_rfl)) (fun _ _ _ h => h) (Or.inl ⟨by rfl, ?_⟩) hHeld ?_ ?_
  rotate_left
  · rintro w' ⟨s0, s1⟩
    go_simp
    with_reducible rfl
  rotate_left
  · simp only [Act.put, List.setIfInBounds_toArray, List.set_cons_zero, List.set_cons_succ, i64_w, i32_w]
    rfl
  refine take_ (i := 4) (N := some 7) (v := ?_) (a' := ?_) #[true, false, false, false, true, false, false, false, false, false, false, false, false, false, false, false, false, false, false, false, false, false] rfl rfl (take_ofW HT_.out HW_.out (by kernel_rfl)) (fun _ _ _ h => h) (Or.inl ⟨by rfl, ?_⟩) hHeld ?_ ?_
  rotate_left
  · rintro w' ⟨s0, s1⟩
    go_simp
    with_reducible rfl
  rotate_left
  · simp only [Act.put, List.setIfInBounds_toArray, List.set_cons_zero, List.set_cons_succ, i64_w, i32_w]
    rfl
  refine take_ (i := 8) (N := some 11) (v := ?_) (a' := ?_) #[true, false, false, false, true, false, false, false, true, false, false, false, false, false, false, false, false, false, false, false, false, false] rfl rfl (take_ofW HT_.out HW_.out (by kernel_rfl)) (fun _ _ _ h => h) (Or.inl ⟨by rfl, ?_⟩) hHeld ?_ ?_
  rotate_left
  · rintro w' ⟨s0, s1⟩
    go_simp
    with_reducible rfl
  rotate_left
  · simp only [Act.put, List.setIfInBounds_toArray, List.set_cons_zero, List.set_cons_succ, i64_w, i32_w]
    rfl
  refine take_ (i := 12) (N := some 15) (v := ?_) (a' := ?_) #[true, false, false, false, true, false, false, false, true, false, false, false, true, false, false, false, false, false, false, false, false, false] rfl rfl (take_ofW HT_.out HW_.out (by kernel_rfl)) (fun _ _ _ h => h) (Or.inl ⟨by rfl, ?_⟩) hHeld ?_ ?_
  rotate_left
  · rintro w' ⟨s0, s1⟩
    go_simp
    with_reducible rfl
  rotate_left
  · simp only [Act.put, List.setIfInBounds_toArray, List.set_cons_zero, List.set_cons_succ, i64_w, i32_w]
    rfl
  refine take_ (i := 16) (N := some 19) (v := ?_) (a' := ?_) #[true, false, false, false, true, false, false, false, true, false, false, false, true, false, false, false, true, false, false, false, false, false] rfl rfl (take_ofW HT_.out HW_.out (by kernel_rfl)) (fun _ _ _ h => h) (Or.inl ⟨by rfl, ?_⟩) hHeld ?_ ?_
  rotate_left
  · rintro w' ⟨s0, s1⟩
    go_simp
    with_reducible rfl
  rotate_left
  · simp only [Act.put, List.setIfInBounds_toArray, List.set_cons_zero, List.set_cons_succ, i64_w, i32_w]
    rfl
  refine one_ (i := 1) (N := some 4) #[true, true, false, false, true, false, false, false, true, false, false, false, true, false, false, false, true, false, false, false, false, false] rfl rfl (one_of HT_.out (by kernel_rfl)) (by decide) (fun K hK => ?_)
  refine goes_ Try.func53 (by kernel_rfl) rfl #[.agg #[.int .i64 a0_0, .int .i64 a0_1]] (by rfl) rfl rfl (by (try simp only [List.map_toArray, List.map_cons, List.map_nil]); first | done | rfl | (simp only [List.length_drop, List.length_take]; rfl)) ?_
  with_reducible refine (encoding_convertTimeToDayDate.calls a0_0 a0_1 t298 _ A2.out).mono ?_
  rintro e w9 ⟨rfl, hb⟩
  refine ⟨_, rfl, ?_⟩
  have n0_ := Aside0.mk (blk_below (g := gb297) (o := .cells #[.int .i64 a0_0, .int .i64 a0_1] 42 (0, 0)) (by (with_reducible repeat (first | refine blk_drewN ?_ _ | refine blk_drew ?_ | refine blk_alloc ?_ _)); exact BK297.out) hb)
  have n1_ := Aside0.mk (below_step (by repeat (first | (with_reducible first | exact HB.out | apply below_alloc | apply pw_below_drewN | apply below_drew1 | refine below_set ?_ GE297.out) | exact HB.out)) hb)
  clear BK297
  clear HB
  have BK297 := n0_
  have HB := n1_
  clear n0_ n1_
  (try clear hb)
  (try clear hb2)
  (try clear hk)
  (try clear hi)
  refine hK.out _ _ ⟨(blk_cell BK297.out 0).trans rfl, (blk_cell BK297.out 1).trans rfl⟩ (fun hHeld => ?_)
  clear hK K
  refine norm_ (a' := ?_) ?_ ?_
  rotate_left
  · show Act.put _ (some 4) _ = _
    simp only [Act.put, List.setIfInBounds_toArray, List.set_cons_zero, List.set_cons_succ, i64_w, i32_w]
    rfl
  refine pure_ (i := 2) (N := some 5) (v := ?_) (a' := ?_) #[true, true, true, false, true, false, false, false, true, false, false, false, true, false, false, false, true, false, false, false, false, false] rfl rfl (any_of HT_.out (by kernel_rfl)) (fun _ _ _ h => h) (Or.inl ⟨by rfl, ?_⟩) ?_ ?_
  rotate_left
  · intro w'
    go_simp
    with_reducible rfl
  rotate_left
  · simp only [Act.put, List.setIfInBounds_toArray, List.set_cons_zero, List.set_cons_succ, i64_w, i32_w]
    rfl
  refine pure_ (i := 3) (N := some 6) (v := ?_) (a' := ?_) #[true, true, true, true, true, false, false, false, true, false, false, false, true, false, false, false, true, false, false, false, false, false] rfl rfl (any_of HT_.out (by kernel_rfl)) (fun _ _ _ h => h) (Or.inl ⟨by rfl, ?_⟩) ?_ ?_
  rotate_left
  · intro w'
    go_simp
    with_reducible rfl
  rotate_left
  · simp only [Act.put, List.setIfInBounds_toArray, List.set_cons_zero, List.set_cons_succ, i64_w, i32_w]
    rfl
  refine one_ (i := 5) (N := some 8) #[true, true, true, true, true, true, false, false, true, false, false, false, true, false, false, false, true, false, false, false, false, false] rfl rfl (one_of HT_.out (by kernel_rfl)) (by decide) (fun K hK => ?_)
  refine goes_ Try.func42 (by kernel_rfl) rfl #[.agg #[.int .i64 a0_0, .int .i64 a0_1]] (by rfl) rfl rfl (by (try simp only [List.map_toArray, List.map_cons, List.map_nil]); first | done | rfl | (simp only [List.length_drop, List.length_take]; rfl)) ?_
  with_reducible refine (zztime_Time_Hour.calls a0_0 a0_1 t299 _ A3.out).mono ?_
  rintro e w10 ⟨rfl, hb⟩
  refine ⟨_, rfl, ?_⟩
  have n0_ := Aside0.mk (blk_below (g := gb297) (o := .cells #[.int .i64 a0_0, .int .i64 a0_1] 42 (0, 0)) (by (with_reducible repeat (first | refine blk_drewN ?_ _ | refine blk_drew ?_ | refine blk_alloc ?_ _)); exact BK297.out) hb)
  have n1_ := Aside0.mk (below_step (by repeat (first | (with_reducible first | exact HB.out | apply below_alloc | apply pw_below_drewN | apply below_drew1 | refine below_set ?_ GE297.out) | exact HB.out)) hb)
  clear BK297
  clear HB
  have BK297 := n0_
  have HB := n1_
  clear n0_ n1_
  (try clear hb)
  (try clear hb2)
  (try clear hk)
  (try clear hi)
  refine hK.out _ _ ⟨(blk_cell BK297.out 0).trans rfl, (blk_cell BK297.out 1).trans rfl⟩ (fun hHeld => ?_)
  clear hK K
  refine norm_ (a' := ?_) ?_ ?_
  rotate_left
  · show Act.put _ (some 8) _ = _
    simp only [Act.put, List.setIfInBounds_toArray, List.set_cons_zero, List.set_cons_succ, i64_w, i32_w]
    rfl
  refine pure_ (i := 6) (N := some 9) (v := ?_) (a' := ?_) #[true, true, true, true, true, true, true, false, true, false, false, false, true, false, false, false, true, false, false, false, false, false] rfl rfl (any_of HT_.out (by kernel_rfl)) (fun _ _ _ h => h) (Or.inl ⟨by rfl, ?_⟩) ?_ ?_
  rotate_left
  · intro w'
    go_simp
    with_reducible rfl
  rotate_left
  · simp only [Act.put, List.setIfInBounds_toArray, List.set_cons_zero, List.set_cons_succ, i64_w, i32_w]
    rfl
  refine pure_ (i := 7) (N := some 10) (v := ?_) (a' := ?_) #[true, true, true, true, true, true, true, true, true, false, false, false, true, false, false, false, true, false, false, false, false, false] rfl rfl (any_of HT_.out (by kernel_rfl)) (fun _ _ _ h => h) (Or.inl ⟨by rfl, ?_⟩) ?_ ?_
  rotate_left
  · intro w'
    go_simp
    with_reducible rfl
  rotate_left
  · simp only [Act.put, List.setIfInBounds_toArray, List.set_cons_zero, List.set_cons_succ, i64_w, i32_w]
    rfl
  refine one_ (i := 9) (N := some 12) #[true, true, true, true, true, true, true, true, true, true, false, false, true, false, false, false, true, false, false, false, false, false] rfl rfl (one_of HT_.out (by kernel_rfl)) (by decide) (fun K hK => ?_)
  refine goes_ Try.func43 (by kernel_rfl) rfl #[.agg #[.int .i64 a0_0, .int .i64 a0_1]] (by rfl) rfl rfl (by (try simp only [List.map_toArray, List.map_cons, List.map_nil]); first | done | rfl | (simp only [List.length_drop, List.length_take]; rfl)) ?_
  with_reducible refine (zztime_Time_Minute.calls a0_0 a0_1 t300 _ A4.out).mono ?_
  rintro e w11 ⟨rfl, hb⟩
  refine ⟨_, rfl, ?_⟩
  have n0_ := Aside0.mk (blk_below (g := gb297) (o := .cells #[.int .i64 a0_0, .int .i64 a0_1] 42 (0, 0)) (by (with_reducible repeat (first | refine blk_drewN ?_ _ | refine blk_drew ?_ | refine blk_alloc ?_ _)); exact BK297.out) hb)
  have n1_ := Aside0.mk (below_step (by repeat (first | (with_reducible first | exact HB.out | apply below_alloc | apply pw_below_drewN | apply below_drew1 | refine below_set ?_ GE297.out) | exact HB.out)) hb)
  clear BK297
  clear HB
  have BK297 := n0_
  have HB := n1_
  clear n0_ n1_
  (try clear hb)
  (try clear hb2)
  (try clear hk)
  (try clear hi)
  refine hK.out _ _ ⟨(blk_cell BK297.out 0).trans rfl, (blk_cell BK297.out 1).trans rfl⟩ (fun hHeld => ?_)
  clear hK K
  refine norm_ (a' := ?_) ?_ ?_
  rotate_left
  · show Act.put _ (some 12) _ = _
    simp only [Act.put, List.setIfInBounds_toArray, List.set_cons_zero, List.set_cons_succ, i64_w, i32_w]
    rfl
  refine pure_ (i := 10) (N := some 13) (v := ?_) (a' := ?_) #[true, true, true, true, true, true, true, true, true, true, true, false, true, false, false, false, true, false, false, false, false, false] rfl rfl (any_of HT_.out (by kernel_rfl)) (fun _ _ _ h => h) (Or.inl ⟨by rfl, ?_⟩) ?_ ?_
  rotate_left
  · intro w'
    go_simp
    with_reducible rfl
  rotate_left
  · simp only [Act.put, List.setIfInBounds_toArray, List.set_cons_zero, List.set_cons_succ, i64_w, i32_w]
    rfl
  refine pure_ (i := 11) (N := some 14) (v := ?_) (a' := ?_) #[true, true, true, true, true, true, true, true, true, true, true, true, true, false, false, false, true, false, false, false, false, false] rfl rfl (any_of HT_.out (by kernel_rfl)) (fun _ _ _ h => h) (Or.inl ⟨by rfl, ?_⟩) ?_ ?_
  rotate_left
  · intro w'
    go_simp
    with_reducible rfl
  rotate_left
  · simp only [Act.put, List.setIfInBounds_toArray, List.set_cons_zero, List.set_cons_succ, i64_w, i32_w]
    rfl
  refine one_ (i := 13) (N := some 16) #[true, true, true, true, true, true, true, true, true, true, true, true, true, true, false, false, true, false, false, false, false, false] rfl rfl (one_of HT_.out (by kernel_rfl)) (by decide) (fun K hK => ?_)
  refine goes_ Try.func44 (by kernel_rfl) rfl #[.agg #[.int .i64 a0_0, .int .i64 a0_1]] (by rfl) rfl rfl (by (try simp only [List.map_toArray, List.map_cons, List.map_nil]); first | done | rfl | (simp only [List.length_drop, List.length_take]; rfl)) ?_
  with_reducible refine (zztime_Time_Second.calls a0_0 a0_1 t301 _ A5.out).mono ?_
  rintro e w12 ⟨rfl, hb⟩
  refine ⟨_, rfl, ?_⟩
  have n0_ := Aside0.mk (blk_below (g := gb297) (o := .cells #[.int .i64 a0_0, .int .i64 a0_1] 42 (0, 0)) (by (with_reducible repeat (first | refine blk_drewN ?_ _ | refine blk_drew ?_ | refine blk_alloc ?_ _)); exact BK297.out) hb)
  have n1_ := Aside0.mk (below_step (by repeat (first | (with_reducible first | exact HB.out | apply below_alloc | apply pw_below_drewN | apply below_drew1 | refine below_set ?_ GE297.out) | exact HB.out)) hb)
  clear BK297
  clear HB
  have BK297 := n0_
  have HB := n1_
  clear n0_ n1_
  (try clear hb)
  (try clear hb2)
  (try clear hk)
  (try clear hi)
  refine hK.out _ _ ⟨(blk_cell BK297.out 0).trans rfl, (blk_cell BK297.out 1).trans rfl⟩ (fun hHeld => ?_)
  clear hK K
  refine norm_ (a' := ?_) ?_ ?_
  rotate_left
  · show Act.put _ (some 16) _ = _
    simp only [Act.put, List.setIfInBounds_toArray, List.set_cons_zero, List.set_cons_succ, i64_w, i32_w]
    rfl
  refine pure_ (i := 14) (N := some 17) (v := ?_) (a' := ?_) #[true, true, true, true, true, true, true, true, true, true, true, true, true, true, true, false, true, false, false, false, false, false] rfl rfl (any_of HT_.out (by kernel_rfl)) (fun _ _ _ h => h) (Or.inl ⟨by rfl, ?_⟩) ?_ ?_
  rotate_left
  · intro w'
    go_simp
    with_reducible rfl
  rotate_left
  · simp only [Act.put, List.setIfInBounds_toArray, List.set_cons_zero, List.set_cons_succ, i64_w, i32_w]
    rfl
  refine pure_ (i := 15) (N := some 18) (v := ?_) (a' := ?_) #[true, true, true, true, true, true, true, true, true, true, true, true, true, true, true, true, true, false, false, false, false, false] rfl rfl (any_of HT_.out (by kernel_rfl)) (fun _ _ _ h => h) (Or.inl ⟨by rfl, ?_⟩) ?_ ?_
  rotate_left
  · intro w'
    go_simp
    with_reducible rfl
  rotate_left
  · simp only [Act.put, List.setIfInBounds_toArray, List.set_cons_zero, List.set_cons_succ, i64_w, i32_w]
    rfl
  refine one_ (i := 17) (N := some 20) #[true, true, true, true, true, true, true, true, true, true, true, true, true, true, true, true, true, true, false, false, false, false] rfl rfl (one_of HT_.out (by kernel_rfl)) (by decide) (fun K hK => ?_)
  refine goes_ Try.func45 (by kernel_rfl) rfl #[.agg #[.int .i64 a0_0, .int .i64 a0_1]] (by rfl) rfl rfl (by (try simp only [List.map_toArray, List.map_cons, List.map_nil]); first | done | rfl | (simp only [List.length_drop, List.length_take]; rfl)) ?_
  with_reducible refine (zztime_Time_Nanosecond.calls a0_0 a0_1 t302 _ A6.out).mono ?_
  rintro e w13 ⟨rfl, hb⟩
  refine ⟨_, rfl, ?_⟩
  have n0_ := Aside0.mk (blk_below (g := gb297) (o := .cells #[.int .i64 a0_0, .int .i64 a0_1] 42 (0, 0)) (by (with_reducible repeat (first | refine blk_drewN ?_ _ | refine blk_drew ?_ | refine blk_alloc ?_ _)); exact BK297.out) hb)
  have n1_ := Aside0.mk (below_step (by repeat (first | (with_reducible first | exact HB.out | apply below_alloc | apply pw_below_drewN | apply below_drew1 | refine below_set ?_ GE297.out) | exact HB.out)) hb)
  clear BK297
  clear HB
  have BK297 := n0_
  have HB := n1_
  clear n0_ n1_
  (try clear hb)
  (try clear hb2)
  (try clear hk)
  (try clear hi)
  refine hK.out _ _ ⟨(blk_cell BK297.out 0).trans rfl, (blk_cell BK297.out 1).trans rfl⟩ (fun hHeld => ?_)
  clear hK K
  refine norm_ (a' := ?_) ?_ ?_
  rotate_left
  · show Act.put _ (some 20) _ = _
    simp only [Act.put, List.setIfInBounds_toArray, List.set_cons_zero, List.set_cons_succ, i64_w, i32_w]
    rfl
  refine pure_ (i := 18) (N := some 21) (v := ?_) (a' := ?_) #[true, true, true, true, true, true, true, true, true, true, true, true, true, true, true, true, true, true, true, false, false, false] rfl rfl (any_of HT_.out (by kernel_rfl)) (fun _ _ _ h => h) (Or.inl ⟨by rfl, ?_⟩) ?_ ?_
  rotate_left
  · intro w'
    go_simp
    with_reducible rfl
  rotate_left
  · simp only [Act.put, List.setIfInBounds_toArray, List.set_cons_zero, List.set_cons_succ, i64_w, i32_w]
    rfl
  refine pure_ (i := 19) (N := some 22) (v := ?_) (a' := ?_) #[true, true, true, true, true, true, true, true, true, true, true, true, true, true, true, true, true, true, true, true, false, false] rfl rfl (any_of HT_.out (by kernel_rfl)) (fun _ _ _ h => h) (Or.inl ⟨by rfl, ?_⟩) ?_ ?_
  rotate_left
  · intro w'
    go_simp
    with_reducible rfl
  rotate_left
  · simp only [Act.put, List.setIfInBounds_toArray, List.set_cons_zero, List.set_cons_succ, i64_w, i32_w]
    rfl
  refine pure_ (i := 20) (N := some 23) (v := ?_) (a' := ?_) #[true, true, true, true, true, true, true, true, true, true, true, true, true, true, true, true, true, true, true, true, true, false] rfl rfl (any_of HT_.out (by kernel_rfl)) (fun _ _ _ h => h) (Or.inl ⟨by rfl, ?_⟩) ?_ ?_
  rotate_left
  · intro w'
    go_simp
    with_reducible rfl
  rotate_left
  · simp only [Act.put, List.setIfInBounds_toArray, List.set_cons_zero, List.set_cons_succ, i64_w, i32_w]
    rfl
  refine pure_ (i := 21) (N := some 2) (v := ?_) (a' := ?_) #[true, true, true, true, true, true, true, true, true, true, true, true, true, true, true, true, true, true, true, true, true, true] rfl rfl (any_of HT_.out (by kernel_rfl)) (fun _ _ _ h => h) (Or.inl ⟨by rfl, ?_⟩) ?_ ?_
  rotate_left
  · intro w'
    go_simp
    with_reducible rfl
  rotate_left
  · simp only [Act.put, List.setIfInBounds_toArray, List.set_cons_zero, List.set_cons_succ, i64_w, i32_w]
    rfl
  refine done_ (done_of HT_.out (by kernel_rfl)) ?_
  try go_wp2
  go_ret
  exact ⟨by first | rfl | (simp [errW_none, errW_some] <;> rfl) | (simp [*, errW_none, errW_some] <;> rfl), by repeat (first | (with_reducible first | exact HB.out | apply below_alloc | apply pw_below_drewN | apply below_drew1 | refine below_set ?_ GE297.out) | exact HB.out)⟩

/-! ### encoding_ZzLongdateOf: function 32 -/
def encoding_ZzLongdateOf.f (a0_0 : Int) (a0_1 : Int) : Option (Int) := (encoding_convertTimeToLongdate.f a0_0 a0_1).bind fun t304 => (some t304)
set_option maxHeartbeats 8000000 in
set_option maxRecDepth 100000 in
theorem encoding_ZzLongdateOf.calls (a0_0 : Int) (a0_1 : Int) (r : Int) (w : World) (h : encoding_ZzLongdateOf.f a0_0 a0_1 = some r) :
    Calls Try.prog 32 #[.agg #[.int .i64 a0_0, .int .i64 a0_1]] w fun e w' => e = .returned (.int .i64 r) ∧ Below w.heap.size w w' := by
  have hu42 := Try.underlying42
  have HB := Aside0.mk (Below.refl w.heap.size w)
  have H : ((encoding_convertTimeToLongdate.f a0_0 a0_1).bind fun t304 => (some t304)) = some r := h
  clear h
  replace H := Option.bind_eq_some_iff.mp H
  obtain ⟨t304, A20, H⟩ := H
  replace H : (some t304) = some r := H
  have A2 := Aside0.mk A20
  clear A20
  obtain rfl := Option.some.inj H
  go_enter Try.func32, Try.ntmps32
  go_wp2_with (first | ((with_reducible refine gate_dst (N := 1) rfl ?_); refine box_event ?hg (N := 1) ?hd (cs := #[.int .i64 a0_0, .int .i64 a0_1]) (t := 42) ?hr ?_; (case hd => rfl); (case hg => rfl); (case hr => first | (go_simp; done) | (go_simp; rfl)); intro gb303 hg w3 hbox hb; have n0_ := Aside0.mk (below_step (by repeat (first | (with_reducible first | exact HB.out | apply below_alloc | apply pw_below_drewN | apply below_drew1) | exact HB.out)) hb); have n1_ := Aside0.mk (hbox); have n2_ := Aside0.mk ((by rw [hg]; exact (below_size (by repeat (first | (with_reducible first | exact HB.out | apply below_alloc | apply pw_below_drewN | apply below_drew1) | exact HB.out))) : w.heap.size ≤ gb303)); have n3_ := Aside0.mk ((by rw [hg]; exact (below_size (by repeat (first | (with_reducible first | exact HB.out | apply below_alloc | apply pw_below_drewN | apply below_drew1) | exact HB.out))) : w.heap.size ≤ gb303)); clear HB; have HB := n0_; have BK303 := n1_; have GW303 := n2_; have GE303 := n3_; clear n0_ n1_ n2_ n3_; clear hb hbox hg; have hcz4_0 : w3.cell? ⟨gb303, 0, none⟩ = some (.int .i64 a0_0) := (blk_cell BK303.out 0).trans rfl; have hcz4_1 : w3.cell? ⟨gb303, 1, none⟩ = some (.int .i64 a0_1) := (blk_cell BK303.out 1).trans rfl; have hfz4_0 := blk_frozen BK303.out 0; have hfz4_1 := blk_frozen BK303.out 1) | ((with_reducible refine gate_callee (f := 51) rfl ?_); refine goesL_ (some 4) rfl rfl Try.func51 (by kernel_rfl) rfl #[.agg #[.int .i64 a0_0, .int .i64 a0_1]] rfl (by (try simp only [List.map_toArray, List.map_cons, List.map_nil]); first | done | rfl | (simp only [List.length_drop, List.length_take]; rfl)) ?_; (with_reducible refine (encoding_convertTimeToLongdate.calls a0_0 a0_1 t304 _ A2.out).mono ?_); rintro e w5 ⟨rfl, hb⟩; refine ⟨_, rfl, ?_⟩; have n0_ := Aside0.mk (blk_below (g := gb303) (o := .cells #[.int .i64 a0_0, .int .i64 a0_1] 42 (0, 0)) (by (with_reducible repeat (first | refine blk_drewN ?_ _ | refine blk_drew ?_ | refine blk_alloc ?_ _)); exact BK303.out) hb); have n1_ := Aside0.mk (below_step (by repeat (first | (with_reducible first | exact HB.out | apply below_alloc | apply pw_below_drewN | apply below_drew1 | refine below_set ?_ GE303.out) | exact HB.out)) hb); clear BK303; clear HB; have BK303 := n0_; have HB := n1_; clear n0_ n1_; (try clear hb); (try clear hb2); (try clear hk); (try clear hi)))
  go_ret
  exact ⟨by first | rfl | (simp [errW_none, errW_some] <;> rfl) | (simp [*, errW_none, errW_some] <;> rfl), by repeat (first | (with_reducible first | exact HB.out | apply below_alloc | apply pw_below_drewN | apply below_drew1 | refine below_set ?_ GE303.out) | exact HB.out)⟩

end Go.Proofs.Ytbblgpgjgkmcbaa.PJal
