/- Written by a program (print.py, called by prints.sh) for this claim: Go functions as plain Lean functions, and that the code comes to their answers. -/
import Derived.Test.YtbblgpgjgkmcbaaPJrox0
import Derived.Test.YtbblgpgjgkmcbaaPJrox3
import Derived.Test.YtbblgpgjgkmcbaaPJrox4
namespace Go.Proofs.Ytbblgpgjgkmcbaa.PJro
open Go.RowKit Go.Proofs.YtbblgpgjgkmcbaaW.PrintWords Go.Proofs.YtbblgpgjgkmcbaaW.PrintLast Go.Proofs.YtbblgpgjgkmcbaaW.PrintMore
attribute [local go_sem] max2_int min2_int max_two min_two max_three min_three max_four min_four   -- for this text's walks alone
set_option linter.unusedVariables false
set_option linter.unusedSimpArgs false

/-! ### impl_TimeNumbers: function 17 -/
def impl_TimeNumbers.j0 : Nat → Bool → Int → Int → Option (Int × Int × Int × Int × Int)
  | 0, _, _, _ => none
  | k + 1, x25, x225000, x225001 => if x25 = true then (some (0, 0, 0, 0, 3)) else ((encoding_ZzLongdateOf.f x225000 x225001).bind fun t227 => ((encoding_ZzSeconddateOf.f x225000 x225001).bind fun t228 => ((encoding_ZzDaydateOf.f x225000 x225001).bind fun t229 => ((encoding_ZzSecondtimeOf.f x225000 x225001).bind fun t230 => (some (t227, t228, t229, t230, 0))))))
def impl_TimeNumbers.f (k : Nat) (a0_0 : Int) (a0_1 : Int) (a0_2 : Int) (a0_3 : Int) (a0_4 : Int) (a0_5 : Int) (a0_6 : Int) : Option (Int × Int × Int × Int × Int) := (impl_timeOf.f a0_0 a0_1 a0_2 a0_3 a0_4 a0_5 a0_6).bind fun bt221 => (if bt221.2.2 = true then ((zztime_Time_Year.f bt221.1 bt221.2.1).bind fun t225 => (if t225 < 1 then (impl_TimeNumbers.j0 k true bt221.1 bt221.2.1) else ((zztime_Time_Year.f bt221.1 bt221.2.1).bind fun t226 => (impl_TimeNumbers.j0 k (decide (t226 > 9999)) bt221.1 bt221.2.1)))) else (impl_TimeNumbers.j0 k true bt221.1 bt221.2.1))
theorem impl_TimeNumbers.mono_l : ∀ k, (∀ y0 y1 y2, LeO (impl_TimeNumbers.j0 k y0 y1 y2) (impl_TimeNumbers.j0 (k + 1) y0 y1 y2))
  | 0 => fun _ _ _ r h => by simp [impl_TimeNumbers.j0] at h
  | k + 1 => by
    have ih0 := impl_TimeNumbers.mono_l k
    · intro y0 y1 y2
      unfold impl_TimeNumbers.j0
      repeat' first
      | (with_reducible exact ih0 _ _ _)
      | (with_reducible exact LeO.refl _)
      | (with_reducible exact LeO.none _)
      | (with_reducible refine LeO.ite ?_ ?_)
      | (with_reducible refine LeO.bind ?_ (fun _ => ?_))
      | exact ih0 _ _ _
      | exact LeO.none _
      | refine LeO.ite ?_ ?_
      | refine LeO.bind ?_ (fun _ => ?_)
theorem impl_TimeNumbers.mono : ∀ a0 a1 a2 a3 a4 a5 a6 k, LeO (impl_TimeNumbers.f k a0 a1 a2 a3 a4 a5 a6) (impl_TimeNumbers.f (k + 1) a0 a1 a2 a3 a4 a5 a6) := by
  intro a0 a1 a2 a3 a4 a5 a6 k
  have ih0 := impl_TimeNumbers.mono_l k
  unfold impl_TimeNumbers.f
  repeat' first
      | (with_reducible exact ih0 _ _ _)
      | (with_reducible exact LeO.refl _)
      | (with_reducible exact LeO.none _)
      | (with_reducible refine LeO.ite ?_ ?_)
      | (with_reducible refine LeO.bind ?_ (fun _ => ?_))
      | exact ih0 _ _ _
      | exact LeO.none _
      | refine LeO.ite ?_ ?_
      | refine LeO.bind ?_ (fun _ => ?_)
def impl_TimeNumbers.T4 : Bool × List (List Nat × List Nat) := (true, [([], []), ([0], [0]), ([], []), ([2, 1], [2]), ([], []), ([4, 3], [4]), ([], []), ([6, 5], [6]), ([1, 7, 0, 1], [1]), ([3, 8, 0, 1, 2, 3, 8], [3]), ([5, 9, 0, 1, 2, 3, 4, 5, 8, 9], [5]), ([7, 10, 0, 1, 2, 3, 4, 5, 6, 7, 8, 9, 10], [7]), ([11, 0, 1, 2, 3, 4, 5, 6, 7, 8, 9, 10, 11], [])])
def impl_TimeNumbers.B4 : List Nat := [0, 1, 0, 7, 0, 31, 0, 127, 255, 511, 1023, 2047, 4095]
theorem impl_TimeNumbers.tab4 : rtab .any (opsOf Try.f17 4) = impl_TimeNumbers.T4 := by kernel_rfl
theorem impl_TimeNumbers.bits4 : waitsOk impl_TimeNumbers.T4.2 impl_TimeNumbers.B4 = true := by kernel_rfl
set_option maxHeartbeats 8000000 in
set_option maxRecDepth 100000 in
theorem impl_TimeNumbers.calls (k : Nat) (a0_0 : Int) (a0_1 : Int) (a0_2 : Int) (a0_3 : Int) (a0_4 : Int) (a0_5 : Int) (a0_6 : Int) (r1 : Int) (r2 : Int) (r3 : Int) (r4 : Int) (r5 : Int) (w : World) (h : impl_TimeNumbers.f k a0_0 a0_1 a0_2 a0_3 a0_4 a0_5 a0_6 = some (r1, r2, r3, r4, r5)) :
    Calls Try.prog 17 #[.agg #[.int .i64 a0_0, .int .i64 a0_1, .int .i64 a0_2, .int .i64 a0_3, .int .i64 a0_4, .int .i64 a0_5, .int .i64 a0_6]] w fun e w' => e = .returned (.tuple #[.int .i64 r1, .int .i64 r2, .int .i64 r3, .int .i64 r4, .int .i64 r5]) ∧ Below w.heap.size w w' := by
  have hu23 := Try.underlying23
  have hu42 := Try.underlying42
  have HB := Aside0.mk (Below.refl w.heap.size w)
  have H : ((impl_timeOf.f a0_0 a0_1 a0_2 a0_3 a0_4 a0_5 a0_6).bind fun bt221 => (if bt221.2.2 = true then ((zztime_Time_Year.f bt221.1 bt221.2.1).bind fun t225 => (if t225 < 1 then (impl_TimeNumbers.j0 k true bt221.1 bt221.2.1) else ((zztime_Time_Year.f bt221.1 bt221.2.1).bind fun t226 => (impl_TimeNumbers.j0 k (decide (t226 > 9999)) bt221.1 bt221.2.1)))) else (impl_TimeNumbers.j0 k true bt221.1 bt221.2.1))) = some (r1, r2, r3, r4, r5) := h
  clear h
  replace H := Option.bind_eq_some_iff.mp H
  obtain ⟨⟨t221, t222, t223⟩, A20, H⟩ := H
  replace H : (if t223 = true then ((zztime_Time_Year.f t221 t222).bind fun t225 => (if t225 < 1 then (impl_TimeNumbers.j0 k true t221 t222) else ((zztime_Time_Year.f t221 t222).bind fun t226 => (impl_TimeNumbers.j0 k (decide (t226 > 9999)) t221 t222)))) else (impl_TimeNumbers.j0 k true t221 t222)) = some (r1, r2, r3, r4, r5) := H
  have A2 := Aside0.mk A20
  clear A20
  have HC3 := Aside0.mk H
  clear H
  go_enter Try.func17, Try.ntmps17
  go_upto_region 2 with (first | ((with_reducible refine gate_dst (N := 1) rfl ?_); refine box_event ?hg (N := 1) ?hd (cs := #[.int .i64 a0_0, .int .i64 a0_1, .int .i64 a0_2, .int .i64 a0_3, .int .i64 a0_4, .int .i64 a0_5, .int .i64 a0_6]) (t := 23) ?hr ?_; (case hd => rfl); (case hg => rfl); (case hr => first | (go_simp; done) | (go_simp; rfl)); intro gb220 hg w4 hbox hb; have n0_ := Aside0.mk (below_step (by repeat (first | (with_reducible first | exact HB.out | apply below_alloc | apply pw_below_drewN | apply below_drew1) | exact HB.out)) hb); have n1_ := Aside0.mk (hbox); have n2_ := Aside0.mk ((by rw [hg]; exact (below_size (by repeat (first | (with_reducible first | exact HB.out | apply below_alloc | apply pw_below_drewN | apply below_drew1) | exact HB.out))) : w.heap.size ≤ gb220)); have n3_ := Aside0.mk ((by rw [hg]; exact (below_size (by repeat (first | (with_reducible first | exact HB.out | apply below_alloc | apply pw_below_drewN | apply below_drew1) | exact HB.out))) : w.heap.size ≤ gb220)); clear HB; have HB := n0_; have BK220 := n1_; have GW220 := n2_; have GE220 := n3_; clear n0_ n1_ n2_ n3_; clear hb hbox hg; have hcz5_0 : w4.cell? ⟨gb220, 0, none⟩ = some (.int .i64 a0_0) := (blk_cell BK220.out 0).trans rfl; have hcz5_1 : w4.cell? ⟨gb220, 1, none⟩ = some (.int .i64 a0_1) := (blk_cell BK220.out 1).trans rfl; have hcz5_2 : w4.cell? ⟨gb220, 2, none⟩ = some (.int .i64 a0_2) := (blk_cell BK220.out 2).trans rfl; have hcz5_3 : w4.cell? ⟨gb220, 3, none⟩ = some (.int .i64 a0_3) := (blk_cell BK220.out 3).trans rfl; have hcz5_4 : w4.cell? ⟨gb220, 4, none⟩ = some (.int .i64 a0_4) := (blk_cell BK220.out 4).trans rfl; have hcz5_5 : w4.cell? ⟨gb220, 5, none⟩ = some (.int .i64 a0_5) := (blk_cell BK220.out 5).trans rfl; have hcz5_6 : w4.cell? ⟨gb220, 6, none⟩ = some (.int .i64 a0_6) := (blk_cell BK220.out 6).trans rfl; have hfz5_0 := blk_frozen BK220.out 0; have hfz5_1 := blk_frozen BK220.out 1; have hfz5_2 := blk_frozen BK220.out 2; have hfz5_3 := blk_frozen BK220.out 3; have hfz5_4 := blk_frozen BK220.out 4; have hfz5_5 := blk_frozen BK220.out 5; have hfz5_6 := blk_frozen BK220.out 6) | ((with_reducible refine gate_callee (f := 23) rfl ?_); refine goesL_ (some 11) rfl rfl Try.func23 (by kernel_rfl) rfl #[.agg #[.int .i64 a0_0, .int .i64 a0_1, .int .i64 a0_2, .int .i64 a0_3, .int .i64 a0_4, .int .i64 a0_5, .int .i64 a0_6]] rfl (by (try simp only [List.map_toArray, List.map_cons, List.map_nil]); first | done | rfl | (simp only [List.length_drop, List.length_take]; rfl)) ?_; (with_reducible refine (impl_timeOf.calls a0_0 a0_1 a0_2 a0_3 a0_4 a0_5 a0_6 t221 t222 t223 _ A2.out).mono ?_); rintro e w6 ⟨rfl, hb⟩; refine ⟨_, rfl, ?_⟩; have n0_ := Aside0.mk (blk_below (g := gb220) (o := .cells #[.int .i64 a0_0, .int .i64 a0_1, .int .i64 a0_2, .int .i64 a0_3, .int .i64 a0_4, .int .i64 a0_5, .int .i64 a0_6] 23 (0, 0)) (by (with_reducible repeat (first | refine blk_drewN ?_ _ | refine blk_drew ?_ | refine blk_alloc ?_ _)); exact BK220.out) hb); have n1_ := Aside0.mk (below_step (by repeat (first | (with_reducible first | exact HB.out | apply below_alloc | apply pw_below_drewN | apply below_drew1 | refine below_set ?_ GE220.out) | exact HB.out)) hb); clear BK220; clear HB; have BK220 := n0_; have HB := n1_; clear n0_ n1_; (try clear hb); (try clear hb2); (try clear hk); (try clear hi)) | ((with_reducible refine gate_dst (N := 7) rfl ?_); refine box_event ?hg (N := 7) ?hd (cs := #[.int .i64 0, .int .i64 0]) (t := 42) ?hr ?_; (case hd => rfl); (case hg => rfl); (case hr => first | (go_simp; done) | (go_simp; rfl)); intro gb224 hg w7 hbox hb; have n0_ := Aside0.mk (blk_below (g := gb220) (o := .cells #[.int .i64 a0_0, .int .i64 a0_1, .int .i64 a0_2, .int .i64 a0_3, .int .i64 a0_4, .int .i64 a0_5, .int .i64 a0_6] 23 (0, 0)) (by (with_reducible repeat (first | refine blk_drewN ?_ _ | refine blk_drew ?_ | refine blk_alloc ?_ _)); exact BK220.out) hb); have n1_ := Aside0.mk (below_step (by repeat (first | (with_reducible first | exact HB.out | apply below_alloc | apply pw_below_drewN | apply below_drew1 | refine below_set ?_ GE220.out) | exact HB.out)) hb); have n2_ := Aside0.mk (hbox); have n3_ := Aside0.mk ((by rw [hg]; exact (below_size (by repeat (first | (with_reducible first | exact HB.out | apply below_alloc | apply pw_below_drewN | apply below_drew1 | refine below_set ?_ GE220.out) | exact HB.out))) : w.heap.size ≤ gb224)); have n4_ := Aside0.mk ((by rw [hg]; exact (below_size (by repeat (first | (with_reducible first | exact HB.out | apply below_alloc | apply pw_below_drewN | apply below_drew1 | refine below_set ?_ GE220.out) | exact HB.out))) : w.heap.size ≤ gb224)); have n5_ := Aside0.mk ((by rw [hg]; exact Nat.ne_of_lt (blk_lt (g := gb220) (o := .cells #[.int .i64 a0_0, .int .i64 a0_1, .int .i64 a0_2, .int .i64 a0_3, .int .i64 a0_4, .int .i64 a0_5, .int .i64 a0_6] 23 (0, 0)) (by (with_reducible repeat (first | refine blk_drewN ?_ _ | refine blk_drew ?_ | refine blk_alloc ?_ _)); exact BK220.out)) : gb220 ≠ gb224)); have n6_ := Aside0.mk ((by rw [hg]; exact Nat.ne_of_gt (blk_lt (g := gb220) (o := .cells #[.int .i64 a0_0, .int .i64 a0_1, .int .i64 a0_2, .int .i64 a0_3, .int .i64 a0_4, .int .i64 a0_5, .int .i64 a0_6] 23 (0, 0)) (by (with_reducible repeat (first | refine blk_drewN ?_ _ | refine blk_drew ?_ | refine blk_alloc ?_ _)); exact BK220.out)) : gb224 ≠ gb220)); clear BK220; clear HB; have BK220 := n0_; have HB := n1_; have BK224 := n2_; have GW224 := n3_; have GE224 := n4_; have NB220_224 := n5_; have NB224_220 := n6_; clear n0_ n1_ n2_ n3_ n4_ n5_ n6_; clear hb hbox hg; have hnb8 := NB224_220.out; have hnc8 := NB220_224.out; have hcz9_0 : w7.cell? ⟨gb224, 0, none⟩ = some (.int .i64 0) := (blk_cell BK224.out 0).trans rfl; have hcz9_1 : w7.cell? ⟨gb224, 1, none⟩ = some (.int .i64 0) := (blk_cell BK224.out 1).trans rfl; have hfz9_0 := blk_frozen BK224.out 0; have hfz9_1 := blk_frozen BK224.out 1))
  (try simp only [Act.put, List.setIfInBounds_toArray, List.set_cons_zero, List.set_cons_succ])
  go_cut [25] (fun v25 wc => ∃ (kq : Nat) (x25_2 : Bool), v25 = .bool x25_2 ∧ Aside0 (impl_TimeNumbers.j0 kq x25_2 t221 t222 = some (r1, r2, r3, r4, r5)) ∧ Aside0 (kq ≤ k) ∧ Aside0 (wc.heap[gb220]? = some (.cells #[.int .i64 a0_0, .int .i64 a0_1, .int .i64 a0_2, .int .i64 a0_3, .int .i64 a0_4, .int .i64 a0_5, .int .i64 a0_6] 23 (0, 0))) ∧ Aside0 (wc.heap[gb224]? = some (.cells #[.int .i64 t221, .int .i64 t222] 42 (0, 0))) ∧ Aside0 (Below w.heap.size w wc))
  case first =>
    have H := HC3.out
    clear HC3
    by_cases c10 : t223 = true
    · subst c10
      have H1 : ((zztime_Time_Year.f t221 t222).bind fun t225 => (if t225 < 1 then (impl_TimeNumbers.j0 k true t221 t222) else ((zztime_Time_Year.f t221 t222).bind fun t226 => (impl_TimeNumbers.j0 k (decide (t226 > 9999)) t221 t222)))) = some (r1, r2, r3, r4, r5) := by rw [if_pos rfl] at H; exact H
      clear H
      have H := H1
      clear H1
      replace H := Option.bind_eq_some_iff.mp H
      obtain ⟨t225, A110, H⟩ := H
      replace H : (if t225 < 1 then (impl_TimeNumbers.j0 k true t221 t222) else ((zztime_Time_Year.f t221 t222).bind fun t226 => (impl_TimeNumbers.j0 k (decide (t226 > 9999)) t221 t222))) = some (r1, r2, r3, r4, r5) := H
      have A11 := Aside0.mk A110
      clear A110
      by_cases c12 : t225 < 1
      · rw [if_pos c12] at H
        have c12b0 : decide (t225 < 1) = true := decide_eq_true c12
        clear c12
        (first | rw [c12b0] | (simp only [i64_w, i32_w]; rw [c12b0]) | skip)
        have H' := Aside0.mk H
        clear H
        have hnb13 := NB224_220.out
        have hnc13 := NB220_224.out
        have hcz14_0 : w7.cell? ⟨gb224, 0, none⟩ = some (.int .i64 0) := (blk_cell BK224.out 0).trans rfl
        have hcz14_1 : w7.cell? ⟨gb224, 1, none⟩ = some (.int .i64 0) := (blk_cell BK224.out 1).trans rfl
        have hfz14_0 := blk_frozen BK224.out 0
        have hfz14_1 := blk_frozen BK224.out 1
        go_wp2_with (first | (go_at_call 31; (with_reducible refine (zztime_Time_Year.calls t221 t222 t225 _ A11.out).mono ?_); rintro e w15 ⟨rfl, hb⟩; have n0_ := Aside0.mk (blk_below (g := gb220) (o := .cells #[.int .i64 a0_0, .int .i64 a0_1, .int .i64 a0_2, .int .i64 a0_3, .int .i64 a0_4, .int .i64 a0_5, .int .i64 a0_6] 23 (0, 0)) (by (with_reducible repeat (first | refine blk_drewN ?_ _ | refine blk_drew ?_ | refine blk_alloc ?_ _)); refine blk_far ?_ NB220_224.out _; (with_reducible repeat (first | refine blk_drewN ?_ _ | refine blk_drew ?_ | refine blk_alloc ?_ _)); refine blk_far ?_ NB220_224.out _; (with_reducible repeat (first | refine blk_drewN ?_ _ | refine blk_drew ?_ | refine blk_alloc ?_ _)); exact BK220.out) hb); have n1_ := Aside0.mk (blk_below (g := gb224) (o := .cells #[.int .i64 t221, .int .i64 t222] 42 (0, 0)) (by (with_reducible repeat (first | refine blk_drewN ?_ _ | refine blk_drew ?_ | refine blk_alloc ?_ _)); refine blk_put (cs := #[.int .i64 t221, .int .i64 0]) ?_ 1 _ rfl; (with_reducible repeat (first | refine blk_drewN ?_ _ | refine blk_drew ?_ | refine blk_alloc ?_ _)); refine blk_put (cs := #[.int .i64 0, .int .i64 0]) ?_ 0 _ rfl; (with_reducible repeat (first | refine blk_drewN ?_ _ | refine blk_drew ?_ | refine blk_alloc ?_ _)); exact BK224.out) hb); have n2_ := Aside0.mk (below_step (by repeat (first | (with_reducible first | exact HB.out | apply below_alloc | apply pw_below_drewN | apply below_drew1 | refine below_set ?_ GE220.out | refine below_set ?_ GE224.out) | exact HB.out)) hb); clear BK220; clear BK224; clear HB; have BK220 := n0_; have BK224 := n1_; have HB := n2_; clear n0_ n1_ n2_; (try clear hb); (try clear hb2); (try clear hk); (try clear hi)))
        go_meet
        case rel => exact ⟨_, (true), (by first | rfl | (simp; done) | (simp [*]; done)), H', ⟨by first | omega | exact Nat.le_refl _⟩, ⟨by (with_reducible repeat (first | refine blk_drewN ?_ _ | refine blk_drew ?_ | refine blk_alloc ?_ _)); exact BK220.out⟩, ⟨by (with_reducible repeat (first | refine blk_drewN ?_ _ | refine blk_drew ?_ | refine blk_alloc ?_ _)); exact BK224.out⟩, ⟨by repeat (first | (with_reducible first | exact HB.out | apply below_alloc | apply pw_below_drewN | apply below_drew1 | refine below_set ?_ GE220.out | refine below_set ?_ GE224.out) | exact HB.out)⟩⟩
      · rw [if_neg c12] at H
        have c12b0 : decide (t225 < 1) = false := decide_eq_false c12
        clear c12
        (first | rw [c12b0] | (simp only [i64_w, i32_w]; rw [c12b0]) | skip)
        replace H := Option.bind_eq_some_iff.mp H
        obtain ⟨t226, A160, H⟩ := H
        replace H : (impl_TimeNumbers.j0 k (decide (t226 > 9999)) t221 t222) = some (r1, r2, r3, r4, r5) := H
        have A16 := Aside0.mk A160
        clear A160
        have H' := Aside0.mk H
        clear H
        have hnb17 := NB224_220.out
        have hnc17 := NB220_224.out
        have hcz18_0 : w7.cell? ⟨gb224, 0, none⟩ = some (.int .i64 0) := (blk_cell BK224.out 0).trans rfl
        have hcz18_1 : w7.cell? ⟨gb224, 1, none⟩ = some (.int .i64 0) := (blk_cell BK224.out 1).trans rfl
        have hfz18_0 := blk_frozen BK224.out 0
        have hfz18_1 := blk_frozen BK224.out 1
        go_wp2_with (first | (go_at_call 31; (with_reducible refine (zztime_Time_Year.calls t221 t222 t225 _ A11.out).mono ?_); rintro e w19 ⟨rfl, hb⟩; have n0_ := Aside0.mk (blk_below (g := gb220) (o := .cells #[.int .i64 a0_0, .int .i64 a0_1, .int .i64 a0_2, .int .i64 a0_3, .int .i64 a0_4, .int .i64 a0_5, .int .i64 a0_6] 23 (0, 0)) (by (with_reducible repeat (first | refine blk_drewN ?_ _ | refine blk_drew ?_ | refine blk_alloc ?_ _)); refine blk_far ?_ NB220_224.out _; (with_reducible repeat (first | refine blk_drewN ?_ _ | refine blk_drew ?_ | refine blk_alloc ?_ _)); refine blk_far ?_ NB220_224.out _; (with_reducible repeat (first | refine blk_drewN ?_ _ | refine blk_drew ?_ | refine blk_alloc ?_ _)); exact BK220.out) hb); have n1_ := Aside0.mk (blk_below (g := gb224) (o := .cells #[.int .i64 t221, .int .i64 t222] 42 (0, 0)) (by (with_reducible repeat (first | refine blk_drewN ?_ _ | refine blk_drew ?_ | refine blk_alloc ?_ _)); refine blk_put (cs := #[.int .i64 t221, .int .i64 0]) ?_ 1 _ rfl; (with_reducible repeat (first | refine blk_drewN ?_ _ | refine blk_drew ?_ | refine blk_alloc ?_ _)); refine blk_put (cs := #[.int .i64 0, .int .i64 0]) ?_ 0 _ rfl; (with_reducible repeat (first | refine blk_drewN ?_ _ | refine blk_drew ?_ | refine blk_alloc ?_ _)); exact BK224.out) hb); have n2_ := Aside0.mk (below_step (by repeat (first | (with_reducible first | exact HB.out | apply below_alloc | apply pw_below_drewN | apply below_drew1 | refine below_set ?_ GE220.out | refine below_set ?_ GE224.out) | exact HB.out)) hb); clear BK220; clear BK224; clear HB; have BK220 := n0_; have BK224 := n1_; have HB := n2_; clear n0_ n1_ n2_; (try clear hb); (try clear hb2); (try clear hk); (try clear hi); have hcz20_0 : w19.cell? ⟨gb224, 0, none⟩ = some (.int .i64 t221) := (blk_cell BK224.out 0).trans rfl; have hcz20_1 : w19.cell? ⟨gb224, 1, none⟩ = some (.int .i64 t222) := (blk_cell BK224.out 1).trans rfl; have hfz20_0 := blk_frozen BK224.out 0; have hfz20_1 := blk_frozen BK224.out 1) | (go_at_call 31; (with_reducible refine (zztime_Time_Year.calls t221 t222 t226 _ A16.out).mono ?_); rintro e w21 ⟨rfl, hb⟩; have n0_ := Aside0.mk (blk_below (g := gb220) (o := .cells #[.int .i64 a0_0, .int .i64 a0_1, .int .i64 a0_2, .int .i64 a0_3, .int .i64 a0_4, .int .i64 a0_5, .int .i64 a0_6] 23 (0, 0)) (by (with_reducible repeat (first | refine blk_drewN ?_ _ | refine blk_drew ?_ | refine blk_alloc ?_ _)); exact BK220.out) hb); have n1_ := Aside0.mk (blk_below (g := gb224) (o := .cells #[.int .i64 t221, .int .i64 t222] 42 (0, 0)) (by (with_reducible repeat (first | refine blk_drewN ?_ _ | refine blk_drew ?_ | refine blk_alloc ?_ _)); exact BK224.out) hb); have n2_ := Aside0.mk (below_step (by repeat (first | (with_reducible first | exact HB.out | apply below_alloc | apply pw_below_drewN | apply below_drew1 | refine below_set ?_ GE220.out | refine below_set ?_ GE224.out) | exact HB.out)) hb); clear BK220; clear BK224; clear HB; have BK220 := n0_; have BK224 := n1_; have HB := n2_; clear n0_ n1_ n2_; (try clear hb); (try clear hb2); (try clear hk); (try clear hi)))
        go_meet
        case rel => exact ⟨_, (decide (t226 > 9999)), (by first | rfl | (simp; done) | (simp [*]; done)), H', ⟨by first | omega | exact Nat.le_refl _⟩, ⟨by (with_reducible repeat (first | refine blk_drewN ?_ _ | refine blk_drew ?_ | refine blk_alloc ?_ _)); exact BK220.out⟩, ⟨by (with_reducible repeat (first | refine blk_drewN ?_ _ | refine blk_drew ?_ | refine blk_alloc ?_ _)); exact BK224.out⟩, ⟨by repeat (first | (with_reducible first | exact HB.out | apply below_alloc | apply pw_below_drewN | apply below_drew1 | refine below_set ?_ GE220.out | refine below_set ?_ GE224.out) | exact HB.out)⟩⟩
    · replace c10 := Bool.eq_false_iff.mpr c10
      subst c10
      have H1 : (impl_TimeNumbers.j0 k true t221 t222) = some (r1, r2, r3, r4, r5) := by rw [if_neg (show ¬ (false = true) by decide)] at H; exact H
      clear H
      have H := H1
      clear H1
      have H' := Aside0.mk H
      clear H
      go_wp2
      go_meet
      case rel => exact ⟨_, (true), (by first | rfl | (simp; done) | (simp [*]; done)), H', ⟨by first | omega | exact Nat.le_refl _⟩, ⟨by (with_reducible repeat (first | refine blk_drewN ?_ _ | refine blk_drew ?_ | refine blk_alloc ?_ _)); refine blk_far ?_ NB220_224.out _; (with_reducible repeat (first | refine blk_drewN ?_ _ | refine blk_drew ?_ | refine blk_alloc ?_ _)); refine blk_far ?_ NB220_224.out _; (with_reducible repeat (first | refine blk_drewN ?_ _ | refine blk_drew ?_ | refine blk_alloc ?_ _)); exact BK220.out⟩, ⟨by (with_reducible repeat (first | refine blk_drewN ?_ _ | refine blk_drew ?_ | refine blk_alloc ?_ _)); refine blk_put (cs := #[.int .i64 t221, .int .i64 0]) ?_ 1 _ rfl; (with_reducible repeat (first | refine blk_drewN ?_ _ | refine blk_drew ?_ | refine blk_alloc ?_ _)); refine blk_put (cs := #[.int .i64 0, .int .i64 0]) ?_ 0 _ rfl; (with_reducible repeat (first | refine blk_drewN ?_ _ | refine blk_drew ?_ | refine blk_alloc ?_ _)); exact BK224.out⟩, ⟨by repeat (first | (with_reducible first | exact HB.out | apply below_alloc | apply pw_below_drewN | apply below_drew1 | refine below_set ?_ GE220.out | refine below_set ?_ GE224.out) | exact HB.out)⟩⟩
  case rest =>
    clear HC3
    try clear c1
    try clear c2
    try clear p2
    try clear c8
    try clear c10
    try clear c12
    try clear c12b0
    try clear c13
    try clear c17
    try clear hcz14_0
    try clear hcz14_1
    try clear hcz18_0
    try clear hcz18_1
    try clear hcz20_0
    try clear hcz20_1
    try clear hcz5_0
    try clear hcz5_1
    try clear hcz5_2
    try clear hcz5_3
    try clear hcz5_4
    try clear hcz5_5
    try clear hcz5_6
    try clear hcz9_0
    try clear hcz9_1
    try clear hfz14_0
    try clear hfz14_1
    try clear hfz18_0
    try clear hfz18_1
    try clear hfz20_0
    try clear hfz20_1
    try clear hfz5_0
    try clear hfz5_1
    try clear hfz5_2
    try clear hfz5_3
    try clear hfz5_4
    try clear hfz5_5
    try clear hfz5_6
    try clear hfz9_0
    try clear hfz9_1
    obtain ⟨kq, x25_2, rfl, HA, HJ2, BK220, BK224, HB⟩ := hcut
    cases kq with
    | zero => exact absurd HA.out (by simp [impl_TimeNumbers.j0])
    | succ kj2 =>
      have H := HA.out
      clear HA
      simp only [impl_TimeNumbers.j0] at H
      by_cases c22 : x25_2 = true
      · subst c22
        have H1 : (some (0, 0, 0, 0, 3)) = some (r1, r2, r3, r4, r5) := by rw [if_pos rfl] at H; exact H
        clear H
        have H := H1
        clear H1
        simp only [Option.some.injEq, Prod.mk.injEq] at H
        obtain ⟨rfl, rfl, rfl, rfl, rfl⟩ := H
        go_wp2
        refine bodyPost_ret (results_list (rs := [.tmp 2, .tmp 3, .tmp 4, .tmp 5, .tmp 6]) rfl (by simp) (.tmp (.tmp (.tmp (.tmp (.tmp .nil)))))) rfl ?_
        exact ⟨by first | rfl | (simp [errW_none, errW_some] <;> rfl) | (simp [*, errW_none, errW_some] <;> rfl), by repeat (first | (with_reducible first | exact HB.out | apply below_alloc | apply pw_below_drewN | apply below_drew1 | refine below_set ?_ GE220.out | refine below_set ?_ GE224.out) | exact HB.out)⟩
      · replace c22 := Bool.eq_false_iff.mpr c22
        subst c22
        have H1 : ((encoding_ZzLongdateOf.f t221 t222).bind fun t227 => ((encoding_ZzSeconddateOf.f t221 t222).bind fun t228 => ((encoding_ZzDaydateOf.f t221 t222).bind fun t229 => ((encoding_ZzSecondtimeOf.f t221 t222).bind fun t230 => (some (t227, t228, t229, t230, 0)))))) = some (r1, r2, r3, r4, r5) := by rw [if_neg (show ¬ (false = true) by decide)] at H; exact H
        clear H
        have H := H1
        clear H1
        replace H := Option.bind_eq_some_iff.mp H
        obtain ⟨t227, A230, H⟩ := H
        replace H : ((encoding_ZzSeconddateOf.f t221 t222).bind fun t228 => ((encoding_ZzDaydateOf.f t221 t222).bind fun t229 => ((encoding_ZzSecondtimeOf.f t221 t222).bind fun t230 => (some (t227, t228, t229, t230, 0))))) = some (r1, r2, r3, r4, r5) := H
        have A23 := Aside0.mk A230
        clear A230
        replace H := Option.bind_eq_some_iff.mp H
        obtain ⟨t228, A240, H⟩ := H
        replace H : ((encoding_ZzDaydateOf.f t221 t222).bind fun t229 => ((encoding_ZzSecondtimeOf.f t221 t222).bind fun t230 => (some (t227, t228, t229, t230, 0)))) = some (r1, r2, r3, r4, r5) := H
        have A24 := Aside0.mk A240
        clear A240
        replace H := Option.bind_eq_some_iff.mp H
        obtain ⟨t229, A250, H⟩ := H
        replace H : ((encoding_ZzSecondtimeOf.f t221 t222).bind fun t230 => (some (t227, t228, t229, t230, 0))) = some (r1, r2, r3, r4, r5) := H
        have A25 := Aside0.mk A250
        clear A250
        replace H := Option.bind_eq_some_iff.mp H
        obtain ⟨t230, A260, H⟩ := H
        replace H : (some (t227, t228, t229, t230, 0)) = some (r1, r2, r3, r4, r5) := H
        have A26 := Aside0.mk A260
        clear A260
        simp only [Option.some.injEq, Prod.mk.injEq] at H
        obtain ⟨rfl, rfl, rfl, rfl, rfl⟩ := H
        try go_wp2
        have n0_ := Aside0.mk (blk_drew BK220.out)
        have n1_ := Aside0.mk (blk_drew BK224.out)
        have n2_ := Aside0.mk (below_drew1 HB.out)
        clear BK220
        clear BK224
        clear HB
        have BK220 := n0_
        have BK224 := n1_
        have HB := n2_
        clear n0_ n1_ n2_
        refine start_ (n := 13) (S := fun w' => w'.cell? ⟨gb224, 0, none⟩ = some (.int .i64 t221) ∧ w'.cell? ⟨gb224, 1, none⟩ = some (.int .i64 t222)) (ds := []) #[false, false, false, false, false, false, false, false, false, false, false, false, false] (by kernel_rfl) rfl rfl ⟨(blk_cell BK224.out 0).trans rfl, (blk_cell BK224.out 1).trans rfl⟩ (fun hHeld => ?_); refine with_tabW impl_TimeNumbers.tab4 impl_TimeNumbers.bits4 (fun HT_ HW_ => ?_)
        generalize wc.drew = w27 at BK220 BK224 HB hHeld ⊢
        refine take_ (i := 0) (N := some 26) (v := ?_) (a' := ?_) #[true, false, false, false, false, false, false, false, false, false, false, false, false] rfl rfl (take_ofW HT_.out HW_.out (by kernel_rfl)) (fun _ _ _ h => h) (Or.inl ⟨by rfl, ?_⟩) hHeld ?_ ?_
        rotate_left
        · rintro w' ⟨s0, s1⟩
          go_simp
          with_reducible rfl
        rotate_left
        · simp only [Act.put, List.setIfInBounds_toArray, List.set_cons_zero, List.set_cons_succ, i64_w, i32_w]
          rfl
        refine take_ (i := 2) (N := some 28) (v := ?_) (a' := ?_) #[true, false, true, false, false, false, false, false, false, false, false, false, false] rfl rfl (take_ofW HT_.out HW_.out (by kernel_rfl)) (fun _ _ _ h => h) (Or.inl ⟨by rfl, ?_⟩) hHeld ?_ ?_
        rotate_left
        · rintro w' ⟨s0, s1⟩
          go_simp
          with_reducible rfl
        rotate_left
        · simp only [Act.put, List.setIfInBounds_toArray, List.set_cons_zero, List.set_cons_succ, i64_w, i32_w]
          rfl
        refine take_ (i := 4) (N := some 30) (v := ?_) (a' := ?_) #[true, false, true, false, true, false, false, false, false, false, false, false, false] rfl rfl (take_ofW HT_.out HW_.out (by kernel_rfl)) (fun _ _ _ h => h) (Or.inl ⟨by rfl, ?_⟩) hHeld ?_ ?_
        rotate_left
        · rintro w' ⟨s0, s1⟩
          go_simp
          with_reducible rfl
        rotate_left
        · simp only [Act.put, List.setIfInBounds_toArray, List.set_cons_zero, List.set_cons_succ, i64_w, i32_w]
          rfl
        refine take_ (i := 6) (N := some 32) (v := ?_) (a' := ?_) #[true, false, true, false, true, false, true, false, false, false, false, false, false] rfl rfl (take_ofW HT_.out HW_.out (by kernel_rfl)) (fun _ _ _ h => h) (Or.inl ⟨by rfl, ?_⟩) hHeld ?_ ?_
        rotate_left
        · rintro w' ⟨s0, s1⟩
          go_simp
          with_reducible rfl
        rotate_left
        · simp only [Act.put, List.setIfInBounds_toArray, List.set_cons_zero, List.set_cons_succ, i64_w, i32_w]
          rfl
        refine one_ (i := 1) (N := some 27) #[true, true, true, false, true, false, true, false, false, false, false, false, false] rfl rfl (one_of HT_.out (by kernel_rfl)) (by decide) (fun K hK => ?_)
        refine goes_ Try.func32 (by kernel_rfl) rfl #[.agg #[.int .i64 t221, .int .i64 t222]] (by rfl) rfl rfl (by (try simp only [List.map_toArray, List.map_cons, List.map_nil]); first | done | rfl | (simp only [List.length_drop, List.length_take]; rfl)) ?_
        with_reducible refine (encoding_ZzLongdateOf.calls t221 t222 t227 _ A23.out).mono ?_
        rintro e w28 ⟨rfl, hb⟩
        refine ⟨_, rfl, ?_⟩
        have n0_ := Aside0.mk (blk_below (g := gb220) (o := .cells #[.int .i64 a0_0, .int .i64 a0_1, .int .i64 a0_2, .int .i64 a0_3, .int .i64 a0_4, .int .i64 a0_5, .int .i64 a0_6] 23 (0, 0)) (by (with_reducible repeat (first | refine blk_drewN ?_ _ | refine blk_drew ?_ | refine blk_alloc ?_ _)); exact BK220.out) hb)
        have n1_ := Aside0.mk (blk_below (g := gb224) (o := .cells #[.int .i64 t221, .int .i64 t222] 42 (0, 0)) (by (with_reducible repeat (first | refine blk_drewN ?_ _ | refine blk_drew ?_ | refine blk_alloc ?_ _)); exact BK224.out) hb)
        have n2_ := Aside0.mk (below_step (by repeat (first | (with_reducible first | exact HB.out | apply below_alloc | apply pw_below_drewN | apply below_drew1 | refine below_set ?_ GE220.out | refine below_set ?_ GE224.out) | exact HB.out)) hb)
        clear BK220
        clear BK224
        clear HB
        have BK220 := n0_
        have BK224 := n1_
        have HB := n2_
        clear n0_ n1_ n2_
        (try clear hb)
        (try clear hb2)
        (try clear hk)
        (try clear hi)
        refine hK.out _ _ ⟨(blk_cell BK224.out 0).trans rfl, (blk_cell BK224.out 1).trans rfl⟩ (fun hHeld => ?_)
        clear hK K
        refine norm_ (a' := ?_) ?_ ?_
        rotate_left
        · show Act.put _ (some 27) _ = _
          simp only [Act.put, List.setIfInBounds_toArray, List.set_cons_zero, List.set_cons_succ, i64_w, i32_w]
          rfl
        refine one_ (i := 3) (N := some 29) #[true, true, true, true, true, false, true, false, false, false, false, false, false] rfl rfl (one_of HT_.out (by kernel_rfl)) (by decide) (fun K hK => ?_)
        refine goes_ Try.func33 (by kernel_rfl) rfl #[.agg #[.int .i64 t221, .int .i64 t222]] (by rfl) rfl rfl (by (try simp only [List.map_toArray, List.map_cons, List.map_nil]); first | done | rfl | (simp only [List.length_drop, List.length_take]; rfl)) ?_
        with_reducible refine (encoding_ZzSeconddateOf.calls t221 t222 t228 _ A24.out).mono ?_
        rintro e w29 ⟨rfl, hb⟩
        refine ⟨_, rfl, ?_⟩
        have n0_ := Aside0.mk (blk_below (g := gb220) (o := .cells #[.int .i64 a0_0, .int .i64 a0_1, .int .i64 a0_2, .int .i64 a0_3, .int .i64 a0_4, .int .i64 a0_5, .int .i64 a0_6] 23 (0, 0)) (by (with_reducible repeat (first | refine blk_drewN ?_ _ | refine blk_drew ?_ | refine blk_alloc ?_ _)); exact BK220.out) hb)
        have n1_ := Aside0.mk (blk_below (g := gb224) (o := .cells #[.int .i64 t221, .int .i64 t222] 42 (0, 0)) (by (with_reducible repeat (first | refine blk_drewN ?_ _ | refine blk_drew ?_ | refine blk_alloc ?_ _)); exact BK224.out) hb)
        have n2_ := Aside0.mk (below_step (by repeat (first | (with_reducible first | exact HB.out | apply below_alloc | apply pw_below_drewN | apply below_drew1 | refine below_set ?_ GE220.out | refine below_set ?_ GE224.out) | exact HB.out)) hb)
        clear BK220
        clear BK224
        clear HB
        have BK220 := n0_
        have BK224 := n1_
        have HB := n2_
        clear n0_ n1_ n2_
        (try clear hb)
        (try clear hb2)
        (try clear hk)
        (try clear hi)
        refine hK.out _ _ ⟨(blk_cell BK224.out 0).trans rfl, (blk_cell BK224.out 1).trans rfl⟩ (fun hHeld => ?_)
        clear hK K
        refine norm_ (a' := ?_) ?_ ?_
        rotate_left
        · show Act.put _ (some 29) _ = _
          simp only [Act.put, List.setIfInBounds_toArray, List.set_cons_zero, List.set_cons_succ, i64_w, i32_w]
          rfl
        refine one_ (i := 5) (N := some 31) #[true, true, true, true, true, true, true, false, false, false, false, false, false] rfl rfl (one_of HT_.out (by kernel_rfl)) (by decide) (fun K hK => ?_)
        refine goes_ Try.func34 (by kernel_rfl) rfl #[.agg #[.int .i64 t221, .int .i64 t222]] (by rfl) rfl rfl (by (try simp only [List.map_toArray, List.map_cons, List.map_nil]); first | done | rfl | (simp only [List.length_drop, List.length_take]; rfl)) ?_
        with_reducible refine (encoding_ZzDaydateOf.calls t221 t222 t229 _ A25.out).mono ?_
        rintro e w30 ⟨rfl, hb⟩
        refine ⟨_, rfl, ?_⟩
        have n0_ := Aside0.mk (blk_below (g := gb220) (o := .cells #[.int .i64 a0_0, .int .i64 a0_1, .int .i64 a0_2, .int .i64 a0_3, .int .i64 a0_4, .int .i64 a0_5, .int .i64 a0_6] 23 (0, 0)) (by (with_reducible repeat (first | refine blk_drewN ?_ _ | refine blk_drew ?_ | refine blk_alloc ?_ _)); exact BK220.out) hb)
        have n1_ := Aside0.mk (blk_below (g := gb224) (o := .cells #[.int .i64 t221, .int .i64 t222] 42 (0, 0)) (by (with_reducible repeat (first | refine blk_drewN ?_ _ | refine blk_drew ?_ | refine blk_alloc ?_ _)); exact BK224.out) hb)
        have n2_ := Aside0.mk (below_step (by repeat (first | (with_reducible first | exact HB.out | apply below_alloc | apply pw_below_drewN | apply below_drew1 | refine below_set ?_ GE220.out | refine below_set ?_ GE224.out) | exact HB.out)) hb)
        clear BK220
        clear BK224
        clear HB
        have BK220 := n0_
        have BK224 := n1_
        have HB := n2_
        clear n0_ n1_ n2_
        (try clear hb)
        (try clear hb2)
        (try clear hk)
        (try clear hi)
        refine hK.out _ _ ⟨(blk_cell BK224.out 0).trans rfl, (blk_cell BK224.out 1).trans rfl⟩ (fun hHeld => ?_)
        clear hK K
        refine norm_ (a' := ?_) ?_ ?_
        rotate_left
        · show Act.put _ (some 31) _ = _
          simp only [Act.put, List.setIfInBounds_toArray, List.set_cons_zero, List.set_cons_succ, i64_w, i32_w]
          rfl
        refine one_ (i := 7) (N := some 33) #[true, true, true, true, true, true, true, true, false, false, false, false, false] rfl rfl (one_of HT_.out (by kernel_rfl)) (by decide) (fun K hK => ?_)
        refine goes_ Try.func35 (by kernel_rfl) rfl #[.agg #[.int .i64 t221, .int .i64 t222]] (by rfl) rfl rfl (by (try simp only [List.map_toArray, List.map_cons, List.map_nil]); first | done | rfl | (simp only [List.length_drop, List.length_take]; rfl)) ?_
        with_reducible refine (encoding_ZzSecondtimeOf.calls t221 t222 t230 _ A26.out).mono ?_
        rintro e w31 ⟨rfl, hb⟩
        refine ⟨_, rfl, ?_⟩
        have n0_ := Aside0.mk (blk_below (g := gb220) (o := .cells #[.int .i64 a0_0, .int .i64 a0_1, .int .i64 a0_2, .int .i64 a0_3, .int .i64 a0_4, .int .i64 a0_5, .int .i64 a0_6] 23 (0, 0)) (by (with_reducible repeat (first | refine blk_drewN ?_ _ | refine blk_drew ?_ | refine blk_alloc ?_ _)); exact BK220.out) hb)
        have n1_ := Aside0.mk (blk_below (g := gb224) (o := .cells #[.int .i64 t221, .int .i64 t222] 42 (0, 0)) (by (with_reducible repeat (first | refine blk_drewN ?_ _ | refine blk_drew ?_ | refine blk_alloc ?_ _)); exact BK224.out) hb)
        have n2_ := Aside0.mk (below_step (by repeat (first | (with_reducible first | exact HB.out | apply below_alloc | apply pw_below_drewN | apply below_drew1 | refine below_set ?_ GE220.out | refine below_set ?_ GE224.out) | exact HB.out)) hb)
        clear BK220
        clear BK224
        clear HB
        have BK220 := n0_
        have BK224 := n1_
        have HB := n2_
        clear n0_ n1_ n2_
        (try clear hb)
        (try clear hb2)
        (try clear hk)
        (try clear hi)
        refine hK.out _ _ ⟨(blk_cell BK224.out 0).trans rfl, (blk_cell BK224.out 1).trans rfl⟩ (fun hHeld => ?_)
        clear hK K
        refine norm_ (a' := ?_) ?_ ?_
        rotate_left
        · show Act.put _ (some 33) _ = _
          simp only [Act.put, List.setIfInBounds_toArray, List.set_cons_zero, List.set_cons_succ, i64_w, i32_w]
          rfl
        refine pure_ (i := 8) (N := some 2) (v := ?_) (a' := ?_) #[true, true, true, true, true, true, true, true, true, false, false, false, false] rfl rfl (any_of HT_.out (by kernel_rfl)) (fun _ _ _ h => h) (Or.inl ⟨by rfl, ?_⟩) ?_ ?_
        rotate_left
        · intro w'
          go_simp
          with_reducible rfl
        rotate_left
        · simp only [Act.put, List.setIfInBounds_toArray, List.set_cons_zero, List.set_cons_succ, i64_w, i32_w]
          rfl
        refine pure_ (i := 9) (N := some 3) (v := ?_) (a' := ?_) #[true, true, true, true, true, true, true, true, true, true, false, false, false] rfl rfl (any_of HT_.out (by kernel_rfl)) (fun _ _ _ h => h) (Or.inl ⟨by rfl, ?_⟩) ?_ ?_
        rotate_left
        · intro w'
          go_simp
          with_reducible rfl
        rotate_left
        · simp only [Act.put, List.setIfInBounds_toArray, List.set_cons_zero, List.set_cons_succ, i64_w, i32_w]
          rfl
        refine pure_ (i := 10) (N := some 4) (v := ?_) (a' := ?_) #[true, true, true, true, true, true, true, true, true, true, true, false, false] rfl rfl (any_of HT_.out (by kernel_rfl)) (fun _ _ _ h => h) (Or.inl ⟨by rfl, ?_⟩) ?_ ?_
        rotate_left
        · intro w'
          go_simp
          with_reducible rfl
        rotate_left
        · simp only [Act.put, List.setIfInBounds_toArray, List.set_cons_zero, List.set_cons_succ, i64_w, i32_w]
          rfl
        refine pure_ (i := 11) (N := some 5) (v := ?_) (a' := ?_) #[true, true, true, true, true, true, true, true, true, true, true, true, false] rfl rfl (any_of HT_.out (by kernel_rfl)) (fun _ _ _ h => h) (Or.inl ⟨by rfl, ?_⟩) ?_ ?_
        rotate_left
        · intro w'
          go_simp
          with_reducible rfl
        rotate_left
        · simp only [Act.put, List.setIfInBounds_toArray, List.set_cons_zero, List.set_cons_succ, i64_w, i32_w]
          rfl
        refine pure_ (i := 12) (N := some 6) (v := ?_) (a' := ?_) #[true, true, true, true, true, true, true, true, true, true, true, true, true] rfl rfl (any_of HT_.out (by kernel_rfl)) (fun _ _ _ h => h) (Or.inl ⟨by rfl, ?_⟩) ?_ ?_
        rotate_left
        · intro w'
          go_simp
          with_reducible rfl
        rotate_left
        · simp only [Act.put, List.setIfInBounds_toArray, List.set_cons_zero, List.set_cons_succ, i64_w, i32_w]
          rfl
        refine done_ (done_of HT_.out (by kernel_rfl)) ?_
        try go_wp2
        refine bodyPost_ret (results_list (rs := [.tmp 2, .tmp 3, .tmp 4, .tmp 5, .tmp 6]) rfl (by simp) (.tmp (.tmp (.tmp (.tmp (.tmp .nil)))))) rfl ?_
        exact ⟨by first | rfl | (simp [errW_none, errW_some] <;> rfl) | (simp [*, errW_none, errW_some] <;> rfl), by repeat (first | (with_reducible first | exact HB.out | apply below_alloc | apply pw_below_drewN | apply below_drew1 | refine below_set ?_ GE220.out | refine below_set ?_ GE224.out) | exact HB.out)⟩

/-! ### impl_timeBack: function 24 -/
def impl_timeBack.f (a0_0 : Int) (a0_1 : Int) : Option (Int × Int × Int × Int × Int × Int × Int) := (zztime_Time_Date.f a0_0 a0_1).bind fun bt233 => ((zztime_Time_Hour.f a0_0 a0_1).bind fun t236 => ((zztime_Time_Minute.f a0_0 a0_1).bind fun t237 => ((zztime_Time_Second.f a0_0 a0_1).bind fun t238 => ((zztime_Time_Nanosecond.f a0_0 a0_1).bind fun t239 => (some (bt233.1, bt233.2.1, bt233.2.2, t236, t237, t238, t239))))))
def impl_timeBack.T2 : Bool × List (List Nat × List Nat) := (true, [([], []), ([], []), ([], []), ([], []), ([3], [3]), ([], []), ([5, 4], [5]), ([], []), ([7, 6], [7]), ([], []), ([9, 8], [9]), ([0, 1, 2, 4, 6, 8, 10], [0, 1, 2, 4, 6, 8, 10]), ([11, 10, 0, 1, 2, 3, 4, 5, 6, 7, 8, 9, 10, 11], [11])])
def impl_timeBack.B2 : List Nat := [0, 0, 0, 0, 8, 0, 56, 0, 248, 0, 1016, 2047, 4095]
theorem impl_timeBack.tab2 : rtab .any (opsOf Try.f24 2) = impl_timeBack.T2 := by kernel_rfl
theorem impl_timeBack.bits2 : waitsOk impl_timeBack.T2.2 impl_timeBack.B2 = true := by kernel_rfl
set_option maxHeartbeats 8000000 in
set_option maxRecDepth 100000 in
theorem impl_timeBack.calls (a0_0 : Int) (a0_1 : Int) (r1 : Int) (r2 : Int) (r3 : Int) (r4 : Int) (r5 : Int) (r6 : Int) (r7 : Int) (w : World) (h : impl_timeBack.f a0_0 a0_1 = some (r1, r2, r3, r4, r5, r6, r7)) :
    Calls Try.prog 24 #[.agg #[.int .i64 a0_0, .int .i64 a0_1]] w fun e w' => e = .returned (.agg #[.int .i64 r1, .int .i64 r2, .int .i64 r3, .int .i64 r4, .int .i64 r5, .int .i64 r6, .int .i64 r7]) ∧ Below w.heap.size w w' := by
  have hu42 := Try.underlying42
  have hu23 := Try.underlying23
  have HB := Aside0.mk (Below.refl w.heap.size w)
  have H : ((zztime_Time_Date.f a0_0 a0_1).bind fun bt233 => ((zztime_Time_Hour.f a0_0 a0_1).bind fun t236 => ((zztime_Time_Minute.f a0_0 a0_1).bind fun t237 => ((zztime_Time_Second.f a0_0 a0_1).bind fun t238 => ((zztime_Time_Nanosecond.f a0_0 a0_1).bind fun t239 => (some (bt233.1, bt233.2.1, bt233.2.2, t236, t237, t238, t239))))))) = some (r1, r2, r3, r4, r5, r6, r7) := h
  clear h
  replace H := Option.bind_eq_some_iff.mp H
  obtain ⟨⟨t233, t234, t235⟩, A20, H⟩ := H
  replace H : ((zztime_Time_Hour.f a0_0 a0_1).bind fun t236 => ((zztime_Time_Minute.f a0_0 a0_1).bind fun t237 => ((zztime_Time_Second.f a0_0 a0_1).bind fun t238 => ((zztime_Time_Nanosecond.f a0_0 a0_1).bind fun t239 => (some (t233, t234, t235, t236, t237, t238, t239)))))) = some (r1, r2, r3, r4, r5, r6, r7) := H
  have A2 := Aside0.mk A20
  clear A20
  replace H := Option.bind_eq_some_iff.mp H
  obtain ⟨t236, A30, H⟩ := H
  replace H : ((zztime_Time_Minute.f a0_0 a0_1).bind fun t237 => ((zztime_Time_Second.f a0_0 a0_1).bind fun t238 => ((zztime_Time_Nanosecond.f a0_0 a0_1).bind fun t239 => (some (t233, t234, t235, t236, t237, t238, t239))))) = some (r1, r2, r3, r4, r5, r6, r7) := H
  have A3 := Aside0.mk A30
  clear A30
  replace H := Option.bind_eq_some_iff.mp H
  obtain ⟨t237, A40, H⟩ := H
  replace H : ((zztime_Time_Second.f a0_0 a0_1).bind fun t238 => ((zztime_Time_Nanosecond.f a0_0 a0_1).bind fun t239 => (some (t233, t234, t235, t236, t237, t238, t239)))) = some (r1, r2, r3, r4, r5, r6, r7) := H
  have A4 := Aside0.mk A40
  clear A40
  replace H := Option.bind_eq_some_iff.mp H
  obtain ⟨t238, A50, H⟩ := H
  replace H : ((zztime_Time_Nanosecond.f a0_0 a0_1).bind fun t239 => (some (t233, t234, t235, t236, t237, t238, t239))) = some (r1, r2, r3, r4, r5, r6, r7) := H
  have A5 := Aside0.mk A50
  clear A50
  replace H := Option.bind_eq_some_iff.mp H
  obtain ⟨t239, A60, H⟩ := H
  replace H : (some (t233, t234, t235, t236, t237, t238, t239)) = some (r1, r2, r3, r4, r5, r6, r7) := H
  have A6 := Aside0.mk A60
  clear A60
  simp only [Option.some.injEq, Prod.mk.injEq] at H
  obtain ⟨rfl, rfl, rfl, rfl, rfl, rfl, rfl⟩ := H
  go_enter Try.func24, Try.ntmps24
  try go_wp2_with (first | ((with_reducible refine gate_dst (N := 1) rfl ?_); refine box_event ?hg (N := 1) ?hd (cs := #[.int .i64 a0_0, .int .i64 a0_1]) (t := 42) ?hr ?_; (case hd => rfl); (case hg => rfl); (case hr => first | (go_simp; done) | (go_simp; rfl)); intro gb231 hg w7 hbox hb; have n0_ := Aside0.mk (below_step (by repeat (first | (with_reducible first | exact HB.out | apply below_alloc | apply pw_below_drewN | apply below_drew1) | exact HB.out)) hb); have n1_ := Aside0.mk (hbox); have n2_ := Aside0.mk ((by rw [hg]; exact (below_size (by repeat (first | (with_reducible first | exact HB.out | apply below_alloc | apply pw_below_drewN | apply below_drew1) | exact HB.out))) : w.heap.size ≤ gb231)); have n3_ := Aside0.mk ((by rw [hg]; exact (below_size (by repeat (first | (with_reducible first | exact HB.out | apply below_alloc | apply pw_below_drewN | apply below_drew1) | exact HB.out))) : w.heap.size ≤ gb231)); clear HB; have HB := n0_; have BK231 := n1_; have GW231 := n2_; have GE231 := n3_; clear n0_ n1_ n2_ n3_; clear hb hbox hg) | ((with_reducible refine gate_dst (N := 2) rfl ?_); refine box_event ?hg (N := 2) ?hd (cs := #[.int .i64 0, .int .i64 0, .int .i64 0, .int .i64 0, .int .i64 0, .int .i64 0, .int .i64 0]) (t := 23) ?hr ?_; (case hd => rfl); (case hg => rfl); (case hr => first | (go_simp; done) | (go_simp; rfl)); intro gb232 hg w8 hbox hb; have n0_ := Aside0.mk (blk_below (g := gb231) (o := .cells #[.int .i64 a0_0, .int .i64 a0_1] 42 (0, 0)) (by (with_reducible repeat (first | refine blk_drewN ?_ _ | refine blk_drew ?_ | refine blk_alloc ?_ _)); exact BK231.out) hb); have n1_ := Aside0.mk (below_step (by repeat (first | (with_reducible first | exact HB.out | apply below_alloc | apply pw_below_drewN | apply below_drew1 | refine below_set ?_ GE231.out) | exact HB.out)) hb); have n2_ := Aside0.mk (hbox); have n3_ := Aside0.mk ((by rw [hg]; exact (below_size (by repeat (first | (with_reducible first | exact HB.out | apply below_alloc | apply pw_below_drewN | apply below_drew1 | refine below_set ?_ GE231.out) | exact HB.out))) : w.heap.size ≤ gb232)); have n4_ := Aside0.mk ((by rw [hg]; exact (below_size (by repeat (first | (with_reducible first | exact HB.out | apply below_alloc | apply pw_below_drewN | apply below_drew1 | refine below_set ?_ GE231.out) | exact HB.out))) : w.heap.size ≤ gb232)); have n5_ := Aside0.mk ((by rw [hg]; exact Nat.ne_of_lt (blk_lt (g := gb231) (o := .cells #[.int .i64 a0_0, .int .i64 a0_1] 42 (0, 0)) (by (with_reducible repeat (first | refine blk_drewN ?_ _ | refine blk_drew ?_ | refine blk_alloc ?_ _)); exact BK231.out)) : gb231 ≠ gb232)); have n6_ := Aside0.mk ((by rw [hg]; exact Nat.ne_of_gt (blk_lt (g := gb231) (o := .cells #[.int .i64 a0_0, .int .i64 a0_1] 42 (0, 0)) (by (with_reducible repeat (first | refine blk_drewN ?_ _ | refine blk_drew ?_ | refine blk_alloc ?_ _)); exact BK231.out)) : gb232 ≠ gb231)); clear BK231; clear HB; have BK231 := n0_; have HB := n1_; have BK232 := n2_; have GW232 := n3_; have GE232 := n4_; have NB231_232 := n5_; have NB232_231 := n6_; clear n0_ n1_ n2_ n3_ n4_ n5_ n6_; clear hb hbox hg; have hnb9 := NB231_232.out; have hnc9 := NB232_231.out; have hcz10_0 : w8.cell? ⟨gb231, 0, none⟩ = some (.int .i64 a0_0) := (blk_cell BK231.out 0).trans rfl; have hcz10_1 : w8.cell? ⟨gb231, 1, none⟩ = some (.int .i64 a0_1) := (blk_cell BK231.out 1).trans rfl; have hfz10_0 := blk_frozen BK231.out 0; have hfz10_1 := blk_frozen BK231.out 1) | ((with_reducible refine gate_callee (f := 41) rfl ?_); refine goesL_ (some 8) rfl rfl Try.func41 (by kernel_rfl) rfl #[.agg #[.int .i64 a0_0, .int .i64 a0_1]] rfl (by (try simp only [List.map_toArray, List.map_cons, List.map_nil]); first | done | rfl | (simp only [List.length_drop, List.length_take]; rfl)) ?_; (with_reducible refine (zztime_Time_Date.calls a0_0 a0_1 t233 t234 t235 _ A2.out).mono ?_); rintro e w11 ⟨rfl, hb⟩; refine ⟨_, rfl, ?_⟩; have n0_ := Aside0.mk (blk_below (g := gb231) (o := .cells #[.int .i64 a0_0, .int .i64 a0_1] 42 (0, 0)) (by (with_reducible repeat (first | refine blk_drewN ?_ _ | refine blk_drew ?_ | refine blk_alloc ?_ _)); exact BK231.out) hb); have n1_ := Aside0.mk (blk_below (g := gb232) (o := .cells #[.int .i64 0, .int .i64 0, .int .i64 0, .int .i64 0, .int .i64 0, .int .i64 0, .int .i64 0] 23 (0, 0)) (by (with_reducible repeat (first | refine blk_drewN ?_ _ | refine blk_drew ?_ | refine blk_alloc ?_ _)); exact BK232.out) hb); have n2_ := Aside0.mk (below_step (by repeat (first | (with_reducible first | exact HB.out | apply below_alloc | apply pw_below_drewN | apply below_drew1 | refine below_set ?_ GE231.out | refine below_set ?_ GE232.out) | exact HB.out)) hb); clear BK231; clear BK232; clear HB; have BK231 := n0_; have BK232 := n1_; have HB := n2_; clear n0_ n1_ n2_; (try clear hb); (try clear hb2); (try clear hk); (try clear hi)))
  have n0_ := Aside0.mk (blk_drew BK231.out)
  have n1_ := Aside0.mk (blk_drew BK232.out)
  have n2_ := Aside0.mk (below_drew1 HB.out)
  clear BK231
  clear BK232
  clear HB
  have BK231 := n0_
  have BK232 := n1_
  have HB := n2_
  clear n0_ n1_ n2_
  refine start_ (n := 13) (S := fun w' => w'.cell? ⟨gb231, 0, none⟩ = some (.int .i64 a0_0) ∧ w'.cell? ⟨gb231, 1, none⟩ = some (.int .i64 a0_1)) (ds := []) #[false, false, false, false, false, false, false, false, false, false, false, false, false] (by kernel_rfl) rfl rfl ⟨(blk_cell BK231.out 0).trans rfl, (blk_cell BK231.out 1).trans rfl⟩ (fun hHeld => ?_); refine with_tabW impl_timeBack.tab2 impl_timeBack.bits2 (fun HT_ HW_ => ?_)
  generalize w11.drew = w12 at BK231 BK232 HB hHeld ⊢
  refine pure_ (i := 0) (N := some 12) (v := ?_) (a' := ?_) #[true, false, false, false, false, false, false, false, false, false, false, false, false] rfl rfl (any_of HT_.out (by kernel_rfl)) (fun _ _ _ h => h) (Or.inl ⟨by rfl, ?_⟩) ?_ ?_
  rotate_left
  · intro w'
    go_simp
    with_reducible rfl
  rotate_left
  · simp only [Act.put, List.setIfInBounds_toArray, List.set_cons_zero, List.set_cons_succ, i64_w, i32_w]
    rfl
  refine pure_ (i := 1) (N := some 13) (v := ?_) (a' := ?_) #[true, true, false, false, false, false, false, false, false, false, false, false, false] rfl rfl (any_of HT_.out (by kernel_rfl)) (fun _ _ _ h => h) (Or.inl ⟨by rfl, ?_⟩) ?_ ?_
  rotate_left
  · intro w'
    go_simp
    with_reducible rfl
  rotate_left
  · simp only [Act.put, List.setIfInBounds_toArray, List.set_cons_zero, List.set_cons_succ, i64_w, i32_w]
    rfl
  refine pure_ (i := 2) (N := some 14) (v := ?_) (a' := ?_) #[true, true, true, false, false, false, false, false, false, false, false, false, false] rfl rfl (any_of HT_.out (by kernel_rfl)) (fun _ _ _ h => h) (Or.inl ⟨by rfl, ?_⟩) ?_ ?_
  rotate_left
  · intro w'
    go_simp
    with_reducible rfl
  rotate_left
  · simp only [Act.put, List.setIfInBounds_toArray, List.set_cons_zero, List.set_cons_succ, i64_w, i32_w]
    rfl
  refine take_ (i := 3) (N := some 15) (v := ?_) (a' := ?_) #[true, true, true, true, false, false, false, false, false, false, false, false, false] rfl rfl (take_ofW HT_.out HW_.out (by kernel_rfl)) (fun _ _ _ h => h) (Or.inl ⟨by rfl, ?_⟩) hHeld ?_ ?_
  rotate_left
  · rintro w' ⟨s0, s1⟩
    go_simp
    with_reducible rfl
  rotate_left
  · simp only [Act.put, List.setIfInBounds_toArray, List.set_cons_zero, List.set_cons_succ, i64_w, i32_w]
    rfl
  refine take_ (i := 5) (N := some 17) (v := ?_) (a' := ?_) #[true, true, true, true, false, true, false, false, false, false, false, false, false] rfl rfl (take_ofW HT_.out HW_.out (by kernel_rfl)) (fun _ _ _ h => h) (Or.inl ⟨by rfl, ?_⟩) hHeld ?_ ?_
  rotate_left
  · rintro w' ⟨s0, s1⟩
    go_simp
    with_reducible rfl
  rotate_left
  · simp only [Act.put, List.setIfInBounds_toArray, List.set_cons_zero, List.set_cons_succ, i64_w, i32_w]
    rfl
  refine take_ (i := 7) (N := some 19) (v := ?_) (a' := ?_) #[true, true, true, true, false, true, false, true, false, false, false, false, false] rfl rfl (take_ofW HT_.out HW_.out (by kernel_rfl)) (fun _ _ _ h => h) (Or.inl ⟨by rfl, ?_⟩) hHeld ?_ ?_
  rotate_left
  · rintro w' ⟨s0, s1⟩
    go_simp
    with_reducible rfl
  rotate_left
  · simp only [Act.put, List.setIfInBounds_toArray, List.set_cons_zero, List.set_cons_succ, i64_w, i32_w]
    rfl
  refine take_ (i := 9) (N := some 21) (v := ?_) (a' := ?_) #[true, true, true, true, false, true, false, true, false, true, false, false, false] rfl rfl (take_ofW HT_.out HW_.out (by kernel_rfl)) (fun _ _ _ h => h) (Or.inl ⟨by rfl, ?_⟩) hHeld ?_ ?_
  rotate_left
  · rintro w' ⟨s0, s1⟩
    go_simp
    with_reducible rfl
  rotate_left
  · simp only [Act.put, List.setIfInBounds_toArray, List.set_cons_zero, List.set_cons_succ, i64_w, i32_w]
    rfl
  refine one_ (i := 4) (N := some 16) #[true, true, true, true, true, true, false, true, false, true, false, false, false] rfl rfl (one_of HT_.out (by kernel_rfl)) (by decide) (fun K hK => ?_)
  refine goes_ Try.func42 (by kernel_rfl) rfl #[.agg #[.int .i64 a0_0, .int .i64 a0_1]] (by rfl) rfl rfl (by (try simp only [List.map_toArray, List.map_cons, List.map_nil]); first | done | rfl | (simp only [List.length_drop, List.length_take]; rfl)) ?_
  with_reducible refine (zztime_Time_Hour.calls a0_0 a0_1 t236 _ A3.out).mono ?_
  rintro e w13 ⟨rfl, hb⟩
  refine ⟨_, rfl, ?_⟩
  have n0_ := Aside0.mk (blk_below (g := gb231) (o := .cells #[.int .i64 a0_0, .int .i64 a0_1] 42 (0, 0)) (by (with_reducible repeat (first | refine blk_drewN ?_ _ | refine blk_drew ?_ | refine blk_alloc ?_ _)); exact BK231.out) hb)
  have n1_ := Aside0.mk (blk_below (g := gb232) (o := .cells #[.int .i64 0, .int .i64 0, .int .i64 0, .int .i64 0, .int .i64 0, .int .i64 0, .int .i64 0] 23 (0, 0)) (by (with_reducible repeat (first | refine blk_drewN ?_ _ | refine blk_drew ?_ | refine blk_alloc ?_ _)); exact BK232.out) hb)
  have n2_ := Aside0.mk (below_step (by repeat (first | (with_reducible first | exact HB.out | apply below_alloc | apply pw_below_drewN | apply below_drew1 | refine below_set ?_ GE231.out | refine below_set ?_ GE232.out) | exact HB.out)) hb)
  clear BK231
  clear BK232
  clear HB
  have BK231 := n0_
  have BK232 := n1_
  have HB := n2_
  clear n0_ n1_ n2_
  (try clear hb)
  (try clear hb2)
  (try clear hk)
  (try clear hi)
  refine hK.out _ _ ⟨(blk_cell BK231.out 0).trans rfl, (blk_cell BK231.out 1).trans rfl⟩ (fun hHeld => ?_)
  clear hK K
  refine norm_ (a' := ?_) ?_ ?_
  rotate_left
  · show Act.put _ (some 16) _ = _
    simp only [Act.put, List.setIfInBounds_toArray, List.set_cons_zero, List.set_cons_succ, i64_w, i32_w]
    rfl
  refine one_ (i := 6) (N := some 18) #[true, true, true, true, true, true, true, true, false, true, false, false, false] rfl rfl (one_of HT_.out (by kernel_rfl)) (by decide) (fun K hK => ?_)
  refine goes_ Try.func43 (by kernel_rfl) rfl #[.agg #[.int .i64 a0_0, .int .i64 a0_1]] (by rfl) rfl rfl (by (try simp only [List.map_toArray, List.map_cons, List.map_nil]); first | done | rfl | (simp only [List.length_drop, List.length_take]; rfl)) ?_
  with_reducible refine (zztime_Time_Minute.calls a0_0 a0_1 t237 _ A4.out).mono ?_
  rintro e w14 ⟨rfl, hb⟩
  refine ⟨_, rfl, ?_⟩
  have n0_ := Aside0.mk (blk_below (g := gb231) (o := .cells #[.int .i64 a0_0, .int .i64 a0_1] 42 (0, 0)) (by (with_reducible repeat (first | refine blk_drewN ?_ _ | refine blk_drew ?_ | refine blk_alloc ?_ _)); exact BK231.out) hb)
  have n1_ := Aside0.mk (blk_below (g := gb232) (o := .cells #[.int .i64 0, .int .i64 0, .int .i64 0, .int .i64 0, .int .i64 0, .int .i64 0, .int .i64 0] 23 (0, 0)) (by (with_reducible repeat (first | refine blk_drewN ?_ _ | refine blk_drew ?_ | refine blk_alloc ?_ _)); exact BK232.out) hb)
  have n2_ := Aside0.mk (below_step (by repeat (first | (with_reducible first | exact HB.out | apply below_alloc | apply pw_below_drewN | apply below_drew1 | refine below_set ?_ GE231.out | refine below_set ?_ GE232.out) | exact HB.out)) hb)
  clear BK231
  clear BK232
  clear HB
  have BK231 := n0_
  have BK232 := n1_
  have HB := n2_
  clear n0_ n1_ n2_
  (try clear hb)
  (try clear hb2)
  (try clear hk)
  (try clear hi)
  refine hK.out _ _ ⟨(blk_cell BK231.out 0).trans rfl, (blk_cell BK231.out 1).trans rfl⟩ (fun hHeld => ?_)
  clear hK K
  refine norm_ (a' := ?_) ?_ ?_
  rotate_left
  · show Act.put _ (some 18) _ = _
    simp only [Act.put, List.setIfInBounds_toArray, List.set_cons_zero, List.set_cons_succ, i64_w, i32_w]
    rfl
  refine one_ (i := 8) (N := some 20) #[true, true, true, true, true, true, true, true, true, true, false, false, false] rfl rfl (one_of HT_.out (by kernel_rfl)) (by decide) (fun K hK => ?_)
  refine goes_ Try.func44 (by kernel_rfl) rfl #[.agg #[.int .i64 a0_0, .int .i64 a0_1]] (by rfl) rfl rfl (by (try simp only [List.map_toArray, List.map_cons, List.map_nil]); first | done | rfl | (simp only [List.length_drop, List.length_take]; rfl)) ?_
  with_reducible refine (zztime_Time_Second.calls a0_0 a0_1 t238 _ A5.out).mono ?_
  rintro e w15 ⟨rfl, hb⟩
  refine ⟨_, rfl, ?_⟩
  have n0_ := Aside0.mk (blk_below (g := gb231) (o := .cells #[.int .i64 a0_0, .int .i64 a0_1] 42 (0, 0)) (by (with_reducible repeat (first | refine blk_drewN ?_ _ | refine blk_drew ?_ | refine blk_alloc ?_ _)); exact BK231.out) hb)
  have n1_ := Aside0.mk (blk_below (g := gb232) (o := .cells #[.int .i64 0, .int .i64 0, .int .i64 0, .int .i64 0, .int .i64 0, .int .i64 0, .int .i64 0] 23 (0, 0)) (by (with_reducible repeat (first | refine blk_drewN ?_ _ | refine blk_drew ?_ | refine blk_alloc ?_ _)); exact BK232.out) hb)
  have n2_ := Aside0.mk (below_step (by repeat (first | (with_reducible first | exact HB.out | apply below_alloc | apply pw_below_drewN | apply below_drew1 | refine below_set ?_ GE231.out | refine below_set ?_ GE232.out) | exact HB.out)) hb)
  clear BK231
  clear BK232
  clear HB
  have BK231 := n0_
  have BK232 := n1_
  have HB := n2_
  clear n0_ n1_ n2_
  (try clear hb)
  (try clear hb2)
  (try clear hk)
  (try clear hi)
  refine hK.out _ _ ⟨(blk_cell BK231.out 0).trans rfl, (blk_cell BK231.out 1).trans rfl⟩ (fun hHeld => ?_)
  clear hK K
  refine norm_ (a' := ?_) ?_ ?_
  rotate_left
  · show Act.put _ (some 20) _ = _
    simp only [Act.put, List.setIfInBounds_toArray, List.set_cons_zero, List.set_cons_succ, i64_w, i32_w]
    rfl
  refine one_ (i := 10) (N := some 22) #[true, true, true, true, true, true, true, true, true, true, true, false, false] rfl rfl (one_of HT_.out (by kernel_rfl)) (by decide) (fun K hK => ?_)
  refine goes_ Try.func45 (by kernel_rfl) rfl #[.agg #[.int .i64 a0_0, .int .i64 a0_1]] (by rfl) rfl rfl (by (try simp only [List.map_toArray, List.map_cons, List.map_nil]); first | done | rfl | (simp only [List.length_drop, List.length_take]; rfl)) ?_
  with_reducible refine (zztime_Time_Nanosecond.calls a0_0 a0_1 t239 _ A6.out).mono ?_
  rintro e w16 ⟨rfl, hb⟩
  refine ⟨_, rfl, ?_⟩
  have n0_ := Aside0.mk (blk_below (g := gb231) (o := .cells #[.int .i64 a0_0, .int .i64 a0_1] 42 (0, 0)) (by (with_reducible repeat (first | refine blk_drewN ?_ _ | refine blk_drew ?_ | refine blk_alloc ?_ _)); exact BK231.out) hb)
  have n1_ := Aside0.mk (blk_below (g := gb232) (o := .cells #[.int .i64 0, .int .i64 0, .int .i64 0, .int .i64 0, .int .i64 0, .int .i64 0, .int .i64 0] 23 (0, 0)) (by (with_reducible repeat (first | refine blk_drewN ?_ _ | refine blk_drew ?_ | refine blk_alloc ?_ _)); exact BK232.out) hb)
  have n2_ := Aside0.mk (below_step (by repeat (first | (with_reducible first | exact HB.out | apply below_alloc | apply pw_below_drewN | apply below_drew1 | refine below_set ?_ GE231.out | refine below_set ?_ GE232.out) | exact HB.out)) hb)
  clear BK231
  clear BK232
  clear HB
  have BK231 := n0_
  have BK232 := n1_
  have HB := n2_
  clear n0_ n1_ n2_
  (try clear hb)
  (try clear hb2)
  (try clear hk)
  (try clear hi)
  refine hK.out _ _ ⟨(blk_cell BK231.out 0).trans rfl, (blk_cell BK231.out 1).trans rfl⟩ (fun hHeld => ?_)
  clear hK K
  refine norm_ (a' := ?_) ?_ ?_
  rotate_left
  · show Act.put _ (some 22) _ = _
    simp only [Act.put, List.setIfInBounds_toArray, List.set_cons_zero, List.set_cons_succ, i64_w, i32_w]
    rfl
  refine pure_ (i := 11) (N := some 23) (v := ?_) (a' := ?_) #[true, true, true, true, true, true, true, true, true, true, true, true, false] rfl rfl (any_of HT_.out (by kernel_rfl)) (fun _ _ _ h => h) (Or.inl ⟨by rfl, ?_⟩) ?_ ?_
  rotate_left
  · intro w'
    go_simp
    with_reducible rfl
  rotate_left
  · simp only [Act.put, List.setIfInBounds_toArray, List.set_cons_zero, List.set_cons_succ, i64_w, i32_w]
    rfl
  refine one_ (i := 12) (N := none) #[true, true, true, true, true, true, true, true, true, true, true, true, true] rfl rfl (one_of HT_.out (by kernel_rfl)) (by decide) (fun K hK => ?_)
  have hs17 : w16.cell? ⟨gb232, 0, none⟩ = some (.int .i64 0) := (blk_cell BK232.out 0).trans rfl
  have hfs17 := blk_frozen BK232.out 0
  have hns17_0 := NB231_232.out
  have hms17_0 := NB232_231.out
  have hs18 : w16.cell? ⟨gb232, 1, none⟩ = some (.int .i64 0) := (blk_cell BK232.out 1).trans rfl
  have hfs18 := blk_frozen BK232.out 1
  have hns18_0 := NB231_232.out
  have hms18_0 := NB232_231.out
  have hs19 : w16.cell? ⟨gb232, 2, none⟩ = some (.int .i64 0) := (blk_cell BK232.out 2).trans rfl
  have hfs19 := blk_frozen BK232.out 2
  have hns19_0 := NB231_232.out
  have hms19_0 := NB232_231.out
  have hs20 : w16.cell? ⟨gb232, 3, none⟩ = some (.int .i64 0) := (blk_cell BK232.out 3).trans rfl
  have hfs20 := blk_frozen BK232.out 3
  have hns20_0 := NB231_232.out
  have hms20_0 := NB232_231.out
  have hs21 : w16.cell? ⟨gb232, 4, none⟩ = some (.int .i64 0) := (blk_cell BK232.out 4).trans rfl
  have hfs21 := blk_frozen BK232.out 4
  have hns21_0 := NB231_232.out
  have hms21_0 := NB232_231.out
  have hs22 : w16.cell? ⟨gb232, 5, none⟩ = some (.int .i64 0) := (blk_cell BK232.out 5).trans rfl
  have hfs22 := blk_frozen BK232.out 5
  have hns22_0 := NB231_232.out
  have hms22_0 := NB232_231.out
  have hs23 : w16.cell? ⟨gb232, 6, none⟩ = some (.int .i64 0) := (blk_cell BK232.out 6).trans rfl
  have hfs23 := blk_frozen BK232.out 6
  have hns23_0 := NB231_232.out
  have hms23_0 := NB232_231.out
  refine skip_ (w1 := ?_) (by rfl) rfl ?_ ?_
  rotate_left
  · go_simp
    rfl
  refine hK.out _ _ ⟨((cell_far (p := ⟨gb232, _, none⟩) NB231_232.out _).trans (((cell_far (p := ⟨gb232, _, none⟩) NB231_232.out _).trans (((cell_far (p := ⟨gb232, _, none⟩) NB231_232.out _).trans (((cell_far (p := ⟨gb232, _, none⟩) NB231_232.out _).trans (((cell_far (p := ⟨gb232, _, none⟩) NB231_232.out _).trans (((cell_far (p := ⟨gb232, _, none⟩) NB231_232.out _).trans (((cell_far (p := ⟨gb232, _, none⟩) NB231_232.out _).trans (hHeld.1)))))))))))))), ((cell_far (p := ⟨gb232, _, none⟩) NB231_232.out _).trans (((cell_far (p := ⟨gb232, _, none⟩) NB231_232.out _).trans (((cell_far (p := ⟨gb232, _, none⟩) NB231_232.out _).trans (((cell_far (p := ⟨gb232, _, none⟩) NB231_232.out _).trans (((cell_far (p := ⟨gb232, _, none⟩) NB231_232.out _).trans (((cell_far (p := ⟨gb232, _, none⟩) NB231_232.out _).trans (((cell_far (p := ⟨gb232, _, none⟩) NB231_232.out _).trans (hHeld.2))))))))))))))⟩ (fun hHeld => ?_)
  clear hK K
  refine done_ (done_of HT_.out (by kernel_rfl)) ?_
  try go_wp2
  refine bodyPost_ret (results_cell_row rfl _ _ gb232 23 #[.int .i64 t233, .int .i64 t234, .int .i64 t235, .int .i64 t236, .int .i64 t237, .int .i64 t238, .int .i64 t239] (0, 0) _ rfl (by (with_reducible repeat (first | refine blk_drewN ?_ _ | refine blk_drew ?_ | refine blk_alloc ?_ _)); refine blk_put (cs := #[.int .i64 t233, .int .i64 t234, .int .i64 t235, .int .i64 t236, .int .i64 t237, .int .i64 t238, .int .i64 0]) ?_ 6 _ rfl; (with_reducible repeat (first | refine blk_drewN ?_ _ | refine blk_drew ?_ | refine blk_alloc ?_ _)); refine blk_put (cs := #[.int .i64 t233, .int .i64 t234, .int .i64 t235, .int .i64 t236, .int .i64 t237, .int .i64 0, .int .i64 0]) ?_ 5 _ rfl; (with_reducible repeat (first | refine blk_drewN ?_ _ | refine blk_drew ?_ | refine blk_alloc ?_ _)); refine blk_put (cs := #[.int .i64 t233, .int .i64 t234, .int .i64 t235, .int .i64 t236, .int .i64 0, .int .i64 0, .int .i64 0]) ?_ 4 _ rfl; (with_reducible repeat (first | refine blk_drewN ?_ _ | refine blk_drew ?_ | refine blk_alloc ?_ _)); refine blk_put (cs := #[.int .i64 t233, .int .i64 t234, .int .i64 t235, .int .i64 0, .int .i64 0, .int .i64 0, .int .i64 0]) ?_ 3 _ rfl; (with_reducible repeat (first | refine blk_drewN ?_ _ | refine blk_drew ?_ | refine blk_alloc ?_ _)); refine blk_put (cs := #[.int .i64 t233, .int .i64 t234, .int .i64 0, .int .i64 0, .int .i64 0, .int .i64 0, .int .i64 0]) ?_ 2 _ rfl; (with_reducible repeat (first | refine blk_drewN ?_ _ | refine blk_drew ?_ | refine blk_alloc ?_ _)); refine blk_put (cs := #[.int .i64 t233, .int .i64 0, .int .i64 0, .int .i64 0, .int .i64 0, .int .i64 0, .int .i64 0]) ?_ 1 _ rfl; (with_reducible repeat (first | refine blk_drewN ?_ _ | refine blk_drew ?_ | refine blk_alloc ?_ _)); refine blk_put (cs := #[.int .i64 0, .int .i64 0, .int .i64 0, .int .i64 0, .int .i64 0, .int .i64 0, .int .i64 0]) ?_ 0 _ rfl; (with_reducible repeat (first | refine blk_drewN ?_ _ | refine blk_drew ?_ | refine blk_alloc ?_ _)); exact BK232.out) Try.underlying23 rfl (by kernel_rfl)) rfl ?_
  exact ⟨by first | rfl | (simp [errW_none, errW_some] <;> rfl) | (simp [*, errW_none, errW_some] <;> rfl), by repeat (first | (with_reducible first | exact HB.out | apply below_alloc | apply pw_below_drewN | apply below_drew1 | refine below_set ?_ GE231.out | refine below_set ?_ GE232.out) | exact HB.out)⟩

/-! ### encoding_convertDaydateToTime: function 57 -/
def encoding_convertDaydateToTime.f (a0 : Int) : Option (Int × Int) := (julian_DayToTime.f (wrap64 (a0 + 1721423))).bind fun bt241 => (some (bt241.1, bt241.2))
set_option maxHeartbeats 8000000 in
set_option maxRecDepth 100000 in
theorem encoding_convertDaydateToTime.calls (a0 : Int) (r1 : Int) (r2 : Int) (w : World) (h : encoding_convertDaydateToTime.f a0 = some (r1, r2)) :
    Calls Try.prog 57 #[.int .i64 a0] w fun e w' => e = .returned (.agg #[.int .i64 r1, .int .i64 r2]) ∧ Below w.heap.size w w' := by
  have hu42 := Try.underlying42
  have HB := Aside0.mk (Below.refl w.heap.size w)
  have H : ((julian_DayToTime.f (wrap64 (a0 + 1721423))).bind fun bt241 => (some (bt241.1, bt241.2))) = some (r1, r2) := h
  clear h
  replace H := Option.bind_eq_some_iff.mp H
  obtain ⟨⟨t241, t242⟩, A20, H⟩ := H
  replace H : (some (t241, t242)) = some (r1, r2) := H
  have A2 := Aside0.mk A20
  clear A20
  simp only [Option.some.injEq, Prod.mk.injEq] at H
  obtain ⟨rfl, rfl⟩ := H
  go_enter Try.func57, Try.ntmps57
  go_wp2_with (first | ((with_reducible refine gate_dst (N := 2) rfl ?_); refine box_event ?hg (N := 2) ?hd (cs := #[.int .i64 0, .int .i64 0]) (t := 42) ?hr ?_; (case hd => rfl); (case hg => rfl); (case hr => first | (go_simp; done) | (go_simp; rfl)); intro gb240 hg w3 hbox hb; have n0_ := Aside0.mk (below_step (by repeat (first | (with_reducible first | exact HB.out | apply below_alloc | apply pw_below_drewN | apply below_drew1) | exact HB.out)) hb); have n1_ := Aside0.mk (hbox); have n2_ := Aside0.mk ((by rw [hg]; exact (below_size (by repeat (first | (with_reducible first | exact HB.out | apply below_alloc | apply pw_below_drewN | apply below_drew1) | exact HB.out))) : w.heap.size ≤ gb240)); have n3_ := Aside0.mk ((by rw [hg]; exact (below_size (by repeat (first | (with_reducible first | exact HB.out | apply below_alloc | apply pw_below_drewN | apply below_drew1) | exact HB.out))) : w.heap.size ≤ gb240)); clear HB; have HB := n0_; have BK240 := n1_; have GW240 := n2_; have GE240 := n3_; clear n0_ n1_ n2_ n3_; clear hb hbox hg) | ((with_reducible refine gate_callee (f := 28) rfl ?_); refine goesL_ (some 5) rfl rfl Try.func28 (by kernel_rfl) rfl #[.int .i64 (wrap64 (a0 + 1721423))] rfl (by (try simp only [List.map_toArray, List.map_cons, List.map_nil]); first | done | rfl | (simp only [List.length_drop, List.length_take]; rfl)) ?_; (with_reducible refine (julian_DayToTime.calls (wrap64 (a0 + 1721423)) t241 t242 _ A2.out).mono ?_); rintro e w4 ⟨rfl, hb⟩; refine ⟨_, rfl, ?_⟩; have n0_ := Aside0.mk (blk_below (g := gb240) (o := .cells #[.int .i64 0, .int .i64 0] 42 (0, 0)) (by (with_reducible repeat (first | refine blk_drewN ?_ _ | refine blk_drew ?_ | refine blk_alloc ?_ _)); exact BK240.out) hb); have n1_ := Aside0.mk (below_step (by repeat (first | (with_reducible first | exact HB.out | apply below_alloc | apply pw_below_drewN | apply below_drew1 | refine below_set ?_ GE240.out) | exact HB.out)) hb); clear BK240; clear HB; have BK240 := n0_; have HB := n1_; clear n0_ n1_; (try clear hb); (try clear hb2); (try clear hk); (try clear hi); have hcz5_0 : w4.cell? ⟨gb240, 0, none⟩ = some (.int .i64 0) := (blk_cell BK240.out 0).trans rfl; have hcz5_1 : w4.cell? ⟨gb240, 1, none⟩ = some (.int .i64 0) := (blk_cell BK240.out 1).trans rfl; have hfz5_0 := blk_frozen BK240.out 0; have hfz5_1 := blk_frozen BK240.out 1))
  refine bodyPost_ret (results_cell_row rfl _ _ gb240 42 #[.int .i64 t241, .int .i64 t242] (0, 0) _ rfl (by (with_reducible repeat (first | refine blk_drewN ?_ _ | refine blk_drew ?_ | refine blk_alloc ?_ _)); refine blk_put (cs := #[.int .i64 t241, .int .i64 0]) ?_ 1 _ rfl; (with_reducible repeat (first | refine blk_drewN ?_ _ | refine blk_drew ?_ | refine blk_alloc ?_ _)); refine blk_put (cs := #[.int .i64 0, .int .i64 0]) ?_ 0 _ rfl; (with_reducible repeat (first | refine blk_drewN ?_ _ | refine blk_drew ?_ | refine blk_alloc ?_ _)); exact BK240.out) Try.underlying42 rfl (by kernel_rfl)) rfl ?_
  exact ⟨by first | rfl | (simp [errW_none, errW_some] <;> rfl) | (simp [*, errW_none, errW_some] <;> rfl), by repeat (first | (with_reducible first | exact HB.out | apply below_alloc | apply pw_below_drewN | apply below_drew1 | refine below_set ?_ GE240.out) | exact HB.out)⟩

/-! ### zztime_Time_Add: function 61 -/
def zztime_Time_Add.f (a0_0 : Int) (a0_1 : Int) (a1 : Int) : Option (Int × Int) := (zztime_floor.f (wrap64 (a0_1 + (Int.tmod a1 86400000000000))) 86400000000000).bind fun bt245 => (some (wrap64 ((wrap64 (a0_0 + bt245.1)) + (wrap64 (Int.tdiv a1 86400000000000))), bt245.2))
set_option maxHeartbeats 800000 in
set_option maxRecDepth 100000 in
theorem zztime_Time_Add.calls (a0_0 : Int) (a0_1 : Int) (a1 : Int) (r1 : Int) (r2 : Int) (w : World) (h : zztime_Time_Add.f a0_0 a0_1 a1 = some (r1, r2)) :
    Calls Try.prog 61 #[.agg #[.int .i64 a0_0, .int .i64 a0_1], .int .i64 a1] w fun e w' => e = .returned (.agg #[.int .i64 r1, .int .i64 r2]) ∧ Below w.heap.size w w' := by
  unfold zztime_Time_Add.f at h
  obtain ⟨⟨q, m⟩, h1, h2⟩ := Option.bind_eq_some_iff.mp h
  clear h
  simp only [Option.some.injEq, Prod.mk.injEq] at h2
  obtain ⟨rfl, rfl⟩ := h2
  have H := Aside0.mk h1
  clear h1
  go_enter Try.func61, Try.ntmps61
  go_wp2_with (first | (go_at_call 59; refine (zztime_floor.calls _ _ _ _ _ H.out).mono ?_; rintro e w' ⟨rfl, ⟨nd, rfl⟩⟩))
  refine bodyPost_ret (v := .agg #[.int .i64 (wrap64 (wrap64 (a0_0 + q) + wrap64 (a1.tdiv 86400000000000))), .int .i64 m]) (by simp [results, Try.results61, go_sem]) rfl ⟨rfl, ?_⟩
  repeat (first | exact Below.refl _ _ | apply below_alloc | apply pw_below_drewN | (refine Below.setCell ?_ (by simp) _ ))

/-! ### encoding_convertLongdateToTime: function 55 -/
def encoding_convertLongdateToTime.f (a0 : Int) : Option (Int × Int) := (encoding_convertDaydateToTime.f (wrap64 ((wrap64 (Int.tdiv (wrap64 (a0 - 1)) 864000000000)) + 1))).bind fun bt248 => ((zztime_Time_Add.f bt248.1 bt248.2 (wrap64 ((Int.tmod (wrap64 (a0 - 1)) 864000000000) * 100))).bind fun bt251 => (some (bt251.1, bt251.2)))
set_option maxHeartbeats 8000000 in
set_option maxRecDepth 100000 in
theorem encoding_convertLongdateToTime.calls (a0 : Int) (r1 : Int) (r2 : Int) (w : World) (h : encoding_convertLongdateToTime.f a0 = some (r1, r2)) :
    Calls Try.prog 55 #[.int .i64 a0] w fun e w' => e = .returned (.agg #[.int .i64 r1, .int .i64 r2]) ∧ Below w.heap.size w w' := by
  have hu42 := Try.underlying42
  have HB := Aside0.mk (Below.refl w.heap.size w)
  have H : ((encoding_convertDaydateToTime.f (wrap64 ((wrap64 (Int.tdiv (wrap64 (a0 - 1)) 864000000000)) + 1))).bind fun bt248 => ((zztime_Time_Add.f bt248.1 bt248.2 (wrap64 ((Int.tmod (wrap64 (a0 - 1)) 864000000000) * 100))).bind fun bt251 => (some (bt251.1, bt251.2)))) = some (r1, r2) := h
  clear h
  replace H := Option.bind_eq_some_iff.mp H
  obtain ⟨⟨t248, t249⟩, A20, H⟩ := H
  replace H : ((zztime_Time_Add.f t248 t249 (wrap64 ((Int.tmod (wrap64 (a0 - 1)) 864000000000) * 100))).bind fun bt251 => (some (bt251.1, bt251.2))) = some (r1, r2) := H
  have A2 := Aside0.mk A20
  clear A20
  replace H := Option.bind_eq_some_iff.mp H
  obtain ⟨⟨t251, t252⟩, A30, H⟩ := H
  replace H : (some (t251, t252)) = some (r1, r2) := H
  have A3 := Aside0.mk A30
  clear A30
  simp only [Option.some.injEq, Prod.mk.injEq] at H
  obtain ⟨rfl, rfl⟩ := H
  go_enter Try.func55, Try.ntmps55
  go_wp2_with (first | ((with_reducible refine gate_dst (N := 2) rfl ?_); refine box_event ?hg (N := 2) ?hd (cs := #[.int .i64 0, .int .i64 0]) (t := 42) ?hr ?_; (case hd => rfl); (case hg => rfl); (case hr => first | (go_simp; done) | (go_simp; rfl)); intro gb247 hg w4 hbox hb; have n0_ := Aside0.mk (below_step (by repeat (first | (with_reducible first | exact HB.out | apply below_alloc | apply pw_below_drewN | apply below_drew1) | exact HB.out)) hb); have n1_ := Aside0.mk (hbox); have n2_ := Aside0.mk ((by rw [hg]; exact (below_size (by repeat (first | (with_reducible first | exact HB.out | apply below_alloc | apply pw_below_drewN | apply below_drew1) | exact HB.out))) : w.heap.size ≤ gb247)); have n3_ := Aside0.mk ((by rw [hg]; exact (below_size (by repeat (first | (with_reducible first | exact HB.out | apply below_alloc | apply pw_below_drewN | apply below_drew1) | exact HB.out))) : w.heap.size ≤ gb247)); clear HB; have HB := n0_; have BK247 := n1_; have GW247 := n2_; have GE247 := n3_; clear n0_ n1_ n2_ n3_; clear hb hbox hg) | ((with_reducible refine gate_callee (f := 57) rfl ?_); refine goesL_ (some 13) rfl rfl Try.func57 (by kernel_rfl) rfl #[.int .i64 (wrap64 ((wrap64 (Int.tdiv (wrap64 (a0 - 1)) 864000000000)) + 1))] rfl (by (try simp only [List.map_toArray, List.map_cons, List.map_nil]); first | done | rfl | (simp only [List.length_drop, List.length_take]; rfl)) ?_; (with_reducible refine (encoding_convertDaydateToTime.calls (wrap64 ((wrap64 (Int.tdiv (wrap64 (a0 - 1)) 864000000000)) + 1)) t248 t249 _ A2.out).mono ?_); rintro e w5 ⟨rfl, hb⟩; refine ⟨_, rfl, ?_⟩; have n0_ := Aside0.mk (blk_below (g := gb247) (o := .cells #[.int .i64 0, .int .i64 0] 42 (0, 0)) (by (with_reducible repeat (first | refine blk_drewN ?_ _ | refine blk_drew ?_ | refine blk_alloc ?_ _)); exact BK247.out) hb); have n1_ := Aside0.mk (below_step (by repeat (first | (with_reducible first | exact HB.out | apply below_alloc | apply pw_below_drewN | apply below_drew1 | refine below_set ?_ GE247.out) | exact HB.out)) hb); clear BK247; clear HB; have BK247 := n0_; have HB := n1_; clear n0_ n1_; (try clear hb); (try clear hb2); (try clear hk); (try clear hi)) | ((with_reducible refine gate_dst (N := 4) rfl ?_); refine box_event ?hg (N := 4) ?hd (cs := #[.int .i64 0, .int .i64 0]) (t := 42) ?hr ?_; (case hd => rfl); (case hg => rfl); (case hr => first | (go_simp; done) | (go_simp; rfl)); intro gb250 hg w6 hbox hb; have n0_ := Aside0.mk (blk_below (g := gb247) (o := .cells #[.int .i64 0, .int .i64 0] 42 (0, 0)) (by (with_reducible repeat (first | refine blk_drewN ?_ _ | refine blk_drew ?_ | refine blk_alloc ?_ _)); exact BK247.out) hb); have n1_ := Aside0.mk (below_step (by repeat (first | (with_reducible first | exact HB.out | apply below_alloc | apply pw_below_drewN | apply below_drew1 | refine below_set ?_ GE247.out) | exact HB.out)) hb); have n2_ := Aside0.mk (hbox); have n3_ := Aside0.mk ((by rw [hg]; exact (below_size (by repeat (first | (with_reducible first | exact HB.out | apply below_alloc | apply pw_below_drewN | apply below_drew1 | refine below_set ?_ GE247.out) | exact HB.out))) : w.heap.size ≤ gb250)); have n4_ := Aside0.mk ((by rw [hg]; exact (below_size (by repeat (first | (with_reducible first | exact HB.out | apply below_alloc | apply pw_below_drewN | apply below_drew1 | refine below_set ?_ GE247.out) | exact HB.out))) : w.heap.size ≤ gb250)); have n5_ := Aside0.mk ((by rw [hg]; exact Nat.ne_of_lt (blk_lt (g := gb247) (o := .cells #[.int .i64 0, .int .i64 0] 42 (0, 0)) (by (with_reducible repeat (first | refine blk_drewN ?_ _ | refine blk_drew ?_ | refine blk_alloc ?_ _)); exact BK247.out)) : gb247 ≠ gb250)); have n6_ := Aside0.mk ((by rw [hg]; exact Nat.ne_of_gt (blk_lt (g := gb247) (o := .cells #[.int .i64 0, .int .i64 0] 42 (0, 0)) (by (with_reducible repeat (first | refine blk_drewN ?_ _ | refine blk_drew ?_ | refine blk_alloc ?_ _)); exact BK247.out)) : gb250 ≠ gb247)); clear BK247; clear HB; have BK247 := n0_; have HB := n1_; have BK250 := n2_; have GW250 := n3_; have GE250 := n4_; have NB247_250 := n5_; have NB250_247 := n6_; clear n0_ n1_ n2_ n3_ n4_ n5_ n6_; clear hb hbox hg; have hnb7 := NB250_247.out; have hnc7 := NB247_250.out; have hcz8_0 : w6.cell? ⟨gb250, 0, none⟩ = some (.int .i64 0) := (blk_cell BK250.out 0).trans rfl; have hcz8_1 : w6.cell? ⟨gb250, 1, none⟩ = some (.int .i64 0) := (blk_cell BK250.out 1).trans rfl; have hfz8_0 := blk_frozen BK250.out 0; have hfz8_1 := blk_frozen BK250.out 1) | ((with_reducible refine gate_callee (f := 61) rfl ?_); refine goesL_ (some 16) rfl rfl Try.func61 (by kernel_rfl) rfl #[.agg #[.int .i64 t248, .int .i64 t249], .int .i64 (wrap64 ((Int.tmod (wrap64 (a0 - 1)) 864000000000) * 100))] rfl (by (try simp only [List.map_toArray, List.map_cons, List.map_nil]); first | done | rfl | (simp only [List.length_drop, List.length_take]; rfl)) ?_; (with_reducible refine (zztime_Time_Add.calls t248 t249 (wrap64 ((Int.tmod (wrap64 (a0 - 1)) 864000000000) * 100)) t251 t252 _ A3.out).mono ?_); rintro e w9 ⟨rfl, hb⟩; refine ⟨_, rfl, ?_⟩; have n0_ := Aside0.mk (blk_below (g := gb247) (o := .cells #[.int .i64 0, .int .i64 0] 42 (0, 0)) (by (with_reducible repeat (first | refine blk_drewN ?_ _ | refine blk_drew ?_ | refine blk_alloc ?_ _)); refine blk_far ?_ NB247_250.out _; (with_reducible repeat (first | refine blk_drewN ?_ _ | refine blk_drew ?_ | refine blk_alloc ?_ _)); refine blk_far ?_ NB247_250.out _; (with_reducible repeat (first | refine blk_drewN ?_ _ | refine blk_drew ?_ | refine blk_alloc ?_ _)); exact BK247.out) hb); have n1_ := Aside0.mk (blk_below (g := gb250) (o := .cells #[.int .i64 t248, .int .i64 t249] 42 (0, 0)) (by (with_reducible repeat (first | refine blk_drewN ?_ _ | refine blk_drew ?_ | refine blk_alloc ?_ _)); refine blk_put (cs := #[.int .i64 t248, .int .i64 0]) ?_ 1 _ rfl; (with_reducible repeat (first | refine blk_drewN ?_ _ | refine blk_drew ?_ | refine blk_alloc ?_ _)); refine blk_put (cs := #[.int .i64 0, .int .i64 0]) ?_ 0 _ rfl; (with_reducible repeat (first | refine blk_drewN ?_ _ | refine blk_drew ?_ | refine blk_alloc ?_ _)); exact BK250.out) hb); have n2_ := Aside0.mk (below_step (by repeat (first | (with_reducible first | exact HB.out | apply below_alloc | apply pw_below_drewN | apply below_drew1 | refine below_set ?_ GE247.out | refine below_set ?_ GE250.out) | exact HB.out)) hb); clear BK247; clear BK250; clear HB; have BK247 := n0_; have BK250 := n1_; have HB := n2_; clear n0_ n1_ n2_; (try clear hb); (try clear hb2); (try clear hk); (try clear hi); have hcz10_0 : w9.cell? ⟨gb247, 0, none⟩ = some (.int .i64 0) := (blk_cell BK247.out 0).trans rfl; have hcz10_1 : w9.cell? ⟨gb247, 1, none⟩ = some (.int .i64 0) := (blk_cell BK247.out 1).trans rfl; have hfz10_0 := blk_frozen BK247.out 0; have hfz10_1 := blk_frozen BK247.out 1))
  refine bodyPost_ret (results_cell_row rfl _ _ gb247 42 #[.int .i64 t251, .int .i64 t252] (0, 0) _ rfl (by (with_reducible repeat (first | refine blk_drewN ?_ _ | refine blk_drew ?_ | refine blk_alloc ?_ _)); refine blk_put (cs := #[.int .i64 t251, .int .i64 0]) ?_ 1 _ rfl; (with_reducible repeat (first | refine blk_drewN ?_ _ | refine blk_drew ?_ | refine blk_alloc ?_ _)); refine blk_put (cs := #[.int .i64 0, .int .i64 0]) ?_ 0 _ rfl; (with_reducible repeat (first | refine blk_drewN ?_ _ | refine blk_drew ?_ | refine blk_alloc ?_ _)); exact BK247.out) Try.underlying42 rfl (by kernel_rfl)) rfl ?_
  exact ⟨by first | rfl | (simp [errW_none, errW_some] <;> rfl) | (simp [*, errW_none, errW_some] <;> rfl), by repeat (first | (with_reducible first | exact HB.out | apply below_alloc | apply pw_below_drewN | apply below_drew1 | refine below_set ?_ GE247.out | refine below_set ?_ GE250.out) | exact HB.out)⟩

/-! ### encoding_ZzLongdate: function 36 -/
def encoding_ZzLongdate.f (a0 : Int) : Option (Int × Int) := (encoding_convertLongdateToTime.f a0).bind fun bt254 => (some (bt254.1, bt254.2))
set_option maxHeartbeats 8000000 in
set_option maxRecDepth 100000 in
theorem encoding_ZzLongdate.calls (a0 : Int) (r1 : Int) (r2 : Int) (w : World) (h : encoding_ZzLongdate.f a0 = some (r1, r2)) :
    Calls Try.prog 36 #[.int .i64 a0] w fun e w' => e = .returned (.agg #[.int .i64 r1, .int .i64 r2]) ∧ Below w.heap.size w w' := by
  have hu42 := Try.underlying42
  have HB := Aside0.mk (Below.refl w.heap.size w)
  have H : ((encoding_convertLongdateToTime.f a0).bind fun bt254 => (some (bt254.1, bt254.2))) = some (r1, r2) := h
  clear h
  replace H := Option.bind_eq_some_iff.mp H
  obtain ⟨⟨t254, t255⟩, A20, H⟩ := H
  replace H : (some (t254, t255)) = some (r1, r2) := H
  have A2 := Aside0.mk A20
  clear A20
  simp only [Option.some.injEq, Prod.mk.injEq] at H
  obtain ⟨rfl, rfl⟩ := H
  go_enter Try.func36, Try.ntmps36
  go_wp2_with (first | ((with_reducible refine gate_dst (N := 2) rfl ?_); refine box_event ?hg (N := 2) ?hd (cs := #[.int .i64 0, .int .i64 0]) (t := 42) ?hr ?_; (case hd => rfl); (case hg => rfl); (case hr => first | (go_simp; done) | (go_simp; rfl)); intro gb253 hg w3 hbox hb; have n0_ := Aside0.mk (below_step (by repeat (first | (with_reducible first | exact HB.out | apply below_alloc | apply pw_below_drewN | apply below_drew1) | exact HB.out)) hb); have n1_ := Aside0.mk (hbox); have n2_ := Aside0.mk ((by rw [hg]; exact (below_size (by repeat (first | (with_reducible first | exact HB.out | apply below_alloc | apply pw_below_drewN | apply below_drew1) | exact HB.out))) : w.heap.size ≤ gb253)); have n3_ := Aside0.mk ((by rw [hg]; exact (below_size (by repeat (first | (with_reducible first | exact HB.out | apply below_alloc | apply pw_below_drewN | apply below_drew1) | exact HB.out))) : w.heap.size ≤ gb253)); clear HB; have HB := n0_; have BK253 := n1_; have GW253 := n2_; have GE253 := n3_; clear n0_ n1_ n2_ n3_; clear hb hbox hg) | ((with_reducible refine gate_callee (f := 55) rfl ?_); refine goesL_ (some 4) rfl rfl Try.func55 (by kernel_rfl) rfl #[.int .i64 a0] rfl (by (try simp only [List.map_toArray, List.map_cons, List.map_nil]); first | done | rfl | (simp only [List.length_drop, List.length_take]; rfl)) ?_; (with_reducible refine (encoding_convertLongdateToTime.calls a0 t254 t255 _ A2.out).mono ?_); rintro e w4 ⟨rfl, hb⟩; refine ⟨_, rfl, ?_⟩; have n0_ := Aside0.mk (blk_below (g := gb253) (o := .cells #[.int .i64 0, .int .i64 0] 42 (0, 0)) (by (with_reducible repeat (first | refine blk_drewN ?_ _ | refine blk_drew ?_ | refine blk_alloc ?_ _)); exact BK253.out) hb); have n1_ := Aside0.mk (below_step (by repeat (first | (with_reducible first | exact HB.out | apply below_alloc | apply pw_below_drewN | apply below_drew1 | refine below_set ?_ GE253.out) | exact HB.out)) hb); clear BK253; clear HB; have BK253 := n0_; have HB := n1_; clear n0_ n1_; (try clear hb); (try clear hb2); (try clear hk); (try clear hi); have hcz5_0 : w4.cell? ⟨gb253, 0, none⟩ = some (.int .i64 0) := (blk_cell BK253.out 0).trans rfl; have hcz5_1 : w4.cell? ⟨gb253, 1, none⟩ = some (.int .i64 0) := (blk_cell BK253.out 1).trans rfl; have hfz5_0 := blk_frozen BK253.out 0; have hfz5_1 := blk_frozen BK253.out 1))
  refine bodyPost_ret (results_cell_row rfl _ _ gb253 42 #[.int .i64 t254, .int .i64 t255] (0, 0) _ rfl (by (with_reducible repeat (first | refine blk_drewN ?_ _ | refine blk_drew ?_ | refine blk_alloc ?_ _)); refine blk_put (cs := #[.int .i64 t254, .int .i64 0]) ?_ 1 _ rfl; (with_reducible repeat (first | refine blk_drewN ?_ _ | refine blk_drew ?_ | refine blk_alloc ?_ _)); refine blk_put (cs := #[.int .i64 0, .int .i64 0]) ?_ 0 _ rfl; (with_reducible repeat (first | refine blk_drewN ?_ _ | refine blk_drew ?_ | refine blk_alloc ?_ _)); exact BK253.out) Try.underlying42 rfl (by kernel_rfl)) rfl ?_
  exact ⟨by first | rfl | (simp [errW_none, errW_some] <;> rfl) | (simp [*, errW_none, errW_some] <;> rfl), by repeat (first | (with_reducible first | exact HB.out | apply below_alloc | apply pw_below_drewN | apply below_drew1 | refine below_set ?_ GE253.out) | exact HB.out)⟩

/-! ### impl_LongdateTime: function 18 -/
def impl_LongdateTime.j0 : Nat → Int → Bool → Option (Int × Int × Int × Int × Int × Int × Int × Int)
  | 0, _, _ => none
  | k + 1, x0, x9 => if x9 = true then (some (0, 0, 0, 0, 0, 0, 0, 3)) else ((encoding_ZzLongdate.f x0).bind fun bt257 => ((impl_timeBack.f bt257.1 bt257.2).bind fun bt259 => (some (bt259.1, bt259.2.1, bt259.2.2.1, bt259.2.2.2.1, bt259.2.2.2.2.1, bt259.2.2.2.2.2.1, bt259.2.2.2.2.2.2, 0))))
def impl_LongdateTime.f (k : Nat) (a0 : Int) : Option (Int × Int × Int × Int × Int × Int × Int × Int) := if a0 < (-1000) then (impl_LongdateTime.j0 k a0 true) else (impl_LongdateTime.j0 k a0 (decide (a0 > 4000000000000000000)))
theorem impl_LongdateTime.mono_l : ∀ k, (∀ y0 y1, LeO (impl_LongdateTime.j0 k y0 y1) (impl_LongdateTime.j0 (k + 1) y0 y1))
  | 0 => fun _ _ r h => by simp [impl_LongdateTime.j0] at h
  | k + 1 => by
    have ih0 := impl_LongdateTime.mono_l k
    · intro y0 y1
      unfold impl_LongdateTime.j0
      repeat' first
      | (with_reducible exact ih0 _ _)
      | (with_reducible exact LeO.refl _)
      | (with_reducible exact LeO.none _)
      | (with_reducible refine LeO.ite ?_ ?_)
      | (with_reducible refine LeO.bind ?_ (fun _ => ?_))
      | exact ih0 _ _
      | exact LeO.none _
      | refine LeO.ite ?_ ?_
      | refine LeO.bind ?_ (fun _ => ?_)
theorem impl_LongdateTime.mono : ∀ a0 k, LeO (impl_LongdateTime.f k a0) (impl_LongdateTime.f (k + 1) a0) := by
  intro a0 k
  have ih0 := impl_LongdateTime.mono_l k
  unfold impl_LongdateTime.f
  repeat' first
      | (with_reducible exact ih0 _ _)
      | (with_reducible exact LeO.refl _)
      | (with_reducible exact LeO.none _)
      | (with_reducible refine LeO.ite ?_ ?_)
      | (with_reducible refine LeO.bind ?_ (fun _ => ?_))
      | exact ih0 _ _
      | exact LeO.none _
      | refine LeO.ite ?_ ?_
      | refine LeO.bind ?_ (fun _ => ?_)
set_option maxHeartbeats 8000000 in
set_option maxRecDepth 100000 in
theorem impl_LongdateTime.calls (k : Nat) (a0 : Int) (r1 : Int) (r2 : Int) (r3 : Int) (r4 : Int) (r5 : Int) (r6 : Int) (r7 : Int) (r8 : Int) (w : World) (h : impl_LongdateTime.f k a0 = some (r1, r2, r3, r4, r5, r6, r7, r8)) :
    Calls Try.prog 18 #[.int .i64 a0] w fun e w' => e = .returned (.tuple #[.agg #[.int .i64 r1, .int .i64 r2, .int .i64 r3, .int .i64 r4, .int .i64 r5, .int .i64 r6, .int .i64 r7], .int .i64 r8]) ∧ Below w.heap.size w w' := by
  have hu23 := Try.underlying23
  have HB := Aside0.mk (Below.refl w.heap.size w)
  have H : (if a0 < (-1000) then (impl_LongdateTime.j0 k a0 true) else (impl_LongdateTime.j0 k a0 (decide (a0 > 4000000000000000000)))) = some (r1, r2, r3, r4, r5, r6, r7, r8) := h
  clear h
  have HC2 := Aside0.mk H
  clear H
  go_enter Try.func18, Try.ntmps18
  go_upto_region 1 with (first | ((with_reducible refine gate_dst (N := 2) rfl ?_); refine box_event ?hg (N := 2) ?hd (cs := #[.int .i64 0, .int .i64 0, .int .i64 0, .int .i64 0, .int .i64 0, .int .i64 0, .int .i64 0]) (t := 23) ?hr ?_; (case hd => rfl); (case hg => rfl); (case hr => first | (go_simp; done) | (go_simp; rfl)); intro gb256 hg w3 hbox hb; have n0_ := Aside0.mk (below_step (by repeat (first | (with_reducible first | exact HB.out | apply below_alloc | apply pw_below_drewN | apply below_drew1) | exact HB.out)) hb); have n1_ := Aside0.mk (hbox); have n2_ := Aside0.mk ((by rw [hg]; exact (below_size (by repeat (first | (with_reducible first | exact HB.out | apply below_alloc | apply pw_below_drewN | apply below_drew1) | exact HB.out))) : w.heap.size ≤ gb256)); have n3_ := Aside0.mk ((by rw [hg]; exact (below_size (by repeat (first | (with_reducible first | exact HB.out | apply below_alloc | apply pw_below_drewN | apply below_drew1) | exact HB.out))) : w.heap.size ≤ gb256)); clear HB; have HB := n0_; have BK256 := n1_; have GW256 := n2_; have GE256 := n3_; clear n0_ n1_ n2_ n3_; clear hb hbox hg))
  (try simp only [Act.put, List.setIfInBounds_toArray, List.set_cons_zero, List.set_cons_succ])
  go_cut [9] (fun v9 wc => ∃ (kq : Nat) (x9_1 : Bool), v9 = .bool x9_1 ∧ Aside0 (impl_LongdateTime.j0 kq a0 x9_1 = some (r1, r2, r3, r4, r5, r6, r7, r8)) ∧ Aside0 (kq ≤ k) ∧ Aside0 (wc.heap[gb256]? = some (.cells #[.int .i64 0, .int .i64 0, .int .i64 0, .int .i64 0, .int .i64 0, .int .i64 0, .int .i64 0] 23 (0, 0))) ∧ Aside0 (Below w.heap.size w wc))
  case first =>
    have H := HC2.out
    clear HC2
    by_cases c4 : a0 < (-1000)
    · rw [if_pos c4] at H
      have c4b0 : decide (a0 < (-1000)) = true := decide_eq_true c4
      clear c4
      (first | rw [c4b0] | (simp only [i64_w, i32_w]; rw [c4b0]) | skip)
      have H' := Aside0.mk H
      clear H
      go_wp2
      go_meet
      case rel => exact ⟨_, (true), (by first | rfl | (simp; done) | (simp [*]; done)), H', ⟨by first | omega | exact Nat.le_refl _⟩, ⟨by (with_reducible repeat (first | refine blk_drewN ?_ _ | refine blk_drew ?_ | refine blk_alloc ?_ _)); exact BK256.out⟩, ⟨by repeat (first | (with_reducible first | exact HB.out | apply below_alloc | apply pw_below_drewN | apply below_drew1 | refine below_set ?_ GE256.out) | exact HB.out)⟩⟩
    · rw [if_neg c4] at H
      have c4b0 : decide (a0 < (-1000)) = false := decide_eq_false c4
      clear c4
      (first | rw [c4b0] | (simp only [i64_w, i32_w]; rw [c4b0]) | skip)
      have H' := Aside0.mk H
      clear H
      go_wp2
      go_meet
      case rel => exact ⟨_, (decide (a0 > 4000000000000000000)), (by first | rfl | (simp; done) | (simp [*]; done)), H', ⟨by first | omega | exact Nat.le_refl _⟩, ⟨by (with_reducible repeat (first | refine blk_drewN ?_ _ | refine blk_drew ?_ | refine blk_alloc ?_ _)); exact BK256.out⟩, ⟨by repeat (first | (with_reducible first | exact HB.out | apply below_alloc | apply pw_below_drewN | apply below_drew1 | refine below_set ?_ GE256.out) | exact HB.out)⟩⟩
  case rest =>
    clear HC2
    try clear c1
    try clear p2
    try clear c4
    try clear c4b0
    obtain ⟨kq, x9_1, rfl, HA, HJ1, BK256, HB⟩ := hcut
    cases kq with
    | zero => exact absurd HA.out (by simp [impl_LongdateTime.j0])
    | succ kj1 =>
      have H := HA.out
      clear HA
      simp only [impl_LongdateTime.j0] at H
      by_cases c5 : x9_1 = true
      · subst c5
        have H1 : (some (0, 0, 0, 0, 0, 0, 0, 3)) = some (r1, r2, r3, r4, r5, r6, r7, r8) := by rw [if_pos rfl] at H; exact H
        clear H
        have H := H1
        clear H1
        simp only [Option.some.injEq, Prod.mk.injEq] at H
        obtain ⟨rfl, rfl, rfl, rfl, rfl, rfl, rfl, rfl⟩ := H
        have hcz6_0 : wc.cell? ⟨gb256, 0, none⟩ = some (.int .i64 0) := (blk_cell BK256.out 0).trans rfl
        have hcz6_1 : wc.cell? ⟨gb256, 1, none⟩ = some (.int .i64 0) := (blk_cell BK256.out 1).trans rfl
        have hcz6_2 : wc.cell? ⟨gb256, 2, none⟩ = some (.int .i64 0) := (blk_cell BK256.out 2).trans rfl
        have hcz6_3 : wc.cell? ⟨gb256, 3, none⟩ = some (.int .i64 0) := (blk_cell BK256.out 3).trans rfl
        have hcz6_4 : wc.cell? ⟨gb256, 4, none⟩ = some (.int .i64 0) := (blk_cell BK256.out 4).trans rfl
        have hcz6_5 : wc.cell? ⟨gb256, 5, none⟩ = some (.int .i64 0) := (blk_cell BK256.out 5).trans rfl
        have hcz6_6 : wc.cell? ⟨gb256, 6, none⟩ = some (.int .i64 0) := (blk_cell BK256.out 6).trans rfl
        have hfz6_0 := blk_frozen BK256.out 0
        have hfz6_1 := blk_frozen BK256.out 1
        have hfz6_2 := blk_frozen BK256.out 2
        have hfz6_3 := blk_frozen BK256.out 3
        have hfz6_4 := blk_frozen BK256.out 4
        have hfz6_5 := blk_frozen BK256.out 5
        have hfz6_6 := blk_frozen BK256.out 6
        go_wp2
        refine bodyPost_ret (results_ct rfl _ _ gb256 23 #[.int .i64 0, .int .i64 0, .int .i64 0, .int .i64 0, .int .i64 0, .int .i64 0, .int .i64 0] (0, 0) _ rfl (by (with_reducible repeat (first | refine blk_drewN ?_ _ | refine blk_drew ?_ | refine blk_alloc ?_ _)); refine blk_put (cs := #[.int .i64 0, .int .i64 0, .int .i64 0, .int .i64 0, .int .i64 0, .int .i64 0, .int .i64 0]) ?_ 6 _ rfl; (with_reducible repeat (first | refine blk_drewN ?_ _ | refine blk_drew ?_ | refine blk_alloc ?_ _)); refine blk_put (cs := #[.int .i64 0, .int .i64 0, .int .i64 0, .int .i64 0, .int .i64 0, .int .i64 0, .int .i64 0]) ?_ 5 _ rfl; (with_reducible repeat (first | refine blk_drewN ?_ _ | refine blk_drew ?_ | refine blk_alloc ?_ _)); refine blk_put (cs := #[.int .i64 0, .int .i64 0, .int .i64 0, .int .i64 0, .int .i64 0, .int .i64 0, .int .i64 0]) ?_ 4 _ rfl; (with_reducible repeat (first | refine blk_drewN ?_ _ | refine blk_drew ?_ | refine blk_alloc ?_ _)); refine blk_put (cs := #[.int .i64 0, .int .i64 0, .int .i64 0, .int .i64 0, .int .i64 0, .int .i64 0, .int .i64 0]) ?_ 3 _ rfl; (with_reducible repeat (first | refine blk_drewN ?_ _ | refine blk_drew ?_ | refine blk_alloc ?_ _)); refine blk_put (cs := #[.int .i64 0, .int .i64 0, .int .i64 0, .int .i64 0, .int .i64 0, .int .i64 0, .int .i64 0]) ?_ 2 _ rfl; (with_reducible repeat (first | refine blk_drewN ?_ _ | refine blk_drew ?_ | refine blk_alloc ?_ _)); refine blk_put (cs := #[.int .i64 0, .int .i64 0, .int .i64 0, .int .i64 0, .int .i64 0, .int .i64 0, .int .i64 0]) ?_ 1 _ rfl; (with_reducible repeat (first | refine blk_drewN ?_ _ | refine blk_drew ?_ | refine blk_alloc ?_ _)); refine blk_put (cs := #[.int .i64 0, .int .i64 0, .int .i64 0, .int .i64 0, .int .i64 0, .int .i64 0, .int .i64 0]) ?_ 0 _ rfl; (with_reducible repeat (first | refine blk_drewN ?_ _ | refine blk_drew ?_ | refine blk_alloc ?_ _)); exact BK256.out) Try.underlying23 rfl (by kernel_rfl)) rfl ?_
        exact ⟨by first | rfl | (simp [errW_none, errW_some] <;> rfl) | (simp [*, errW_none, errW_some] <;> rfl), by repeat (first | (with_reducible first | exact HB.out | apply below_alloc | apply pw_below_drewN | apply below_drew1 | refine below_set ?_ GE256.out) | exact HB.out)⟩
      · replace c5 := Bool.eq_false_iff.mpr c5
        subst c5
        have H1 : ((encoding_ZzLongdate.f a0).bind fun bt257 => ((impl_timeBack.f bt257.1 bt257.2).bind fun bt259 => (some (bt259.1, bt259.2.1, bt259.2.2.1, bt259.2.2.2.1, bt259.2.2.2.2.1, bt259.2.2.2.2.2.1, bt259.2.2.2.2.2.2, 0)))) = some (r1, r2, r3, r4, r5, r6, r7, r8) := by rw [if_neg (show ¬ (false = true) by decide)] at H; exact H
        clear H
        have H := H1
        clear H1
        replace H := Option.bind_eq_some_iff.mp H
        obtain ⟨⟨t257, t258⟩, A70, H⟩ := H
        replace H : ((impl_timeBack.f t257 t258).bind fun bt259 => (some (bt259.1, bt259.2.1, bt259.2.2.1, bt259.2.2.2.1, bt259.2.2.2.2.1, bt259.2.2.2.2.2.1, bt259.2.2.2.2.2.2, 0))) = some (r1, r2, r3, r4, r5, r6, r7, r8) := H
        have A7 := Aside0.mk A70
        clear A70
        replace H := Option.bind_eq_some_iff.mp H
        obtain ⟨⟨t259, t260, t261, t262, t263, t264, t265⟩, A80, H⟩ := H
        replace H : (some (t259, t260, t261, t262, t263, t264, t265, 0)) = some (r1, r2, r3, r4, r5, r6, r7, r8) := H
        have A8 := Aside0.mk A80
        clear A80
        simp only [Option.some.injEq, Prod.mk.injEq] at H
        obtain ⟨rfl, rfl, rfl, rfl, rfl, rfl, rfl, rfl⟩ := H
        go_wp2_with (first | ((with_reducible refine gate_callee (f := 36) rfl ?_); refine goesL_ (some 12) rfl rfl Try.func36 (by kernel_rfl) rfl #[.int .i64 a0] rfl (by (try simp only [List.map_toArray, List.map_cons, List.map_nil]); first | done | rfl | (simp only [List.length_drop, List.length_take]; rfl)) ?_; (with_reducible refine (encoding_ZzLongdate.calls a0 t257 t258 _ A7.out).mono ?_); rintro e w9 ⟨rfl, hb⟩; refine ⟨_, rfl, ?_⟩; have n0_ := Aside0.mk (blk_below (g := gb256) (o := .cells #[.int .i64 0, .int .i64 0, .int .i64 0, .int .i64 0, .int .i64 0, .int .i64 0, .int .i64 0] 23 (0, 0)) (by (with_reducible repeat (first | refine blk_drewN ?_ _ | refine blk_drew ?_ | refine blk_alloc ?_ _)); exact BK256.out) hb); have n1_ := Aside0.mk (below_step (by repeat (first | (with_reducible first | exact HB.out | apply below_alloc | apply pw_below_drewN | apply below_drew1 | refine below_set ?_ GE256.out) | exact HB.out)) hb); clear BK256; clear HB; have BK256 := n0_; have HB := n1_; clear n0_ n1_; (try clear hb); (try clear hb2); (try clear hk); (try clear hi)) | ((with_reducible refine gate_callee (f := 24) rfl ?_); refine goesL_ (some 13) rfl rfl Try.func24 (by kernel_rfl) rfl #[.agg #[.int .i64 t257, .int .i64 t258]] rfl (by (try simp only [List.map_toArray, List.map_cons, List.map_nil]); first | done | rfl | (simp only [List.length_drop, List.length_take]; rfl)) ?_; (with_reducible refine (impl_timeBack.calls t257 t258 t259 t260 t261 t262 t263 t264 t265 _ A8.out).mono ?_); rintro e w10 ⟨rfl, hb⟩; refine ⟨_, rfl, ?_⟩; have n0_ := Aside0.mk (blk_below (g := gb256) (o := .cells #[.int .i64 0, .int .i64 0, .int .i64 0, .int .i64 0, .int .i64 0, .int .i64 0, .int .i64 0] 23 (0, 0)) (by (with_reducible repeat (first | refine blk_drewN ?_ _ | refine blk_drew ?_ | refine blk_alloc ?_ _)); exact BK256.out) hb); have n1_ := Aside0.mk (below_step (by repeat (first | (with_reducible first | exact HB.out | apply below_alloc | apply pw_below_drewN | apply below_drew1 | refine below_set ?_ GE256.out) | exact HB.out)) hb); clear BK256; clear HB; have BK256 := n0_; have HB := n1_; clear n0_ n1_; (try clear hb); (try clear hb2); (try clear hk); (try clear hi); have hcz11_0 : w10.cell? ⟨gb256, 0, none⟩ = some (.int .i64 0) := (blk_cell BK256.out 0).trans rfl; have hcz11_1 : w10.cell? ⟨gb256, 1, none⟩ = some (.int .i64 0) := (blk_cell BK256.out 1).trans rfl; have hcz11_2 : w10.cell? ⟨gb256, 2, none⟩ = some (.int .i64 0) := (blk_cell BK256.out 2).trans rfl; have hcz11_3 : w10.cell? ⟨gb256, 3, none⟩ = some (.int .i64 0) := (blk_cell BK256.out 3).trans rfl; have hcz11_4 : w10.cell? ⟨gb256, 4, none⟩ = some (.int .i64 0) := (blk_cell BK256.out 4).trans rfl; have hcz11_5 : w10.cell? ⟨gb256, 5, none⟩ = some (.int .i64 0) := (blk_cell BK256.out 5).trans rfl; have hcz11_6 : w10.cell? ⟨gb256, 6, none⟩ = some (.int .i64 0) := (blk_cell BK256.out 6).trans rfl; have hfz11_0 := blk_frozen BK256.out 0; have hfz11_1 := blk_frozen BK256.out 1; have hfz11_2 := blk_frozen BK256.out 2; have hfz11_3 := blk_frozen BK256.out 3; have hfz11_4 := blk_frozen BK256.out 4; have hfz11_5 := blk_frozen BK256.out 5; have hfz11_6 := blk_frozen BK256.out 6))
        refine bodyPost_ret (results_ct rfl _ _ gb256 23 #[.int .i64 t259, .int .i64 t260, .int .i64 t261, .int .i64 t262, .int .i64 t263, .int .i64 t264, .int .i64 t265] (0, 0) _ rfl (by (with_reducible repeat (first | refine blk_drewN ?_ _ | refine blk_drew ?_ | refine blk_alloc ?_ _)); refine blk_put (cs := #[.int .i64 t259, .int .i64 t260, .int .i64 t261, .int .i64 t262, .int .i64 t263, .int .i64 t264, .int .i64 0]) ?_ 6 _ rfl; (with_reducible repeat (first | refine blk_drewN ?_ _ | refine blk_drew ?_ | refine blk_alloc ?_ _)); refine blk_put (cs := #[.int .i64 t259, .int .i64 t260, .int .i64 t261, .int .i64 t262, .int .i64 t263, .int .i64 0, .int .i64 0]) ?_ 5 _ rfl; (with_reducible repeat (first | refine blk_drewN ?_ _ | refine blk_drew ?_ | refine blk_alloc ?_ _)); refine blk_put (cs := #[.int .i64 t259, .int .i64 t260, .int .i64 t261, .int .i64 t262, .int .i64 0, .int .i64 0, .int .i64 0]) ?_ 4 _ rfl; (with_reducible repeat (first | refine blk_drewN ?_ _ | refine blk_drew ?_ | refine blk_alloc ?_ _)); refine blk_put (cs := #[.int .i64 t259, .int .i64 t260, .int .i64 t261, .int .i64 0, .int .i64 0, .int .i64 0, .int .i64 0]) ?_ 3 _ rfl; (with_reducible repeat (first | refine blk_drewN ?_ _ | refine blk_drew ?_ | refine blk_alloc ?_ _)); refine blk_put (cs := #[.int .i64 t259, .int .i64 t260, .int .i64 0, .int .i64 0, .int .i64 0, .int .i64 0, .int .i64 0]) ?_ 2 _ rfl; (with_reducible repeat (first | refine blk_drewN ?_ _ | refine blk_drew ?_ | refine blk_alloc ?_ _)); refine blk_put (cs := #[.int .i64 t259, .int .i64 0, .int .i64 0, .int .i64 0, .int .i64 0, .int .i64 0, .int .i64 0]) ?_ 1 _ rfl; (with_reducible repeat (first | refine blk_drewN ?_ _ | refine blk_drew ?_ | refine blk_alloc ?_ _)); refine blk_put (cs := #[.int .i64 0, .int .i64 0, .int .i64 0, .int .i64 0, .int .i64 0, .int .i64 0, .int .i64 0]) ?_ 0 _ rfl; (with_reducible repeat (first | refine blk_drewN ?_ _ | refine blk_drew ?_ | refine blk_alloc ?_ _)); exact BK256.out) Try.underlying23 rfl (by kernel_rfl)) rfl ?_
        exact ⟨by first | rfl | (simp [errW_none, errW_some] <;> rfl) | (simp [*, errW_none, errW_some] <;> rfl), by repeat (first | (with_reducible first | exact HB.out | apply below_alloc | apply pw_below_drewN | apply below_drew1 | refine below_set ?_ GE256.out) | exact HB.out)⟩

end Go.Proofs.Ytbblgpgjgkmcbaa.PJro
