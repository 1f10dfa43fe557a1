/- Written by a program (print.py, called by prints.sh) for this claim: Go functions as plain Lean functions, and that the code comes to their answers. -/
import Derived.Test.YtbblgpgjgkmcbaaPJrox0
import Derived.Test.YtbblgpgjgkmcbaaPJrox3
namespace Go.Proofs.Ytbblgpgjgkmcbaa.PJro
open Go.RowKit Go.Proofs.YtbblgpgjgkmcbaaW.PrintWords Go.Proofs.YtbblgpgjgkmcbaaW.PrintLast Go.Proofs.YtbblgpgjgkmcbaaW.PrintMore
attribute [local go_sem] max2_int min2_int max_two min_two max_three min_three max_four min_four   -- for this text's walks alone
set_option linter.unusedVariables false
set_option linter.unusedSimpArgs false

/-! ### encoding_convertTimeToLongdate: function 51 -/
def encoding_convertTimeToLongdate.f (a0_0 : Int) (a0_1 : Int) : Option (Int) := (encoding_convertTimeToDayDate.f a0_0 a0_1).bind fun t198 => ((zztime_Time_Hour.f a0_0 a0_1).bind fun t199 => ((zztime_Time_Minute.f a0_0 a0_1).bind fun t200 => ((zztime_Time_Second.f a0_0 a0_1).bind fun t201 => ((zztime_Time_Nanosecond.f a0_0 a0_1).bind fun t202 => (some (wrap64 ((wrap64 ((wrap64 ((wrap64 ((wrap64 ((wrap64 ((wrap64 ((wrap64 ((wrap64 ((wrap64 (t198 - 1)) * 24)) + t199)) * 60)) + t200)) * 60)) + t201)) * 10000000)) + (wrap64 (Int.tdiv t202 100)))) + 1)))))))
def encoding_convertTimeToLongdate.T1 : Bool × List (List Nat × List Nat) := (true, [([], []), ([0], [0]), ([1], [1]), ([2], [2]), ([], []), ([4, 1], [4]), ([3, 5], [3, 5]), ([6], [6]), ([], []), ([8, 5], [8]), ([7, 9], [7, 9]), ([10], [10]), ([], []), ([12, 9], [12]), ([11, 13], [11, 13]), ([14], [14]), ([], []), ([16, 13], [16]), ([17], [17]), ([15, 18], [15, 18]), ([19], [19]), ([20, 17, 0, 1, 2, 3, 4, 5, 6, 7, 8, 9, 10, 11, 12, 13, 14, 15, 16, 17, 18, 19, 20], [20])])
def encoding_convertTimeToLongdate.B1 : List Nat := [0, 1, 3, 7, 0, 19, 63, 127, 0, 307, 1023, 2047, 0, 4915, 16383, 32767, 0, 78643, 209715, 524287, 1048575, 2097151]
theorem encoding_convertTimeToLongdate.tab1 : rtab .any (opsOf Try.f51 1) = encoding_convertTimeToLongdate.T1 := by kernel_rfl
theorem encoding_convertTimeToLongdate.bits1 : waitsOk encoding_convertTimeToLongdate.T1.2 encoding_convertTimeToLongdate.B1 = true := by kernel_rfl
set_option maxHeartbeats 8000000 in
set_option maxRecDepth 100000 in
theorem encoding_convertTimeToLongdate.calls (a0_0 : Int) (a0_1 : Int) (r : Int) (w : World) (h : encoding_convertTimeToLongdate.f a0_0 a0_1 = some r) :
    Calls Try.prog 51 #[.agg #[.int .i64 a0_0, .int .i64 a0_1]] w fun e w' => e = .returned (.int .i64 r) ∧ Below w.heap.size w w' := by
  have hu42 := Try.underlying42
  have HB := Aside0.mk (Below.refl w.heap.size w)
  have H : ((encoding_convertTimeToDayDate.f a0_0 a0_1).bind fun t198 => ((zztime_Time_Hour.f a0_0 a0_1).bind fun t199 => ((zztime_Time_Minute.f a0_0 a0_1).bind fun t200 => ((zztime_Time_Second.f a0_0 a0_1).bind fun t201 => ((zztime_Time_Nanosecond.f a0_0 a0_1).bind fun t202 => (some (wrap64 ((wrap64 ((wrap64 ((wrap64 ((wrap64 ((wrap64 ((wrap64 ((wrap64 ((wrap64 ((wrap64 (t198 - 1)) * 24)) + t199)) * 60)) + t200)) * 60)) + t201)) * 10000000)) + (wrap64 (Int.tdiv t202 100)))) + 1)))))))) = some r := h
  clear h
  replace H := Option.bind_eq_some_iff.mp H
  obtain ⟨t198, A20, H⟩ := H
  replace H : ((zztime_Time_Hour.f a0_0 a0_1).bind fun t199 => ((zztime_Time_Minute.f a0_0 a0_1).bind fun t200 => ((zztime_Time_Second.f a0_0 a0_1).bind fun t201 => ((zztime_Time_Nanosecond.f a0_0 a0_1).bind fun t202 => (some (wrap64 ((wrap64 ((wrap64 ((wrap64 ((wrap64 ((wrap64 ((wrap64 ((wrap64 ((wrap64 ((wrap64 (t198 - 1)) * 24)) + t199)) * 60)) + t200)) * 60)) + t201)) * 10000000)) + (wrap64 (Int.tdiv t202 100)))) + 1))))))) = some r := H
  have A2 := Aside0.mk A20
  clear A20
  replace H := Option.bind_eq_some_iff.mp H
  obtain ⟨t199, A30, H⟩ := H
  replace H : ((zztime_Time_Minute.f a0_0 a0_1).bind fun t200 => ((zztime_Time_Second.f a0_0 a0_1).bind fun t201 => ((zztime_Time_Nanosecond.f a0_0 a0_1).bind fun t202 => (some (wrap64 ((wrap64 ((wrap64 ((wrap64 ((wrap64 ((wrap64 ((wrap64 ((wrap64 ((wrap64 ((wrap64 (t198 - 1)) * 24)) + t199)) * 60)) + t200)) * 60)) + t201)) * 10000000)) + (wrap64 (Int.tdiv t202 100)))) + 1)))))) = some r := H
  have A3 := Aside0.mk A30
  clear A30
  replace H := Option.bind_eq_some_iff.mp H
  obtain ⟨t200, A40, H⟩ := H
  replace H : ((zztime_Time_Second.f a0_0 a0_1).bind fun t201 => ((zztime_Time_Nanosecond.f a0_0 a0_1).bind fun t202 => (some (wrap64 ((wrap64 ((wrap64 ((wrap64 ((wrap64 ((wrap64 ((wrap64 ((wrap64 ((wrap64 ((wrap64 (t198 - 1)) * 24)) + t199)) * 60)) + t200)) * 60)) + t201)) * 10000000)) + (wrap64 (Int.tdiv t202 100)))) + 1))))) = some r := H
  have A4 := Aside0.mk A40
  clear A40
  replace H := Option.bind_eq_some_iff.mp H
  obtain ⟨t201, A50, H⟩ := H
  replace H : ((zztime_Time_Nanosecond.f a0_0 a0_1).bind fun t202 => (some (wrap64 ((wrap64 ((wrap64 ((wrap64 ((wrap64 ((wrap64 ((wrap64 ((wrap64 ((wrap64 ((wrap64 (t198 - 1)) * 24)) + t199)) * 60)) + t200)) * 60)) + t201)) * 10000000)) + (wrap64 (Int.tdiv t202 100)))) + 1)))) = some r := H
  have A5 := Aside0.mk A50
  clear A50
  replace H := Option.bind_eq_some_iff.mp H
  obtain ⟨t202, A60, H⟩ := H
  replace H : (some (wrap64 ((wrap64 ((wrap64 ((wrap64 ((wrap64 ((wrap64 ((wrap64 ((wrap64 ((wrap64 ((wrap64 (t198 - 1)) * 24)) + t199)) * 60)) + t200)) * 60)) + t201)) * 10000000)) + (wrap64 (Int.tdiv t202 100)))) + 1))) = some r := H
  have A6 := Aside0.mk A60
  clear A60
  obtain rfl := Option.some.inj H
  go_enter Try.func51, Try.ntmps51
  try go_wp2_with (first | ((with_reducible refine gate_dst (N := 1) rfl ?_); refine box_event ?hg (N := 1) ?hd (cs := #[.int .i64 a0_0, .int .i64 a0_1]) (t := 42) ?hr ?_; (case hd => rfl); (case hg => rfl); (case hr => first | (go_simp; done) | (go_simp; rfl)); intro gb197 hg w7 hbox hb; have n0_ := Aside0.mk (below_step (by repeat (first | (with_reducible first | exact HB.out | apply below_alloc | apply pw_below_drewN | apply below_drew1) | exact HB.out)) hb); have n1_ := Aside0.mk (hbox); have n2_ := Aside0.mk ((by rw [hg]; exact (below_size (by repeat (first | (with_reducible first | exact HB.out | apply below_alloc | apply pw_below_drewN | apply below_drew1) | exact HB.out))) : w.heap.size ≤ gb197)); have n3_ := Aside0.mk ((by rw [hg]; exact (below_size (by repeat (first | (with_reducible first | exact HB.out | apply below_alloc | apply pw_below_drewN | apply below_drew1) | exact HB.out))) : w.heap.size ≤ gb197)); clear HB; have HB := n0_; have BK197 := n1_; have GW197 := n2_; have GE197 := n3_; clear n0_ n1_ n2_ n3_; clear hb hbox hg))
  have n0_ := Aside0.mk (blk_drew BK197.out)
  have n1_ := Aside0.mk (below_drew1 HB.out)
  clear BK197
  clear HB
  have BK197 := n0_
  have HB := n1_
  clear n0_ n1_
  refine start_ (n := 22) (S := fun w' => w'.cell? ⟨gb197, 0, none⟩ = some (.int .i64 a0_0) ∧ w'.cell? ⟨gb197, 1, none⟩ = some (.int .i64 a0_1)) (ds := []) #[false, false, false, false, false, false, false, false, false, false, false, false, false, false, false, false, false, false, false, false, false, false] (by kernel_rfl) rfl rfl ⟨(blk_cell BK197.out 0).trans rfl, (blk_cell BK197.out 1).trans rfl⟩ (fun hHeld => ?_); refine with_tabW encoding_convertTimeToLongdate.tab1 encoding_convertTimeToLongdate.bits1 (fun HT_ HW_ => ?_)
  generalize w7.drew = w8 at BK197 HB hHeld ⊢
  refine take_ (i := 0) (N := some 3) (v := ?_) (a' := ?_) #[true, false, false, false, false, false, false, false, false, false, false, false, false, false, false, false, false, false, false, false, false, false] rfl rfl (take_ofW HT_.out HW_.out (by kernel_rfl)) (fun _ _ _ h => h) (Or.inl ⟨by rfl, ?_⟩) hHeld ?_ ?_
  rotate_left
  · rintro w' ⟨s0, s1⟩
    go_simp
    with_reducible rfl
  rotate_left
  · simp only [Act.put, List.setIfInBounds_toArray, List.set_cons_zero, List.set_cons_succ, i64_w, i32_w]
    rfl
  refine take_ (i := 4) (N := some 7) (v := ?_) (a' := ?_) #[true, false, false, false, true, false, false, false, false, false, false, false, false, false, false, false, false, false, false, false, false, false] rfl rfl (take_ofW HT_.out HW_.out (by kernel_rfl)) (fun _ _ _ h => h) (Or.inl ⟨by rfl, ?_⟩) hHeld ?_ ?_
  rotate_left
  · rintro w' ⟨s0, s1⟩
    go_simp
    with_reducible rfl
  rotate_left
  · simp only [Act.put, List.setIfInBounds_toArray, List.set_cons_zero, List.set_cons_succ, i64_w, i32_w]
    rfl
  refine take_ (i := 8) (N := some 11) (v := ?_) (a' := ?_) #[true, false, false, false, true, false, false, false, true, false, false, false, false, false, false, false, false, false, false, false, false, false] rfl rfl (take_ofW HT_.out HW_.out (by kernel_rfl)) (fun _ _ _ h => h) (Or.inl ⟨by rfl, ?_⟩) hHeld ?_ ?_
  rotate_left
  · rintro w' ⟨s0, s1⟩
    go_simp
    with_reducible rfl
  rotate_left
  · simp only [Act.put, List.setIfInBounds_toArray, List.set_cons_zero, List.set_cons_succ, i64_w, i32_w]
    rfl
  refine take_ (i := 12) (N := some 15) (v := ?_) (a' := ?_) #[true, false, false, false, true, false, false, false, true, false, false, false, true, false, false, false, false, false, false, false, false, false] rfl rfl (take_ofW HT_.out HW_.out (by kernel_rfl)) (fun _ _ _ h => h) (Or.inl ⟨by rfl, ?_⟩) hHeld ?_ ?_
  rotate_left
  · rintro w' ⟨s0, s1⟩
    go_simp
    with_reducible rfl
  rotate_left
  · simp only [Act.put, List.setIfInBounds_toArray, List.set_cons_zero, List.set_cons_succ, i64_w, i32_w]
    rfl
  refine take_ (i := 16) (N := some 19) (v := ?_) (a' := ?_) #[true, false, false, false, true, false, false, false, true, false, false, false, true, false, false, false, true, false, false, false, false, false] rfl rfl (take_ofW HT_.out HW_.out (by kernel_rfl)) (fun _ _ _ h => h) (Or.inl ⟨by rfl, ?_⟩) hHeld ?_ ?_
  rotate_left
  · rintro w' ⟨s0, s1⟩
    go_simp
    with_reducible rfl
  rotate_left
  · simp only [Act.put, List.setIfInBounds_toArray, List.set_cons_zero, List.set_cons_succ, i64_w, i32_w]
    rfl
  refine one_ (i := 1) (N := some 4) #[true, true, false, false, true, false, false, false, true, false, false, false, true, false, false, false, true, false, false, false, false, false] rfl rfl (one_of HT_.out (by kernel_rfl)) (by decide) (fun K hK => ?_)
  refine goes_ Try.func53 (by kernel_rfl) rfl #[.agg #[.int .i64 a0_0, .int .i64 a0_1]] (by rfl) rfl rfl (by (try simp only [List.map_toArray, List.map_cons, List.map_nil]); first | done | rfl | (simp only [List.length_drop, List.length_take]; rfl)) ?_
  with_reducible refine (encoding_convertTimeToDayDate.calls a0_0 a0_1 t198 _ A2.out).mono ?_
  rintro e w9 ⟨rfl, hb⟩
  refine ⟨_, rfl, ?_⟩
  have n0_ := Aside0.mk (blk_below (g := gb197) (o := .cells #[.int .i64 a0_0, .int .i64 a0_1] 42 (0, 0)) (by (with_reducible repeat (first | refine blk_drewN ?_ _ | refine blk_drew ?_ | refine blk_alloc ?_ _)); exact BK197.out) hb)
  have n1_ := Aside0.mk (below_step (by repeat (first | (with_reducible first | exact HB.out | apply below_alloc | apply pw_below_drewN | apply below_drew1 | refine below_set ?_ GE197.out) | exact HB.out)) hb)
  clear BK197
  clear HB
  have BK197 := n0_
  have HB := n1_
  clear n0_ n1_
  (try clear hb)
  (try clear hb2)
  (try clear hk)
  (try clear hi)
  refine hK.out _ _ ⟨(blk_cell BK197.out 0).trans rfl, (blk_cell BK197.out 1).trans rfl⟩ (fun hHeld => ?_)
  clear hK K
  refine norm_ (a' := ?_) ?_ ?_
  rotate_left
  · show Act.put _ (some 4) _ = _
    simp only [Act.put, List.setIfInBounds_toArray, List.set_cons_zero, List.set_cons_succ, i64_w, i32_w]
    rfl
  refine pure_ (i := 2) (N := some 5) (v := ?_) (a' := ?_) #[true, true, true, false, true, false, false, false, true, false, false, false, true, false, false, false, true, false, false, false, false, false] rfl rfl (any_of HT_.out (by kernel_rfl)) (fun _ _ _ h => h) (Or.inl ⟨by rfl, ?_⟩) ?_ ?_
  rotate_left
  · intro w'
    go_simp
    with_reducible rfl
  rotate_left
  · simp only [Act.put, List.setIfInBounds_toArray, List.set_cons_zero, List.set_cons_succ, i64_w, i32_w]
    rfl
  refine pure_ (i := 3) (N := some 6) (v := ?_) (a' := ?_) #[true, true, true, true, true, false, false, false, true, false, false, false, true, false, false, false, true, false, false, false, false, false] rfl rfl (any_of HT_.out (by kernel_rfl)) (fun _ _ _ h => h) (Or.inl ⟨by rfl, ?_⟩) ?_ ?_
  rotate_left
  · intro w'
    go_simp
    with_reducible rfl
  rotate_left
  · simp only [Act.put, List.setIfInBounds_toArray, List.set_cons_zero, List.set_cons_succ, i64_w, i32_w]
    rfl
  refine one_ (i := 5) (N := some 8) #[true, true, true, true, true, true, false, false, true, false, false, false, true, false, false, false, true, false, false, false, false, false] rfl rfl (one_of HT_.out (by kernel_rfl)) (by decide) (fun K hK => ?_)
  refine goes_ Try.func42 (by kernel_rfl) rfl #[.agg #[.int .i64 a0_0, .int .i64 a0_1]] (by rfl) rfl rfl (by (try simp only [List.map_toArray, List.map_cons, List.map_nil]); first | done | rfl | (simp only [List.length_drop, List.length_take]; rfl)) ?_
  with_reducible refine (zztime_Time_Hour.calls a0_0 a0_1 t199 _ A3.out).mono ?_
  rintro e w10 ⟨rfl, hb⟩
  refine ⟨_, rfl, ?_⟩
  have n0_ := Aside0.mk (blk_below (g := gb197) (o := .cells #[.int .i64 a0_0, .int .i64 a0_1] 42 (0, 0)) (by (with_reducible repeat (first | refine blk_drewN ?_ _ | refine blk_drew ?_ | refine blk_alloc ?_ _)); exact BK197.out) hb)
  have n1_ := Aside0.mk (below_step (by repeat (first | (with_reducible first | exact HB.out | apply below_alloc | apply pw_below_drewN | apply below_drew1 | refine below_set ?_ GE197.out) | exact HB.out)) hb)
  clear BK197
  clear HB
  have BK197 := n0_
  have HB := n1_
  clear n0_ n1_
  (try clear hb)
  (try clear hb2)
  (try clear hk)
  (try clear hi)
  refine hK.out _ _ ⟨(blk_cell BK197.out 0).trans rfl, (blk_cell BK197.out 1).trans rfl⟩ (fun hHeld => ?_)
  clear hK K
  refine norm_ (a' := ?_) ?_ ?_
  rotate_left
  · show Act.put _ (some 8) _ = _
    simp only [Act.put, List.setIfInBounds_toArray, List.set_cons_zero, List.set_cons_succ, i64_w, i32_w]
    rfl
  refine pure_ (i := 6) (N := some 9) (v := ?_) (a' := ?_) #[true, true, true, true, true, true, true, false, true, false, false, false, true, false, false, false, true, false, false, false, false, false] rfl rfl (any_of HT_.out (by kernel_rfl)) (fun _ _ _ h => h) (Or.inl ⟨by rfl, ?_⟩) ?_ ?_
  rotate_left
  · intro w'
    go_simp
    with_reducible rfl
  rotate_left
  · simp only [Act.put, List.setIfInBounds_toArray, List.set_cons_zero, List.set_cons_succ, i64_w, i32_w]
    rfl
  refine pure_ (i := 7) (N := some 10) (v := ?_) (a' := ?_) #[true, true, true, true, true, true, true, true, true, false, false, false, true, false, false, false, true, false, false, false, false, false] rfl rfl (any_of HT_.out (by kernel_rfl)) (fun _ _ _ h => h) (Or.inl ⟨by rfl, ?_⟩) ?_ ?_
  rotate_left
  · intro w'
    go_simp
    with_reducible rfl
  rotate_left
  · simp only [Act.put, List.setIfInBounds_toArray, List.set_cons_zero, List.set_cons_succ, i64_w, i32_w]
    rfl
  refine one_ (i := 9) (N := some 12) #[true, true, true, true, true, true, true, true, true, true, false, false, true, false, false, false, true, false, false, false, false, false] rfl rfl (one_of HT_.out (by kernel_rfl)) (by decide) (fun K hK => ?_)
  refine goes_ Try.func43 (by kernel_rfl) rfl #[.agg #[.int .i64 a0_0, .int .i64 a0_1]] (by rfl) rfl rfl (by (try simp only [List.map_toArray, List.map_cons, List.map_nil]); first | done | rfl | (simp only [List.length_drop, List.length_take]; rfl)) ?_
  with_reducible refine (zztime_Time_Minute.calls a0_0 a0_1 t200 _ A4.out).mono ?_
  rintro e w11 ⟨rfl, hb⟩
  refine ⟨_, rfl, ?_⟩
  have n0_ := Aside0.mk (blk_below (g := gb197) (o := .cells #[.int .i64 a0_0, .int .i64 a0_1] 42 (0, 0)) (by (with_reducible repeat (first | refine blk_drewN ?_ _ | refine blk_drew ?_ | refine blk_alloc ?_ _)); exact BK197.out) hb)
  have n1_ := Aside0.mk (below_step (by repeat (first | (with_reducible first | exact HB.out | apply below_alloc | apply pw_below_drewN | apply below_drew1 | refine below_set ?_ GE197.out) | exact HB.out)) hb)
  clear BK197
  clear HB
  have BK197 := n0_
  have HB := n1_
  clear n0_ n1_
  (try clear hb)
  (try clear hb2)
  (try clear hk)
  (try clear hi)
  refine hK.out _ _ ⟨(blk_cell BK197.out 0).trans rfl, (blk_cell BK197.out 1).trans rfl⟩ (fun hHeld => ?_)
  clear hK K
  refine norm_ (a' := ?_) ?_ ?_
  rotate_left
  · show Act.put _ (some 12) _ = _
    simp only [Act.put, List.setIfInBounds_toArray, List.set_cons_zero, List.set_cons_succ, i64_w, i32_w]
    rfl
  refine pure_ (i := 10) (N := some 13) (v := ?_) (a' := ?_) #[true, true, true, true, true, true, true, true, true, true, true, false, true, false, false, false, true, false, false, false, false, false] rfl rfl (any_of HT_.out (by kernel_rfl)) (fun _ _ _ h => h) (Or.inl ⟨by rfl, ?_⟩) ?_ ?_
  rotate_left
  · intro w'
    go_simp
    with_reducible rfl
  rotate_left
  · simp only [Act.put, List.setIfInBounds_toArray, List.set_cons_zero, List.set_cons_succ, i64_w, i32_w]
    rfl
  refine pure_ (i := 11) (N := some 14) (v := ?_) (a' := ?_) #[true, true, true, true, true, true, true, true, true, true, true, true, true, false, false, false, true, false, false, false, false, false] rfl rfl (any_of HT_.out (by kernel_rfl)) (fun _ _ _ h => h) (Or.inl ⟨by rfl, ?_⟩) ?_ ?_
  rotate_left
  · intro w'
    go_simp
    with_reducible rfl
  rotate_left
  · simp only [Act.put, List.setIfInBounds_toArray, List.set_cons_zero, List.set_cons_succ, i64_w, i32_w]
    rfl
  refine one_ (i := 13) (N := some 16) #[true, true, true, true, true, true, true, true, true, true, true, true, true, true, false, false, true, false, false, false, false, false] rfl rfl (one_of HT_.out (by kernel_rfl)) (by decide) (fun K hK => ?_)
  refine goes_ Try.func44 (by kernel_rfl) rfl #[.agg #[.int .i64 a0_0, .int .i64 a0_1]] (by rfl) rfl rfl (by (try simp only [List.map_toArray, List.map_cons, List.map_nil]); first | done | rfl | (simp only [List.length_drop, List.length_take]; rfl)) ?_
  with_reducible refine (zztime_Time_Second.calls a0_0 a0_1 t201 _ A5.out).mono ?_
  rintro e w12 ⟨rfl, hb⟩
  refine ⟨_, rfl, ?_⟩
  have n0_ := Aside0.mk (blk_below (g := gb197) (o := .cells #[.int .i64 a0_0, .int .i64 a0_1] 42 (0, 0)) (by (with_reducible repeat (first | refine blk_drewN ?_ _ | refine blk_drew ?_ | refine blk_alloc ?_ _)); exact BK197.out) hb)
  have n1_ := Aside0.mk (below_step (by repeat (first | (with_reducible first | exact HB.out | apply below_alloc | apply pw_below_drewN | apply below_drew1 | refine below_set ?_ GE197.out) | exact HB.out)) hb)
  clear BK197
  clear HB
  have BK197 := n0_
  have HB := n1_
  clear n0_ n1_
  (try clear hb)
  (try clear hb2)
  (try clear hk)
  (try clear hi)
  refine hK.out _ _ ⟨(blk_cell BK197.out 0).trans rfl, (blk_cell BK197.out 1).trans rfl⟩ (fun hHeld => ?_)
  clear hK K
  refine norm_ (a' := ?_) ?_ ?_
  rotate_left
  · show Act.put _ (some 16) _ = _
    simp only [Act.put, List.setIfInBounds_toArray, List.set_cons_zero, List.set_cons_succ, i64_w, i32_w]
    rfl
  refine pure_ (i := 14) (N := some 17) (v := ?_) (a' := ?_) #[true, true, true, true, true, true, true, true, true, true, true, true, true, true, true, false, true, false, false, false, false, false] rfl rfl (any_of HT_.out (by kernel_rfl)) (fun _ _ _ h => h) (Or.inl ⟨by rfl, ?_⟩) ?_ ?_
  rotate_left
  · intro w'
    go_simp
    with_reducible rfl
  rotate_left
  · simp only [Act.put, List.setIfInBounds_toArray, List.set_cons_zero, List.set_cons_succ, i64_w, i32_w]
    rfl
  refine pure_ (i := 15) (N := some 18) (v := ?_) (a' := ?_) #[true, true, true, true, true, true, true, true, true, true, true, true, true, true, true, true, true, false, false, false, false, false] rfl rfl (any_of HT_.out (by kernel_rfl)) (fun _ _ _ h => h) (Or.inl ⟨by rfl, ?_⟩) ?_ ?_
  rotate_left
  · intro w'
    go_simp
    with_reducible rfl
  rotate_left
  · simp only [Act.put, List.setIfInBounds_toArray, List.set_cons_zero, List.set_cons_succ, i64_w, i32_w]
    rfl
  refine one_ (i := 17) (N := some 20) #[true, true, true, true, true, true, true, true, true, true, true, true, true, true, true, true, true, true, false, false, false, false] rfl rfl (one_of HT_.out (by kernel_rfl)) (by decide) (fun K hK => ?_)
  refine goes_ Try.func45 (by kernel_rfl) rfl #[.agg #[.int .i64 a0_0, .int .i64 a0_1]] (by rfl) rfl rfl (by (try simp only [List.map_toArray, List.map_cons, List.map_nil]); first | done | rfl | (simp only [List.length_drop, List.length_take]; rfl)) ?_
  with_reducible refine (zztime_Time_Nanosecond.calls a0_0 a0_1 t202 _ A6.out).mono ?_
  rintro e w13 ⟨rfl, hb⟩
  refine ⟨_, rfl, ?_⟩
  have n0_ := Aside0.mk (blk_below (g := gb197) (o := .cells #[.int .i64 a0_0, .int .i64 a0_1] 42 (0, 0)) (by (with_reducible repeat (first | refine blk_drewN ?_ _ | refine blk_drew ?_ | refine blk_alloc ?_ _)); exact BK197.out) hb)
  have n1_ := Aside0.mk (below_step (by repeat (first | (with_reducible first | exact HB.out | apply below_alloc | apply pw_below_drewN | apply below_drew1 | refine below_set ?_ GE197.out) | exact HB.out)) hb)
  clear BK197
  clear HB
  have BK197 := n0_
  have HB := n1_
  clear n0_ n1_
  (try clear hb)
  (try clear hb2)
  (try clear hk)
  (try clear hi)
  refine hK.out _ _ ⟨(blk_cell BK197.out 0).trans rfl, (blk_cell BK197.out 1).trans rfl⟩ (fun hHeld => ?_)
  clear hK K
  refine norm_ (a' := ?_) ?_ ?_
  rotate_left
  · show Act.put _ (some 20) _ = _
    simp only [Act.put, List.setIfInBounds_toArray, List.set_cons_zero, List.set_cons_succ, i64_w, i32_w]
    rfl
  refine pure_ (i := 18) (N := some 21) (v := ?_) (a' := ?_) #[true, true, true, true, true, true, true, true, true, true, true, true, true, true, true, true, true, true, true, false, false, false] rfl rfl (any_of HT_.out (by kernel_rfl)) (fun _ _ _ h => h) (Or.inl ⟨by rfl, ?_⟩) ?_ ?_
  rotate_left
  · intro w'
    go_simp
    with_reducible rfl
  rotate_left
  · simp only [Act.put, List.setIfInBounds_toArray, List.set_cons_zero, List.set_cons_succ, i64_w, i32_w]
    rfl
  refine pure_ (i := 19) (N := some 22) (v := ?_) (a' := ?_) #[true, true, true, true, true, true, true, true, true, true, true, true, true, true, true, true, true, true, true, true, false, false] rfl rfl (any_of HT_.out (by kernel_rfl)) (fun _ _ _ h => h) (Or.inl ⟨by rfl, ?_⟩) ?_ ?_
  rotate_left
  · intro w'
    go_simp
    with_reducible rfl
  rotate_left
  · simp only [Act.put, List.setIfInBounds_toArray, List.set_cons_zero, List.set_cons_succ, i64_w, i32_w]
    rfl
  refine pure_ (i := 20) (N := some 23) (v := ?_) (a' := ?_) #[true, true, true, true, true, true, true, true, true, true, true, true, true, true, true, true, true, true, true, true, true, false] rfl rfl (any_of HT_.out (by kernel_rfl)) (fun _ _ _ h => h) (Or.inl ⟨by rfl, ?_⟩) ?_ ?_
  rotate_left
  · intro w'
    go_simp
    with_reducible rfl
  rotate_left
  · simp only [Act.put, List.setIfInBounds_toArray, List.set_cons_zero, List.set_cons_succ, i64_w, i32_w]
    rfl
  refine pure_ (i := 21) (N := some 2) (v := ?_) (a' := ?_) #[true, true, true, true, true, true, true, true, true, true, true, true, true, true, true, true, true, true, true, true, true, true] rfl rfl (any_of HT_.out (by kernel_rfl)) (fun _ _ _ h => h) (Or.inl ⟨by rfl, ?_⟩) ?_ ?_
  rotate_left
  · intro w'
    go_simp
    with_reducible rfl
  rotate_left
  · simp only [Act.put, List.setIfInBounds_toArray, List.set_cons_zero, List.set_cons_succ, i64_w, i32_w]
    rfl
  refine done_ (done_of HT_.out (by kernel_rfl)) ?_
  try go_wp2
  go_ret
  exact ⟨by first | rfl | (simp [errW_none, errW_some] <;> rfl) | (simp [*, errW_none, errW_some] <;> rfl), by repeat (first | (with_reducible first | exact HB.out | apply below_alloc | apply pw_below_drewN | apply below_drew1 | refine below_set ?_ GE197.out) | exact HB.out)⟩

/-! ### encoding_ZzLongdateOf: function 32 -/
def encoding_ZzLongdateOf.f (a0_0 : Int) (a0_1 : Int) : Option (Int) := (encoding_convertTimeToLongdate.f a0_0 a0_1).bind fun t204 => (some t204)
set_option maxHeartbeats 8000000 in
set_option maxRecDepth 100000 in
theorem encoding_ZzLongdateOf.calls (a0_0 : Int) (a0_1 : Int) (r : Int) (w : World) (h : encoding_ZzLongdateOf.f a0_0 a0_1 = some r) :
    Calls Try.prog 32 #[.agg #[.int .i64 a0_0, .int .i64 a0_1]] w fun e w' => e = .returned (.int .i64 r) ∧ Below w.heap.size w w' := by
  have hu42 := Try.underlying42
  have HB := Aside0.mk (Below.refl w.heap.size w)
  have H : ((encoding_convertTimeToLongdate.f a0_0 a0_1).bind fun t204 => (some t204)) = some r := h
  clear h
  replace H := Option.bind_eq_some_iff.mp H
  obtain ⟨t204, A20, H⟩ := H
  replace H : (some t204) = some r := H
  have A2 := Aside0.mk A20
  clear A20
  obtain rfl := Option.some.inj H
  go_enter Try.func32, Try.ntmps32
  go_wp2_with (first | ((with_reducible refine gate_dst (N := 1) rfl ?_); refine box_event ?hg (N := 1) ?hd (cs := #[.int .i64 a0_0, .int .i64 a0_1]) (t := 42) ?hr ?_; (case hd => rfl); (case hg => rfl); (case hr => first | (go_simp; done) | (go_simp; rfl)); intro gb203 hg w3 hbox hb; have n0_ := Aside0.mk (below_step (by repeat (first | (with_reducible first | exact HB.out | apply below_alloc | apply pw_below_drewN | apply below_drew1) | exact HB.out)) hb); have n1_ := Aside0.mk (hbox); have n2_ := Aside0.mk ((by rw [hg]; exact (below_size (by repeat (first | (with_reducible first | exact HB.out | apply below_alloc | apply pw_below_drewN | apply below_drew1) | exact HB.out))) : w.heap.size ≤ gb203)); have n3_ := Aside0.mk ((by rw [hg]; exact (below_size (by repeat (first | (with_reducible first | exact HB.out | apply below_alloc | apply pw_below_drewN | apply below_drew1) | exact HB.out))) : w.heap.size ≤ gb203)); clear HB; have HB := n0_; have BK203 := n1_; have GW203 := n2_; have GE203 := n3_; clear n0_ n1_ n2_ n3_; clear hb hbox hg; have hcz4_0 : w3.cell? ⟨gb203, 0, none⟩ = some (.int .i64 a0_0) := (blk_cell BK203.out 0).trans rfl; have hcz4_1 : w3.cell? ⟨gb203, 1, none⟩ = some (.int .i64 a0_1) := (blk_cell BK203.out 1).trans rfl; have hfz4_0 := blk_frozen BK203.out 0; have hfz4_1 := blk_frozen BK203.out 1) | ((with_reducible refine gate_callee (f := 51) rfl ?_); refine goesL_ (some 4) rfl rfl Try.func51 (by kernel_rfl) rfl #[.agg #[.int .i64 a0_0, .int .i64 a0_1]] rfl (by (try simp only [List.map_toArray, List.map_cons, List.map_nil]); first | done | rfl | (simp only [List.length_drop, List.length_take]; rfl)) ?_; (with_reducible refine (encoding_convertTimeToLongdate.calls a0_0 a0_1 t204 _ A2.out).mono ?_); rintro e w5 ⟨rfl, hb⟩; refine ⟨_, rfl, ?_⟩; have n0_ := Aside0.mk (blk_below (g := gb203) (o := .cells #[.int .i64 a0_0, .int .i64 a0_1] 42 (0, 0)) (by (with_reducible repeat (first | refine blk_drewN ?_ _ | refine blk_drew ?_ | refine blk_alloc ?_ _)); exact BK203.out) hb); have n1_ := Aside0.mk (below_step (by repeat (first | (with_reducible first | exact HB.out | apply below_alloc | apply pw_below_drewN | apply below_drew1 | refine below_set ?_ GE203.out) | exact HB.out)) hb); clear BK203; clear HB; have BK203 := n0_; have HB := n1_; clear n0_ n1_; (try clear hb); (try clear hb2); (try clear hk); (try clear hi)))
  go_ret
  exact ⟨by first | rfl | (simp [errW_none, errW_some] <;> rfl) | (simp [*, errW_none, errW_some] <;> rfl), by repeat (first | (with_reducible first | exact HB.out | apply below_alloc | apply pw_below_drewN | apply below_drew1 | refine below_set ?_ GE203.out) | exact HB.out)⟩

/-! ### encoding_convertTimeToSeconddate: function 52 -/
def encoding_convertTimeToSeconddate.f (a0_0 : Int) (a0_1 : Int) : Option (Int) := (encoding_convertTimeToDayDate.f a0_0 a0_1).bind fun t206 => ((zztime_Time_Hour.f a0_0 a0_1).bind fun t207 => ((zztime_Time_Minute.f a0_0 a0_1).bind fun t208 => ((zztime_Time_Second.f a0_0 a0_1).bind fun t209 => (some (wrap64 ((wrap64 ((wrap64 ((wrap64 ((wrap64 ((wrap64 ((wrap64 ((wrap64 (t206 - 1)) * 24)) + t207)) * 60)) + t208)) * 60)) + t209)) + 1))))))
def encoding_convertTimeToSeconddate.T1 : Bool × List (List Nat × List Nat) := (true, [([], []), ([0], [0]), ([1], [1]), ([2], [2]), ([], []), ([4, 1], [4]), ([3, 5], [3, 5]), ([6], [6]), ([], []), ([8, 5], [8]), ([7, 9], [7, 9]), ([10], [10]), ([], []), ([12, 9], [12]), ([11, 13], [11, 13]), ([14], [14]), ([15, 13, 0, 1, 2, 3, 4, 5, 6, 7, 8, 9, 10, 11, 12, 13, 14, 15], [15])])
def encoding_convertTimeToSeconddate.B1 : List Nat := [0, 1, 3, 7, 0, 19, 63, 127, 0, 307, 1023, 2047, 0, 4915, 16383, 32767, 65535]
theorem encoding_convertTimeToSeconddate.tab1 : rtab .any (opsOf Try.f52 1) = encoding_convertTimeToSeconddate.T1 := by kernel_rfl
theorem encoding_convertTimeToSeconddate.bits1 : waitsOk encoding_convertTimeToSeconddate.T1.2 encoding_convertTimeToSeconddate.B1 = true := by kernel_rfl
set_option maxHeartbeats 8000000 in
set_option maxRecDepth 100000 in
theorem encoding_convertTimeToSeconddate.calls (a0_0 : Int) (a0_1 : Int) (r : Int) (w : World) (h : encoding_convertTimeToSeconddate.f a0_0 a0_1 = some r) :
    Calls Try.prog 52 #[.agg #[.int .i64 a0_0, .int .i64 a0_1]] w fun e w' => e = .returned (.int .i64 r) ∧ Below w.heap.size w w' := by
  have hu42 := Try.underlying42
  have HB := Aside0.mk (Below.refl w.heap.size w)
  have H : ((encoding_convertTimeToDayDate.f a0_0 a0_1).bind fun t206 => ((zztime_Time_Hour.f a0_0 a0_1).bind fun t207 => ((zztime_Time_Minute.f a0_0 a0_1).bind fun t208 => ((zztime_Time_Second.f a0_0 a0_1).bind fun t209 => (some (wrap64 ((wrap64 ((wrap64 ((wrap64 ((wrap64 ((wrap64 ((wrap64 ((wrap64 (t206 - 1)) * 24)) + t207)) * 60)) + t208)) * 60)) + t209)) + 1))))))) = some r := h
  clear h
  replace H := Option.bind_eq_some_iff.mp H
  obtain ⟨t206, A20, H⟩ := H
  replace H : ((zztime_Time_Hour.f a0_0 a0_1).bind fun t207 => ((zztime_Time_Minute.f a0_0 a0_1).bind fun t208 => ((zztime_Time_Second.f a0_0 a0_1).bind fun t209 => (some (wrap64 ((wrap64 ((wrap64 ((wrap64 ((wrap64 ((wrap64 ((wrap64 ((wrap64 (t206 - 1)) * 24)) + t207)) * 60)) + t208)) * 60)) + t209)) + 1)))))) = some r := H
  have A2 := Aside0.mk A20
  clear A20
  replace H := Option.bind_eq_some_iff.mp H
  obtain ⟨t207, A30, H⟩ := H
  replace H : ((zztime_Time_Minute.f a0_0 a0_1).bind fun t208 => ((zztime_Time_Second.f a0_0 a0_1).bind fun t209 => (some (wrap64 ((wrap64 ((wrap64 ((wrap64 ((wrap64 ((wrap64 ((wrap64 ((wrap64 (t206 - 1)) * 24)) + t207)) * 60)) + t208)) * 60)) + t209)) + 1))))) = some r := H
  have A3 := Aside0.mk A30
  clear A30
  replace H := Option.bind_eq_some_iff.mp H
  obtain ⟨t208, A40, H⟩ := H
  replace H : ((zztime_Time_Second.f a0_0 a0_1).bind fun t209 => (some (wrap64 ((wrap64 ((wrap64 ((wrap64 ((wrap64 ((wrap64 ((wrap64 ((wrap64 (t206 - 1)) * 24)) + t207)) * 60)) + t208)) * 60)) + t209)) + 1)))) = some r := H
  have A4 := Aside0.mk A40
  clear A40
  replace H := Option.bind_eq_some_iff.mp H
  obtain ⟨t209, A50, H⟩ := H
  replace H : (some (wrap64 ((wrap64 ((wrap64 ((wrap64 ((wrap64 ((wrap64 ((wrap64 ((wrap64 (t206 - 1)) * 24)) + t207)) * 60)) + t208)) * 60)) + t209)) + 1))) = some r := H
  have A5 := Aside0.mk A50
  clear A50
  obtain rfl := Option.some.inj H
  go_enter Try.func52, Try.ntmps52
  try go_wp2_with (first | ((with_reducible refine gate_dst (N := 1) rfl ?_); refine box_event ?hg (N := 1) ?hd (cs := #[.int .i64 a0_0, .int .i64 a0_1]) (t := 42) ?hr ?_; (case hd => rfl); (case hg => rfl); (case hr => first | (go_simp; done) | (go_simp; rfl)); intro gb205 hg w6 hbox hb; have n0_ := Aside0.mk (below_step (by repeat (first | (with_reducible first | exact HB.out | apply below_alloc | apply pw_below_drewN | apply below_drew1) | exact HB.out)) hb); have n1_ := Aside0.mk (hbox); have n2_ := Aside0.mk ((by rw [hg]; exact (below_size (by repeat (first | (with_reducible first | exact HB.out | apply below_alloc | apply pw_below_drewN | apply below_drew1) | exact HB.out))) : w.heap.size ≤ gb205)); have n3_ := Aside0.mk ((by rw [hg]; exact (below_size (by repeat (first | (with_reducible first | exact HB.out | apply below_alloc | apply pw_below_drewN | apply below_drew1) | exact HB.out))) : w.heap.size ≤ gb205)); clear HB; have HB := n0_; have BK205 := n1_; have GW205 := n2_; have GE205 := n3_; clear n0_ n1_ n2_ n3_; clear hb hbox hg))
  have n0_ := Aside0.mk (blk_drew BK205.out)
  have n1_ := Aside0.mk (below_drew1 HB.out)
  clear BK205
  clear HB
  have BK205 := n0_
  have HB := n1_
  clear n0_ n1_
  refine start_ (n := 17) (S := fun w' => w'.cell? ⟨gb205, 0, none⟩ = some (.int .i64 a0_0) ∧ w'.cell? ⟨gb205, 1, none⟩ = some (.int .i64 a0_1)) (ds := []) #[false, false, false, false, false, false, false, false, false, false, false, false, false, false, false, false, false] (by kernel_rfl) rfl rfl ⟨(blk_cell BK205.out 0).trans rfl, (blk_cell BK205.out 1).trans rfl⟩ (fun hHeld => ?_); refine with_tabW encoding_convertTimeToSeconddate.tab1 encoding_convertTimeToSeconddate.bits1 (fun HT_ HW_ => ?_)
  generalize w6.drew = w7 at BK205 HB hHeld ⊢
  refine take_ (i := 0) (N := some 3) (v := ?_) (a' := ?_) #[true, false, false, false, false, false, false, false, false, false, false, false, false, false, false, false, false] rfl rfl (take_ofW HT_.out HW_.out (by kernel_rfl)) (fun _ _ _ h => h) (Or.inl ⟨by rfl, ?_⟩) hHeld ?_ ?_
  rotate_left
  · rintro w' ⟨s0, s1⟩
    go_simp
    with_reducible rfl
  rotate_left
  · simp only [Act.put, List.setIfInBounds_toArray, List.set_cons_zero, List.set_cons_succ, i64_w, i32_w]
    rfl
  refine take_ (i := 4) (N := some 7) (v := ?_) (a' := ?_) #[true, false, false, false, true, false, false, false, false, false, false, false, false, false, false, false, false] rfl rfl (take_ofW HT_.out HW_.out (by kernel_rfl)) (fun _ _ _ h => h) (Or.inl ⟨by rfl, ?_⟩) hHeld ?_ ?_
  rotate_left
  · rintro w' ⟨s0, s1⟩
    go_simp
    with_reducible rfl
  rotate_left
  · simp only [Act.put, List.setIfInBounds_toArray, List.set_cons_zero, List.set_cons_succ, i64_w, i32_w]
    rfl
  refine take_ (i := 8) (N := some 11) (v := ?_) (a' := ?_) #[true, false, false, false, true, false, false, false, true, false, false, false, false, false, false, false, false] rfl rfl (take_ofW HT_.out HW_.out (by kernel_rfl)) (fun _ _ _ h => h) (Or.inl ⟨by rfl, ?_⟩) hHeld ?_ ?_
  rotate_left
  · rintro w' ⟨s0, s1⟩
    go_simp
    with_reducible rfl
  rotate_left
  · simp only [Act.put, List.setIfInBounds_toArray, List.set_cons_zero, List.set_cons_succ, i64_w, i32_w]
    rfl
  refine take_ (i := 12) (N := some 15) (v := ?_) (a' := ?_) #[true, false, false, false, true, false, false, false, true, false, false, false, true, false, false, false, false] rfl rfl (take_ofW HT_.out HW_.out (by kernel_rfl)) (fun _ _ _ h => h) (Or.inl ⟨by rfl, ?_⟩) hHeld ?_ ?_
  rotate_left
  · rintro w' ⟨s0, s1⟩
    go_simp
    with_reducible rfl
  rotate_left
  · simp only [Act.put, List.setIfInBounds_toArray, List.set_cons_zero, List.set_cons_succ, i64_w, i32_w]
    rfl
  refine one_ (i := 1) (N := some 4) #[true, true, false, false, true, false, false, false, true, false, false, false, true, false, false, false, false] rfl rfl (one_of HT_.out (by kernel_rfl)) (by decide) (fun K hK => ?_)
  refine goes_ Try.func53 (by kernel_rfl) rfl #[.agg #[.int .i64 a0_0, .int .i64 a0_1]] (by rfl) rfl rfl (by (try simp only [List.map_toArray, List.map_cons, List.map_nil]); first | done | rfl | (simp only [List.length_drop, List.length_take]; rfl)) ?_
  with_reducible refine (encoding_convertTimeToDayDate.calls a0_0 a0_1 t206 _ A2.out).mono ?_
  rintro e w8 ⟨rfl, hb⟩
  refine ⟨_, rfl, ?_⟩
  have n0_ := Aside0.mk (blk_below (g := gb205) (o := .cells #[.int .i64 a0_0, .int .i64 a0_1] 42 (0, 0)) (by (with_reducible repeat (first | refine blk_drewN ?_ _ | refine blk_drew ?_ | refine blk_alloc ?_ _)); exact BK205.out) hb)
  have n1_ := Aside0.mk (below_step (by repeat (first | (with_reducible first | exact HB.out | apply below_alloc | apply pw_below_drewN | apply below_drew1 | refine below_set ?_ GE205.out) | exact HB.out)) hb)
  clear BK205
  clear HB
  have BK205 := n0_
  have HB := n1_
  clear n0_ n1_
  (try clear hb)
  (try clear hb2)
  (try clear hk)
  (try clear hi)
  refine hK.out _ _ ⟨(blk_cell BK205.out 0).trans rfl, (blk_cell BK205.out 1).trans rfl⟩ (fun hHeld => ?_)
  clear hK K
  refine norm_ (a' := ?_) ?_ ?_
  rotate_left
  · show Act.put _ (some 4) _ = _
    simp only [Act.put, List.setIfInBounds_toArray, List.set_cons_zero, List.set_cons_succ, i64_w, i32_w]
    rfl
  refine pure_ (i := 2) (N := some 5) (v := ?_) (a' := ?_) #[true, true, true, false, true, false, false, false, true, false, false, false, true, false, false, false, false] rfl rfl (any_of HT_.out (by kernel_rfl)) (fun _ _ _ h => h) (Or.inl ⟨by rfl, ?_⟩) ?_ ?_
  rotate_left
  · intro w'
    go_simp
    with_reducible rfl
  rotate_left
  · simp only [Act.put, List.setIfInBounds_toArray, List.set_cons_zero, List.set_cons_succ, i64_w, i32_w]
    rfl
  refine pure_ (i := 3) (N := some 6) (v := ?_) (a' := ?_) #[true, true, true, true, true, false, false, false, true, false, false, false, true, false, false, false, false] rfl rfl (any_of HT_.out (by kernel_rfl)) (fun _ _ _ h => h) (Or.inl ⟨by rfl, ?_⟩) ?_ ?_
  rotate_left
  · intro w'
    go_simp
    with_reducible rfl
  rotate_left
  · simp only [Act.put, List.setIfInBounds_toArray, List.set_cons_zero, List.set_cons_succ, i64_w, i32_w]
    rfl
  refine one_ (i := 5) (N := some 8) #[true, true, true, true, true, true, false, false, true, false, false, false, true, false, false, false, false] rfl rfl (one_of HT_.out (by kernel_rfl)) (by decide) (fun K hK => ?_)
  refine goes_ Try.func42 (by kernel_rfl) rfl #[.agg #[.int .i64 a0_0, .int .i64 a0_1]] (by rfl) rfl rfl (by (try simp only [List.map_toArray, List.map_cons, List.map_nil]); first | done | rfl | (simp only [List.length_drop, List.length_take]; rfl)) ?_
  with_reducible refine (zztime_Time_Hour.calls a0_0 a0_1 t207 _ A3.out).mono ?_
  rintro e w9 ⟨rfl, hb⟩
  refine ⟨_, rfl, ?_⟩
  have n0_ := Aside0.mk (blk_below (g := gb205) (o := .cells #[.int .i64 a0_0, .int .i64 a0_1] 42 (0, 0)) (by (with_reducible repeat (first | refine blk_drewN ?_ _ | refine blk_drew ?_ | refine blk_alloc ?_ _)); exact BK205.out) hb)
  have n1_ := Aside0.mk (below_step (by repeat (first | (with_reducible first | exact HB.out | apply below_alloc | apply pw_below_drewN | apply below_drew1 | refine below_set ?_ GE205.out) | exact HB.out)) hb)
  clear BK205
  clear HB
  have BK205 := n0_
  have HB := n1_
  clear n0_ n1_
  (try clear hb)
  (try clear hb2)
  (try clear hk)
  (try clear hi)
  refine hK.out _ _ ⟨(blk_cell BK205.out 0).trans rfl, (blk_cell BK205.out 1).trans rfl⟩ (fun hHeld => ?_)
  clear hK K
  refine norm_ (a' := ?_) ?_ ?_
  rotate_left
  · show Act.put _ (some 8) _ = _
    simp only [Act.put, List.setIfInBounds_toArray, List.set_cons_zero, List.set_cons_succ, i64_w, i32_w]
    rfl
  refine pure_ (i := 6) (N := some 9) (v := ?_) (a' := ?_) #[true, true, true, true, true, true, true, false, true, false, false, false, true, false, false, false, false] rfl rfl (any_of HT_.out (by kernel_rfl)) (fun _ _ _ h => h) (Or.inl ⟨by rfl, ?_⟩) ?_ ?_
  rotate_left
  · intro w'
    go_simp
    with_reducible rfl
  rotate_left
  · simp only [Act.put, List.setIfInBounds_toArray, List.set_cons_zero, List.set_cons_succ, i64_w, i32_w]
    rfl
  refine pure_ (i := 7) (N := some 10) (v := ?_) (a' := ?_) #[true, true, true, true, true, true, true, true, true, false, false, false, true, false, false, false, false] rfl rfl (any_of HT_.out (by kernel_rfl)) (fun _ _ _ h => h) (Or.inl ⟨by rfl, ?_⟩) ?_ ?_
  rotate_left
  · intro w'
    go_simp
    with_reducible rfl
  rotate_left
  · simp only [Act.put, List.setIfInBounds_toArray, List.set_cons_zero, List.set_cons_succ, i64_w, i32_w]
    rfl
  refine one_ (i := 9) (N := some 12) #[true, true, true, true, true, true, true, true, true, true, false, false, true, false, false, false, false] rfl rfl (one_of HT_.out (by kernel_rfl)) (by decide) (fun K hK => ?_)
  refine goes_ Try.func43 (by kernel_rfl) rfl #[.agg #[.int .i64 a0_0, .int .i64 a0_1]] (by rfl) rfl rfl (by (try simp only [List.map_toArray, List.map_cons, List.map_nil]); first | done | rfl | (simp only [List.length_drop, List.length_take]; rfl)) ?_
  with_reducible refine (zztime_Time_Minute.calls a0_0 a0_1 t208 _ A4.out).mono ?_
  rintro e w10 ⟨rfl, hb⟩
  refine ⟨_, rfl, ?_⟩
  have n0_ := Aside0.mk (blk_below (g := gb205) (o := .cells #[.int .i64 a0_0, .int .i64 a0_1] 42 (0, 0)) (by (with_reducible repeat (first | refine blk_drewN ?_ _ | refine blk_drew ?_ | refine blk_alloc ?_ _)); exact BK205.out) hb)
  have n1_ := Aside0.mk (below_step (by repeat (first | (with_reducible first | exact HB.out | apply below_alloc | apply pw_below_drewN | apply below_drew1 | refine below_set ?_ GE205.out) | exact HB.out)) hb)
  clear BK205
  clear HB
  have BK205 := n0_
  have HB := n1_
  clear n0_ n1_
  (try clear hb)
  (try clear hb2)
  (try clear hk)
  (try clear hi)
  refine hK.out _ _ ⟨(blk_cell BK205.out 0).trans rfl, (blk_cell BK205.out 1).trans rfl⟩ (fun hHeld => ?_)
  clear hK K
  refine norm_ (a' := ?_) ?_ ?_
  rotate_left
  · show Act.put _ (some 12) _ = _
    simp only [Act.put, List.setIfInBounds_toArray, List.set_cons_zero, List.set_cons_succ, i64_w, i32_w]
    rfl
  refine pure_ (i := 10) (N := some 13) (v := ?_) (a' := ?_) #[true, true, true, true, true, true, true, true, true, true, true, false, true, false, false, false, false] rfl rfl (any_of HT_.out (by kernel_rfl)) (fun _ _ _ h => h) (Or.inl ⟨by rfl, ?_⟩) ?_ ?_
  rotate_left
  · intro w'
    go_simp
    with_reducible rfl
  rotate_left
  · simp only [Act.put, List.setIfInBounds_toArray, List.set_cons_zero, List.set_cons_succ, i64_w, i32_w]
    rfl
  refine pure_ (i := 11) (N := some 14) (v := ?_) (a' := ?_) #[true, true, true, true, true, true, true, true, true, true, true, true, true, false, false, false, false] rfl rfl (any_of HT_.out (by kernel_rfl)) (fun _ _ _ h => h) (Or.inl ⟨by rfl, ?_⟩) ?_ ?_
  rotate_left
  · intro w'
    go_simp
    with_reducible rfl
  rotate_left
  · simp only [Act.put, List.setIfInBounds_toArray, List.set_cons_zero, List.set_cons_succ, i64_w, i32_w]
    rfl
  refine one_ (i := 13) (N := some 16) #[true, true, true, true, true, true, true, true, true, true, true, true, true, true, false, false, false] rfl rfl (one_of HT_.out (by kernel_rfl)) (by decide) (fun K hK => ?_)
  refine goes_ Try.func44 (by kernel_rfl) rfl #[.agg #[.int .i64 a0_0, .int .i64 a0_1]] (by rfl) rfl rfl (by (try simp only [List.map_toArray, List.map_cons, List.map_nil]); first | done | rfl | (simp only [List.length_drop, List.length_take]; rfl)) ?_
  with_reducible refine (zztime_Time_Second.calls a0_0 a0_1 t209 _ A5.out).mono ?_
  rintro e w11 ⟨rfl, hb⟩
  refine ⟨_, rfl, ?_⟩
  have n0_ := Aside0.mk (blk_below (g := gb205) (o := .cells #[.int .i64 a0_0, .int .i64 a0_1] 42 (0, 0)) (by (with_reducible repeat (first | refine blk_drewN ?_ _ | refine blk_drew ?_ | refine blk_alloc ?_ _)); exact BK205.out) hb)
  have n1_ := Aside0.mk (below_step (by repeat (first | (with_reducible first | exact HB.out | apply below_alloc | apply pw_below_drewN | apply below_drew1 | refine below_set ?_ GE205.out) | exact HB.out)) hb)
  clear BK205
  clear HB
  have BK205 := n0_
  have HB := n1_
  clear n0_ n1_
  (try clear hb)
  (try clear hb2)
  (try clear hk)
  (try clear hi)
  refine hK.out _ _ ⟨(blk_cell BK205.out 0).trans rfl, (blk_cell BK205.out 1).trans rfl⟩ (fun hHeld => ?_)
  clear hK K
  refine norm_ (a' := ?_) ?_ ?_
  rotate_left
  · show Act.put _ (some 16) _ = _
    simp only [Act.put, List.setIfInBounds_toArray, List.set_cons_zero, List.set_cons_succ, i64_w, i32_w]
    rfl
  refine pure_ (i := 14) (N := some 17) (v := ?_) (a' := ?_) #[true, true, true, true, true, true, true, true, true, true, true, true, true, true, true, false, false] rfl rfl (any_of HT_.out (by kernel_rfl)) (fun _ _ _ h => h) (Or.inl ⟨by rfl, ?_⟩) ?_ ?_
  rotate_left
  · intro w'
    go_simp
    with_reducible rfl
  rotate_left
  · simp only [Act.put, List.setIfInBounds_toArray, List.set_cons_zero, List.set_cons_succ, i64_w, i32_w]
    rfl
  refine pure_ (i := 15) (N := some 18) (v := ?_) (a' := ?_) #[true, true, true, true, true, true, true, true, true, true, true, true, true, true, true, true, false] rfl rfl (any_of HT_.out (by kernel_rfl)) (fun _ _ _ h => h) (Or.inl ⟨by rfl, ?_⟩) ?_ ?_
  rotate_left
  · intro w'
    go_simp
    with_reducible rfl
  rotate_left
  · simp only [Act.put, List.setIfInBounds_toArray, List.set_cons_zero, List.set_cons_succ, i64_w, i32_w]
    rfl
  refine pure_ (i := 16) (N := some 2) (v := ?_) (a' := ?_) #[true, true, true, true, true, true, true, true, true, true, true, true, true, true, true, true, true] rfl rfl (any_of HT_.out (by kernel_rfl)) (fun _ _ _ h => h) (Or.inl ⟨by rfl, ?_⟩) ?_ ?_
  rotate_left
  · intro w'
    go_simp
    with_reducible rfl
  rotate_left
  · simp only [Act.put, List.setIfInBounds_toArray, List.set_cons_zero, List.set_cons_succ, i64_w, i32_w]
    rfl
  refine done_ (done_of HT_.out (by kernel_rfl)) ?_
  try go_wp2
  go_ret
  exact ⟨by first | rfl | (simp [errW_none, errW_some] <;> rfl) | (simp [*, errW_none, errW_some] <;> rfl), by repeat (first | (with_reducible first | exact HB.out | apply below_alloc | apply pw_below_drewN | apply below_drew1 | refine below_set ?_ GE205.out) | exact HB.out)⟩

/-! ### encoding_ZzSeconddateOf: function 33 -/
def encoding_ZzSeconddateOf.f (a0_0 : Int) (a0_1 : Int) : Option (Int) := (encoding_convertTimeToSeconddate.f a0_0 a0_1).bind fun t211 => (some t211)
set_option maxHeartbeats 8000000 in
set_option maxRecDepth 100000 in
theorem encoding_ZzSeconddateOf.calls (a0_0 : Int) (a0_1 : Int) (r : Int) (w : World) (h : encoding_ZzSeconddateOf.f a0_0 a0_1 = some r) :
    Calls Try.prog 33 #[.agg #[.int .i64 a0_0, .int .i64 a0_1]] w fun e w' => e = .returned (.int .i64 r) ∧ Below w.heap.size w w' := by
  have hu42 := Try.underlying42
  have HB := Aside0.mk (Below.refl w.heap.size w)
  have H : ((encoding_convertTimeToSeconddate.f a0_0 a0_1).bind fun t211 => (some t211)) = some r := h
  clear h
  replace H := Option.bind_eq_some_iff.mp H
  obtain ⟨t211, A20, H⟩ := H
  replace H : (some t211) = some r := H
  have A2 := Aside0.mk A20
  clear A20
  obtain rfl := Option.some.inj H
  go_enter Try.func33, Try.ntmps33
  go_wp2_with (first | ((with_reducible refine gate_dst (N := 1) rfl ?_); refine box_event ?hg (N := 1) ?hd (cs := #[.int .i64 a0_0, .int .i64 a0_1]) (t := 42) ?hr ?_; (case hd => rfl); (case hg => rfl); (case hr => first | (go_simp; done) | (go_simp; rfl)); intro gb210 hg w3 hbox hb; have n0_ := Aside0.mk (below_step (by repeat (first | (with_reducible first | exact HB.out | apply below_alloc | apply pw_below_drewN | apply below_drew1) | exact HB.out)) hb); have n1_ := Aside0.mk (hbox); have n2_ := Aside0.mk ((by rw [hg]; exact (below_size (by repeat (first | (with_reducible first | exact HB.out | apply below_alloc | apply pw_below_drewN | apply below_drew1) | exact HB.out))) : w.heap.size ≤ gb210)); have n3_ := Aside0.mk ((by rw [hg]; exact (below_size (by repeat (first | (with_reducible first | exact HB.out | apply below_alloc | apply pw_below_drewN | apply below_drew1) | exact HB.out))) : w.heap.size ≤ gb210)); clear HB; have HB := n0_; have BK210 := n1_; have GW210 := n2_; have GE210 := n3_; clear n0_ n1_ n2_ n3_; clear hb hbox hg; have hcz4_0 : w3.cell? ⟨gb210, 0, none⟩ = some (.int .i64 a0_0) := (blk_cell BK210.out 0).trans rfl; have hcz4_1 : w3.cell? ⟨gb210, 1, none⟩ = some (.int .i64 a0_1) := (blk_cell BK210.out 1).trans rfl; have hfz4_0 := blk_frozen BK210.out 0; have hfz4_1 := blk_frozen BK210.out 1) | ((with_reducible refine gate_callee (f := 52) rfl ?_); refine goesL_ (some 4) rfl rfl Try.func52 (by kernel_rfl) rfl #[.agg #[.int .i64 a0_0, .int .i64 a0_1]] rfl (by (try simp only [List.map_toArray, List.map_cons, List.map_nil]); first | done | rfl | (simp only [List.length_drop, List.length_take]; rfl)) ?_; (with_reducible refine (encoding_convertTimeToSeconddate.calls a0_0 a0_1 t211 _ A2.out).mono ?_); rintro e w5 ⟨rfl, hb⟩; refine ⟨_, rfl, ?_⟩; have n0_ := Aside0.mk (blk_below (g := gb210) (o := .cells #[.int .i64 a0_0, .int .i64 a0_1] 42 (0, 0)) (by (with_reducible repeat (first | refine blk_drewN ?_ _ | refine blk_drew ?_ | refine blk_alloc ?_ _)); exact BK210.out) hb); have n1_ := Aside0.mk (below_step (by repeat (first | (with_reducible first | exact HB.out | apply below_alloc | apply pw_below_drewN | apply below_drew1 | refine below_set ?_ GE210.out) | exact HB.out)) hb); clear BK210; clear HB; have BK210 := n0_; have HB := n1_; clear n0_ n1_; (try clear hb); (try clear hb2); (try clear hk); (try clear hi)))
  go_ret
  exact ⟨by first | rfl | (simp [errW_none, errW_some] <;> rfl) | (simp [*, errW_none, errW_some] <;> rfl), by repeat (first | (with_reducible first | exact HB.out | apply below_alloc | apply pw_below_drewN | apply below_drew1 | refine below_set ?_ GE210.out) | exact HB.out)⟩

/-! ### encoding_ZzDaydateOf: function 34 -/
def encoding_ZzDaydateOf.f (a0_0 : Int) (a0_1 : Int) : Option (Int) := (encoding_convertTimeToDayDate.f a0_0 a0_1).bind fun t213 => (some t213)
set_option maxHeartbeats 8000000 in
set_option maxRecDepth 100000 in
theorem encoding_ZzDaydateOf.calls (a0_0 : Int) (a0_1 : Int) (r : Int) (w : World) (h : encoding_ZzDaydateOf.f a0_0 a0_1 = some r) :
    Calls Try.prog 34 #[.agg #[.int .i64 a0_0, .int .i64 a0_1]] w fun e w' => e = .returned (.int .i64 r) ∧ Below w.heap.size w w' := by
  have hu42 := Try.underlying42
  have HB := Aside0.mk (Below.refl w.heap.size w)
  have H : ((encoding_convertTimeToDayDate.f a0_0 a0_1).bind fun t213 => (some t213)) = some r := h
  clear h
  replace H := Option.bind_eq_some_iff.mp H
  obtain ⟨t213, A20, H⟩ := H
  replace H : (some t213) = some r := H
  have A2 := Aside0.mk A20
  clear A20
  obtain rfl := Option.some.inj H
  go_enter Try.func34, Try.ntmps34
  go_wp2_with (first | ((with_reducible refine gate_dst (N := 1) rfl ?_); refine box_event ?hg (N := 1) ?hd (cs := #[.int .i64 a0_0, .int .i64 a0_1]) (t := 42) ?hr ?_; (case hd => rfl); (case hg => rfl); (case hr => first | (go_simp; done) | (go_simp; rfl)); intro gb212 hg w3 hbox hb; have n0_ := Aside0.mk (below_step (by repeat (first | (with_reducible first | exact HB.out | apply below_alloc | apply pw_below_drewN | apply below_drew1) | exact HB.out)) hb); have n1_ := Aside0.mk (hbox); have n2_ := Aside0.mk ((by rw [hg]; exact (below_size (by repeat (first | (with_reducible first | exact HB.out | apply below_alloc | apply pw_below_drewN | apply below_drew1) | exact HB.out))) : w.heap.size ≤ gb212)); have n3_ := Aside0.mk ((by rw [hg]; exact (below_size (by repeat (first | (with_reducible first | exact HB.out | apply below_alloc | apply pw_below_drewN | apply below_drew1) | exact HB.out))) : w.heap.size ≤ gb212)); clear HB; have HB := n0_; have BK212 := n1_; have GW212 := n2_; have GE212 := n3_; clear n0_ n1_ n2_ n3_; clear hb hbox hg; have hcz4_0 : w3.cell? ⟨gb212, 0, none⟩ = some (.int .i64 a0_0) := (blk_cell BK212.out 0).trans rfl; have hcz4_1 : w3.cell? ⟨gb212, 1, none⟩ = some (.int .i64 a0_1) := (blk_cell BK212.out 1).trans rfl; have hfz4_0 := blk_frozen BK212.out 0; have hfz4_1 := blk_frozen BK212.out 1) | ((with_reducible refine gate_callee (f := 53) rfl ?_); refine goesL_ (some 4) rfl rfl Try.func53 (by kernel_rfl) rfl #[.agg #[.int .i64 a0_0, .int .i64 a0_1]] rfl (by (try simp only [List.map_toArray, List.map_cons, List.map_nil]); first | done | rfl | (simp only [List.length_drop, List.length_take]; rfl)) ?_; (with_reducible refine (encoding_convertTimeToDayDate.calls a0_0 a0_1 t213 _ A2.out).mono ?_); rintro e w5 ⟨rfl, hb⟩; refine ⟨_, rfl, ?_⟩; have n0_ := Aside0.mk (blk_below (g := gb212) (o := .cells #[.int .i64 a0_0, .int .i64 a0_1] 42 (0, 0)) (by (with_reducible repeat (first | refine blk_drewN ?_ _ | refine blk_drew ?_ | refine blk_alloc ?_ _)); exact BK212.out) hb); have n1_ := Aside0.mk (below_step (by repeat (first | (with_reducible first | exact HB.out | apply below_alloc | apply pw_below_drewN | apply below_drew1 | refine below_set ?_ GE212.out) | exact HB.out)) hb); clear BK212; clear HB; have BK212 := n0_; have HB := n1_; clear n0_ n1_; (try clear hb); (try clear hb2); (try clear hk); (try clear hi)))
  go_ret
  exact ⟨by first | rfl | (simp [errW_none, errW_some] <;> rfl) | (simp [*, errW_none, errW_some] <;> rfl), by repeat (first | (with_reducible first | exact HB.out | apply below_alloc | apply pw_below_drewN | apply below_drew1 | refine below_set ?_ GE212.out) | exact HB.out)⟩

/-! ### encoding_convertTimeToSecondtime: function 54 -/
def encoding_convertTimeToSecondtime.f (a0_0 : Int) (a0_1 : Int) : Option (Int) := (zztime_Time_Hour.f a0_0 a0_1).bind fun t215 => ((zztime_Time_Minute.f a0_0 a0_1).bind fun t216 => ((zztime_Time_Second.f a0_0 a0_1).bind fun t217 => (some (wrap64 ((wrap64 ((wrap64 ((wrap64 ((wrap64 (t215 * 60)) + t216)) * 60)) + t217)) + 1)))))
def encoding_convertTimeToSecondtime.T1 : Bool × List (List Nat × List Nat) := (true, [([], []), ([0], [0]), ([1], [1]), ([], []), ([3, 1], [3]), ([2, 4], [2, 4]), ([5], [5]), ([], []), ([7, 4], [7]), ([6, 8], [6, 8]), ([9], [9]), ([10, 8, 0, 1, 2, 3, 4, 5, 6, 7, 8, 9, 10], [10])])
def encoding_convertTimeToSecondtime.B1 : List Nat := [0, 1, 3, 0, 11, 31, 63, 0, 155, 511, 1023, 2047]
theorem encoding_convertTimeToSecondtime.tab1 : rtab .any (opsOf Try.f54 1) = encoding_convertTimeToSecondtime.T1 := by kernel_rfl
theorem encoding_convertTimeToSecondtime.bits1 : waitsOk encoding_convertTimeToSecondtime.T1.2 encoding_convertTimeToSecondtime.B1 = true := by kernel_rfl
set_option maxHeartbeats 8000000 in
set_option maxRecDepth 100000 in
theorem encoding_convertTimeToSecondtime.calls (a0_0 : Int) (a0_1 : Int) (r : Int) (w : World) (h : encoding_convertTimeToSecondtime.f a0_0 a0_1 = some r) :
    Calls Try.prog 54 #[.agg #[.int .i64 a0_0, .int .i64 a0_1]] w fun e w' => e = .returned (.int .i64 r) ∧ Below w.heap.size w w' := by
  have hu42 := Try.underlying42
  have HB := Aside0.mk (Below.refl w.heap.size w)
  have H : ((zztime_Time_Hour.f a0_0 a0_1).bind fun t215 => ((zztime_Time_Minute.f a0_0 a0_1).bind fun t216 => ((zztime_Time_Second.f a0_0 a0_1).bind fun t217 => (some (wrap64 ((wrap64 ((wrap64 ((wrap64 ((wrap64 (t215 * 60)) + t216)) * 60)) + t217)) + 1)))))) = some r := h
  clear h
  replace H := Option.bind_eq_some_iff.mp H
  obtain ⟨t215, A20, H⟩ := H
  replace H : ((zztime_Time_Minute.f a0_0 a0_1).bind fun t216 => ((zztime_Time_Second.f a0_0 a0_1).bind fun t217 => (some (wrap64 ((wrap64 ((wrap64 ((wrap64 ((wrap64 (t215 * 60)) + t216)) * 60)) + t217)) + 1))))) = some r := H
  have A2 := Aside0.mk A20
  clear A20
  replace H := Option.bind_eq_some_iff.mp H
  obtain ⟨t216, A30, H⟩ := H
  replace H : ((zztime_Time_Second.f a0_0 a0_1).bind fun t217 => (some (wrap64 ((wrap64 ((wrap64 ((wrap64 ((wrap64 (t215 * 60)) + t216)) * 60)) + t217)) + 1)))) = some r := H
  have A3 := Aside0.mk A30
  clear A30
  replace H := Option.bind_eq_some_iff.mp H
  obtain ⟨t217, A40, H⟩ := H
  replace H : (some (wrap64 ((wrap64 ((wrap64 ((wrap64 ((wrap64 (t215 * 60)) + t216)) * 60)) + t217)) + 1))) = some r := H
  have A4 := Aside0.mk A40
  clear A40
  obtain rfl := Option.some.inj H
  go_enter Try.func54, Try.ntmps54
  try go_wp2_with (first | ((with_reducible refine gate_dst (N := 1) rfl ?_); refine box_event ?hg (N := 1) ?hd (cs := #[.int .i64 a0_0, .int .i64 a0_1]) (t := 42) ?hr ?_; (case hd => rfl); (case hg => rfl); (case hr => first | (go_simp; done) | (go_simp; rfl)); intro gb214 hg w5 hbox hb; have n0_ := Aside0.mk (below_step (by repeat (first | (with_reducible first | exact HB.out | apply below_alloc | apply pw_below_drewN | apply below_drew1) | exact HB.out)) hb); have n1_ := Aside0.mk (hbox); have n2_ := Aside0.mk ((by rw [hg]; exact (below_size (by repeat (first | (with_reducible first | exact HB.out | apply below_alloc | apply pw_below_drewN | apply below_drew1) | exact HB.out))) : w.heap.size ≤ gb214)); have n3_ := Aside0.mk ((by rw [hg]; exact (below_size (by repeat (first | (with_reducible first | exact HB.out | apply below_alloc | apply pw_below_drewN | apply below_drew1) | exact HB.out))) : w.heap.size ≤ gb214)); clear HB; have HB := n0_; have BK214 := n1_; have GW214 := n2_; have GE214 := n3_; clear n0_ n1_ n2_ n3_; clear hb hbox hg))
  have n0_ := Aside0.mk (blk_drew BK214.out)
  have n1_ := Aside0.mk (below_drew1 HB.out)
  clear BK214
  clear HB
  have BK214 := n0_
  have HB := n1_
  clear n0_ n1_
  refine start_ (n := 12) (S := fun w' => w'.cell? ⟨gb214, 0, none⟩ = some (.int .i64 a0_0) ∧ w'.cell? ⟨gb214, 1, none⟩ = some (.int .i64 a0_1)) (ds := []) #[false, false, false, false, false, false, false, false, false, false, false, false] (by kernel_rfl) rfl rfl ⟨(blk_cell BK214.out 0).trans rfl, (blk_cell BK214.out 1).trans rfl⟩ (fun hHeld => ?_); refine with_tabW encoding_convertTimeToSecondtime.tab1 encoding_convertTimeToSecondtime.bits1 (fun HT_ HW_ => ?_)
  generalize w5.drew = w6 at BK214 HB hHeld ⊢
  refine take_ (i := 0) (N := some 3) (v := ?_) (a' := ?_) #[true, false, false, false, false, false, false, false, false, false, false, false] rfl rfl (take_ofW HT_.out HW_.out (by kernel_rfl)) (fun _ _ _ h => h) (Or.inl ⟨by rfl, ?_⟩) hHeld ?_ ?_
  rotate_left
  · rintro w' ⟨s0, s1⟩
    go_simp
    with_reducible rfl
  rotate_left
  · simp only [Act.put, List.setIfInBounds_toArray, List.set_cons_zero, List.set_cons_succ, i64_w, i32_w]
    rfl
  refine take_ (i := 3) (N := some 6) (v := ?_) (a' := ?_) #[true, false, false, true, false, false, false, false, false, false, false, false] rfl rfl (take_ofW HT_.out HW_.out (by kernel_rfl)) (fun _ _ _ h => h) (Or.inl ⟨by rfl, ?_⟩) hHeld ?_ ?_
  rotate_left
  · rintro w' ⟨s0, s1⟩
    go_simp
    with_reducible rfl
  rotate_left
  · simp only [Act.put, List.setIfInBounds_toArray, List.set_cons_zero, List.set_cons_succ, i64_w, i32_w]
    rfl
  refine take_ (i := 7) (N := some 10) (v := ?_) (a' := ?_) #[true, false, false, true, false, false, false, true, false, false, false, false] rfl rfl (take_ofW HT_.out HW_.out (by kernel_rfl)) (fun _ _ _ h => h) (Or.inl ⟨by rfl, ?_⟩) hHeld ?_ ?_
  rotate_left
  · rintro w' ⟨s0, s1⟩
    go_simp
    with_reducible rfl
  rotate_left
  · simp only [Act.put, List.setIfInBounds_toArray, List.set_cons_zero, List.set_cons_succ, i64_w, i32_w]
    rfl
  refine one_ (i := 1) (N := some 4) #[true, true, false, true, false, false, false, true, false, false, false, false] rfl rfl (one_of HT_.out (by kernel_rfl)) (by decide) (fun K hK => ?_)
  refine goes_ Try.func42 (by kernel_rfl) rfl #[.agg #[.int .i64 a0_0, .int .i64 a0_1]] (by rfl) rfl rfl (by (try simp only [List.map_toArray, List.map_cons, List.map_nil]); first | done | rfl | (simp only [List.length_drop, List.length_take]; rfl)) ?_
  with_reducible refine (zztime_Time_Hour.calls a0_0 a0_1 t215 _ A2.out).mono ?_
  rintro e w7 ⟨rfl, hb⟩
  refine ⟨_, rfl, ?_⟩
  have n0_ := Aside0.mk (blk_below (g := gb214) (o := .cells #[.int .i64 a0_0, .int .i64 a0_1] 42 (0, 0)) (by (with_reducible repeat (first | refine blk_drewN ?_ _ | refine blk_drew ?_ | refine blk_alloc ?_ _)); exact BK214.out) hb)
  have n1_ := Aside0.mk (below_step (by repeat (first | (with_reducible first | exact HB.out | apply below_alloc | apply pw_below_drewN | apply below_drew1 | refine below_set ?_ GE214.out) | exact HB.out)) hb)
  clear BK214
  clear HB
  have BK214 := n0_
  have HB := n1_
  clear n0_ n1_
  (try clear hb)
  (try clear hb2)
  (try clear hk)
  (try clear hi)
  refine hK.out _ _ ⟨(blk_cell BK214.out 0).trans rfl, (blk_cell BK214.out 1).trans rfl⟩ (fun hHeld => ?_)
  clear hK K
  refine norm_ (a' := ?_) ?_ ?_
  rotate_left
  · show Act.put _ (some 4) _ = _
    simp only [Act.put, List.setIfInBounds_toArray, List.set_cons_zero, List.set_cons_succ, i64_w, i32_w]
    rfl
  refine pure_ (i := 2) (N := some 5) (v := ?_) (a' := ?_) #[true, true, true, true, false, false, false, true, false, false, false, false] rfl rfl (any_of HT_.out (by kernel_rfl)) (fun _ _ _ h => h) (Or.inl ⟨by rfl, ?_⟩) ?_ ?_
  rotate_left
  · intro w'
    go_simp
    with_reducible rfl
  rotate_left
  · simp only [Act.put, List.setIfInBounds_toArray, List.set_cons_zero, List.set_cons_succ, i64_w, i32_w]
    rfl
  refine one_ (i := 4) (N := some 7) #[true, true, true, true, true, false, false, true, false, false, false, false] rfl rfl (one_of HT_.out (by kernel_rfl)) (by decide) (fun K hK => ?_)
  refine goes_ Try.func43 (by kernel_rfl) rfl #[.agg #[.int .i64 a0_0, .int .i64 a0_1]] (by rfl) rfl rfl (by (try simp only [List.map_toArray, List.map_cons, List.map_nil]); first | done | rfl | (simp only [List.length_drop, List.length_take]; rfl)) ?_
  with_reducible refine (zztime_Time_Minute.calls a0_0 a0_1 t216 _ A3.out).mono ?_
  rintro e w8 ⟨rfl, hb⟩
  refine ⟨_, rfl, ?_⟩
  have n0_ := Aside0.mk (blk_below (g := gb214) (o := .cells #[.int .i64 a0_0, .int .i64 a0_1] 42 (0, 0)) (by (with_reducible repeat (first | refine blk_drewN ?_ _ | refine blk_drew ?_ | refine blk_alloc ?_ _)); exact BK214.out) hb)
  have n1_ := Aside0.mk (below_step (by repeat (first | (with_reducible first | exact HB.out | apply below_alloc | apply pw_below_drewN | apply below_drew1 | refine below_set ?_ GE214.out) | exact HB.out)) hb)
  clear BK214
  clear HB
  have BK214 := n0_
  have HB := n1_
  clear n0_ n1_
  (try clear hb)
  (try clear hb2)
  (try clear hk)
  (try clear hi)
  refine hK.out _ _ ⟨(blk_cell BK214.out 0).trans rfl, (blk_cell BK214.out 1).trans rfl⟩ (fun hHeld => ?_)
  clear hK K
  refine norm_ (a' := ?_) ?_ ?_
  rotate_left
  · show Act.put _ (some 7) _ = _
    simp only [Act.put, List.setIfInBounds_toArray, List.set_cons_zero, List.set_cons_succ, i64_w, i32_w]
    rfl
  refine pure_ (i := 5) (N := some 8) (v := ?_) (a' := ?_) #[true, true, true, true, true, true, false, true, false, false, false, false] rfl rfl (any_of HT_.out (by kernel_rfl)) (fun _ _ _ h => h) (Or.inl ⟨by rfl, ?_⟩) ?_ ?_
  rotate_left
  · intro w'
    go_simp
    with_reducible rfl
  rotate_left
  · simp only [Act.put, List.setIfInBounds_toArray, List.set_cons_zero, List.set_cons_succ, i64_w, i32_w]
    rfl
  refine pure_ (i := 6) (N := some 9) (v := ?_) (a' := ?_) #[true, true, true, true, true, true, true, true, false, false, false, false] rfl rfl (any_of HT_.out (by kernel_rfl)) (fun _ _ _ h => h) (Or.inl ⟨by rfl, ?_⟩) ?_ ?_
  rotate_left
  · intro w'
    go_simp
    with_reducible rfl
  rotate_left
  · simp only [Act.put, List.setIfInBounds_toArray, List.set_cons_zero, List.set_cons_succ, i64_w, i32_w]
    rfl
  refine one_ (i := 8) (N := some 11) #[true, true, true, true, true, true, true, true, true, false, false, false] rfl rfl (one_of HT_.out (by kernel_rfl)) (by decide) (fun K hK => ?_)
  refine goes_ Try.func44 (by kernel_rfl) rfl #[.agg #[.int .i64 a0_0, .int .i64 a0_1]] (by rfl) rfl rfl (by (try simp only [List.map_toArray, List.map_cons, List.map_nil]); first | done | rfl | (simp only [List.length_drop, List.length_take]; rfl)) ?_
  with_reducible refine (zztime_Time_Second.calls a0_0 a0_1 t217 _ A4.out).mono ?_
  rintro e w9 ⟨rfl, hb⟩
  refine ⟨_, rfl, ?_⟩
  have n0_ := Aside0.mk (blk_below (g := gb214) (o := .cells #[.int .i64 a0_0, .int .i64 a0_1] 42 (0, 0)) (by (with_reducible repeat (first | refine blk_drewN ?_ _ | refine blk_drew ?_ | refine blk_alloc ?_ _)); exact BK214.out) hb)
  have n1_ := Aside0.mk (below_step (by repeat (first | (with_reducible first | exact HB.out | apply below_alloc | apply pw_below_drewN | apply below_drew1 | refine below_set ?_ GE214.out) | exact HB.out)) hb)
  clear BK214
  clear HB
  have BK214 := n0_
  have HB := n1_
  clear n0_ n1_
  (try clear hb)
  (try clear hb2)
  (try clear hk)
  (try clear hi)
  refine hK.out _ _ ⟨(blk_cell BK214.out 0).trans rfl, (blk_cell BK214.out 1).trans rfl⟩ (fun hHeld => ?_)
  clear hK K
  refine norm_ (a' := ?_) ?_ ?_
  rotate_left
  · show Act.put _ (some 11) _ = _
    simp only [Act.put, List.setIfInBounds_toArray, List.set_cons_zero, List.set_cons_succ, i64_w, i32_w]
    rfl
  refine pure_ (i := 9) (N := some 12) (v := ?_) (a' := ?_) #[true, true, true, true, true, true, true, true, true, true, false, false] rfl rfl (any_of HT_.out (by kernel_rfl)) (fun _ _ _ h => h) (Or.inl ⟨by rfl, ?_⟩) ?_ ?_
  rotate_left
  · intro w'
    go_simp
    with_reducible rfl
  rotate_left
  · simp only [Act.put, List.setIfInBounds_toArray, List.set_cons_zero, List.set_cons_succ, i64_w, i32_w]
    rfl
  refine pure_ (i := 10) (N := some 13) (v := ?_) (a' := ?_) #[true, true, true, true, true, true, true, true, true, true, true, false] rfl rfl (any_of HT_.out (by kernel_rfl)) (fun _ _ _ h => h) (Or.inl ⟨by rfl, ?_⟩) ?_ ?_
  rotate_left
  · intro w'
    go_simp
    with_reducible rfl
  rotate_left
  · simp only [Act.put, List.setIfInBounds_toArray, List.set_cons_zero, List.set_cons_succ, i64_w, i32_w]
    rfl
  refine pure_ (i := 11) (N := some 2) (v := ?_) (a' := ?_) #[true, true, true, true, true, true, true, true, true, true, true, true] rfl rfl (any_of HT_.out (by kernel_rfl)) (fun _ _ _ h => h) (Or.inl ⟨by rfl, ?_⟩) ?_ ?_
  rotate_left
  · intro w'
    go_simp
    with_reducible rfl
  rotate_left
  · simp only [Act.put, List.setIfInBounds_toArray, List.set_cons_zero, List.set_cons_succ, i64_w, i32_w]
    rfl
  refine done_ (done_of HT_.out (by kernel_rfl)) ?_
  try go_wp2
  go_ret
  exact ⟨by first | rfl | (simp [errW_none, errW_some] <;> rfl) | (simp [*, errW_none, errW_some] <;> rfl), by repeat (first | (with_reducible first | exact HB.out | apply below_alloc | apply pw_below_drewN | apply below_drew1 | refine below_set ?_ GE214.out) | exact HB.out)⟩

/-! ### encoding_ZzSecondtimeOf: function 35 -/
def encoding_ZzSecondtimeOf.f (a0_0 : Int) (a0_1 : Int) : Option (Int) := (encoding_convertTimeToSecondtime.f a0_0 a0_1).bind fun t219 => (some t219)
set_option maxHeartbeats 8000000 in
set_option maxRecDepth 100000 in
theorem encoding_ZzSecondtimeOf.calls (a0_0 : Int) (a0_1 : Int) (r : Int) (w : World) (h : encoding_ZzSecondtimeOf.f a0_0 a0_1 = some r) :
    Calls Try.prog 35 #[.agg #[.int .i64 a0_0, .int .i64 a0_1]] w fun e w' => e = .returned (.int .i64 r) ∧ Below w.heap.size w w' := by
  have hu42 := Try.underlying42
  have HB := Aside0.mk (Below.refl w.heap.size w)
  have H : ((encoding_convertTimeToSecondtime.f a0_0 a0_1).bind fun t219 => (some t219)) = some r := h
  clear h
  replace H := Option.bind_eq_some_iff.mp H
  obtain ⟨t219, A20, H⟩ := H
  replace H : (some t219) = some r := H
  have A2 := Aside0.mk A20
  clear A20
  obtain rfl := Option.some.inj H
  go_enter Try.func35, Try.ntmps35
  go_wp2_with (first | ((with_reducible refine gate_dst (N := 1) rfl ?_); refine box_event ?hg (N := 1) ?hd (cs := #[.int .i64 a0_0, .int .i64 a0_1]) (t := 42) ?hr ?_; (case hd => rfl); (case hg => rfl); (case hr => first | (go_simp; done) | (go_simp; rfl)); intro gb218 hg w3 hbox hb; have n0_ := Aside0.mk (below_step (by repeat (first | (with_reducible first | exact HB.out | apply below_alloc | apply pw_below_drewN | apply below_drew1) | exact HB.out)) hb); have n1_ := Aside0.mk (hbox); have n2_ := Aside0.mk ((by rw [hg]; exact (below_size (by repeat (first | (with_reducible first | exact HB.out | apply below_alloc | apply pw_below_drewN | apply below_drew1) | exact HB.out))) : w.heap.size ≤ gb218)); have n3_ := Aside0.mk ((by rw [hg]; exact (below_size (by repeat (first | (with_reducible first | exact HB.out | apply below_alloc | apply pw_below_drewN | apply below_drew1) | exact HB.out))) : w.heap.size ≤ gb218)); clear HB; have HB := n0_; have BK218 := n1_; have GW218 := n2_; have GE218 := n3_; clear n0_ n1_ n2_ n3_; clear hb hbox hg; have hcz4_0 : w3.cell? ⟨gb218, 0, none⟩ = some (.int .i64 a0_0) := (blk_cell BK218.out 0).trans rfl; have hcz4_1 : w3.cell? ⟨gb218, 1, none⟩ = some (.int .i64 a0_1) := (blk_cell BK218.out 1).trans rfl; have hfz4_0 := blk_frozen BK218.out 0; have hfz4_1 := blk_frozen BK218.out 1) | ((with_reducible refine gate_callee (f := 54) rfl ?_); refine goesL_ (some 4) rfl rfl Try.func54 (by kernel_rfl) rfl #[.agg #[.int .i64 a0_0, .int .i64 a0_1]] rfl (by (try simp only [List.map_toArray, List.map_cons, List.map_nil]); first | done | rfl | (simp only [List.length_drop, List.length_take]; rfl)) ?_; (with_reducible refine (encoding_convertTimeToSecondtime.calls a0_0 a0_1 t219 _ A2.out).mono ?_); rintro e w5 ⟨rfl, hb⟩; refine ⟨_, rfl, ?_⟩; have n0_ := Aside0.mk (blk_below (g := gb218) (o := .cells #[.int .i64 a0_0, .int .i64 a0_1] 42 (0, 0)) (by (with_reducible repeat (first | refine blk_drewN ?_ _ | refine blk_drew ?_ | refine blk_alloc ?_ _)); exact BK218.out) hb); have n1_ := Aside0.mk (below_step (by repeat (first | (with_reducible first | exact HB.out | apply below_alloc | apply pw_below_drewN | apply below_drew1 | refine below_set ?_ GE218.out) | exact HB.out)) hb); clear BK218; clear HB; have BK218 := n0_; have HB := n1_; clear n0_ n1_; (try clear hb); (try clear hb2); (try clear hk); (try clear hi)))
  go_ret
  exact ⟨by first | rfl | (simp [errW_none, errW_some] <;> rfl) | (simp [*, errW_none, errW_some] <;> rfl), by repeat (first | (with_reducible first | exact HB.out | apply below_alloc | apply pw_below_drewN | apply below_drew1 | refine below_set ?_ GE218.out) | exact HB.out)⟩

end Go.Proofs.Ytbblgpgjgkmcbaa.PJro
