/- Written by a program (print.py, called by prints.sh) for this claim: Go functions as plain Lean functions, and that the code comes to their answers. -/
import Derived.Test.YtbblgpgjgkmcbaaPJalx0
import Derived.Test.YtbblgpgjgkmcbaaPJalx2
import Derived.Test.YtbblgpgjgkmcbaaPJalx5
import Derived.Test.YtbblgpgjgkmcbaaPJalx6
namespace Go.Proofs.Ytbblgpgjgkmcbaa.PJal
open Go.RowKit Go.Proofs.YtbblgpgjgkmcbaaW.PrintWords Go.Proofs.YtbblgpgjgkmcbaaW.PrintLast Go.Proofs.YtbblgpgjgkmcbaaW.PrintMore
attribute [local go_sem] max2_int min2_int max_two min_two max_three min_three max_four min_four   -- for this text's walks alone
set_option linter.unusedVariables false
set_option linter.unusedSimpArgs false

/-! ### encoding_convertTimeToSeconddate: function 52 -/
def encoding_convertTimeToSeconddate.f (a0_0 : Int) (a0_1 : Int) : Option (Int) := (encoding_convertTimeToDayDate.f a0_0 a0_1).bind fun t306 => ((zztime_Time_Hour.f a0_0 a0_1).bind fun t307 => ((zztime_Time_Minute.f a0_0 a0_1).bind fun t308 => ((zztime_Time_Second.f a0_0 a0_1).bind fun t309 => (some (wrap64 ((wrap64 ((wrap64 ((wrap64 ((wrap64 ((wrap64 ((wrap64 ((wrap64 (t306 - 1)) * 24)) + t307)) * 60)) + t308)) * 60)) + t309)) + 1))))))
def encoding_convertTimeToSeconddate.T1 : Bool × List (List Nat × List Nat) := (true, [([], []), ([0], [0]), ([1], [1]), ([2], [2]), ([], []), ([4, 1], [4]), ([3, 5], [3, 5]), ([6], [6]), ([], []), ([8, 5], [8]), ([7, 9], [7, 9]), ([10], [10]), ([], []), ([12, 9], [12]), ([11, 13], [11, 13]), ([14], [14]), ([15, 13, 0, 1, 2, 3, 4, 5, 6, 7, 8, 9, 10, 11, 12, 13, 14, 15], [15])])
def encoding_convertTimeToSeconddate.B1 : List Nat := [0, 1, 3, 7, 0, 19, 63, 127, 0, 307, 1023, 2047, 0, 4915, 16383, 32767, 65535]
theorem encoding_convertTimeToSeconddate.tab1 : rtab .any (opsOf Try.f52 1) = encoding_convertTimeToSeconddate.T1 := by kernel_rfl
theorem encoding_convertTimeToSeconddate.bits1 : waitsOk encoding_convertTimeToSeconddate.T1.2 encoding_convertTimeToSeconddate.B1 = true := by kernel_rfl
set_option maxHeartbeats 8000000 in
set_option maxRecDepth 100000 in
theorem encoding_convertTimeToSeconddate.calls (a0_0 : Int) (a0_1 : Int) (r : Int) (w : World) (h : encoding_convertTimeToSeconddate.f a0_0 a0_1 = some r) :
    Calls Try.prog 52 #[.agg #[.int .i64 a0_0, .int .i64 a0_1]] w fun e w' => e = .returned (.int .i64 r) ∧ Below w.heap.size w w' := by
  have hu42 := Try.underlying42
  have HB := Aside0.mk (Below.refl w.heap.size w)
  have H : ((encoding_convertTimeToDayDate.f a0_0 a0_1).bind fun t306 => ((zztime_Time_Hour.f a0_0 a0_1).bind fun t307 => ((zztime_Time_Minute.f a0_0 a0_1).bind fun t308 => ((zztime_Time_Second.f a0_0 a0_1).bind fun t309 => (some (wrap64 ((wrap64 ((wrap64 ((wrap64 ((wrap64 ((wrap64 ((wrap64 ((wrap64 (t306 - 1)) * 24)) + t307)) * 60)) + t308)) * 60)) + t309)) + 1))))))) = some r := h
  clear h
  replace H := Option.bind_eq_some_iff.mp H
  obtain ⟨t306, A20, H⟩ := H
  replace H : ((zztime_Time_Hour.f a0_0 a0_1).bind fun t307 => ((zztime_Time_Minute.f a0_0 a0_1).bind fun t308 => ((zztime_Time_Second.f a0_0 a0_1).bind fun t309 => (some (wrap64 ((wrap64 ((wrap64 ((wrap64 ((wrap64 ((wrap64 ((wrap64 ((wrap64 (t306 - 1)) * 24)) + t307)) * 60)) + t308)) * 60)) + t309)) + 1)))))) = some r := H
  have A2 := Aside0.mk A20
  clear A20
  replace H := Option.bind_eq_some_iff.mp H
  obtain ⟨t307, A30, H⟩ := H
  replace H : ((zztime_Time_Minute.f a0_0 a0_1).bind fun t308 => ((zztime_Time_Second.f a0_0 a0_1).bind fun t309 => (some (wrap64 ((wrap64 ((wrap64 ((wrap64 ((wrap64 ((wrap64 ((wrap64 ((wrap64 (t306 - 1)) * 24)) + t307)) * 60)) + t308)) * 60)) + t309)) + 1))))) = some r := H
  have A3 := Aside0.mk A30
  clear A30
  replace H := Option.bind_eq_some_iff.mp H
  obtain ⟨t308, A40, H⟩ := H
  replace H : ((zztime_Time_Second.f a0_0 a0_1).bind fun t309 => (some (wrap64 ((wrap64 ((wrap64 ((wrap64 ((wrap64 ((wrap64 ((wrap64 ((wrap64 (t306 - 1)) * 24)) + t307)) * 60)) + t308)) * 60)) + t309)) + 1)))) = some r := H
  have A4 := Aside0.mk A40
  clear A40
  replace H := Option.bind_eq_some_iff.mp H
  obtain ⟨t309, A50, H⟩ := H
  replace H : (some (wrap64 ((wrap64 ((wrap64 ((wrap64 ((wrap64 ((wrap64 ((wrap64 ((wrap64 (t306 - 1)) * 24)) + t307)) * 60)) + t308)) * 60)) + t309)) + 1))) = some r := H
  have A5 := Aside0.mk A50
  clear A50
  obtain rfl := Option.some.inj H
  go_enter Try.func52, Try.ntmps52
  try go_wp2_with (first | ((with_reducible refine gate_dst (N := 1) rfl ?_); refine box_event ?hg (N := 1) ?hd (cs := #[.int .i64 a0_0, .int .i64 a0_1]) (t := 42) ?hr ?_; (case hd => rfl); (case hg => rfl); (case hr => first | (go_simp; done) | (go_simp; rfl)); intro gb305 hg w6 hbox hb; have n0_ := Aside0.mk (below_step (by repeat (first | (with_reducible first | exact HB.out | apply below_alloc | apply pw_below_drewN | apply below_drew1) | exact HB.out)) hb); have n1_ := Aside0.mk (hbox); have n2_ := Aside0.mk ((by rw [hg]; exact (below_size (by repeat (first | (with_reducible first | exact HB.out | apply below_alloc | apply pw_below_drewN | apply below_drew1) | exact HB.out))) : w.heap.size ≤ gb305)); have n3_ := Aside0.mk ((by rw [hg]; exact (below_size (by repeat (first | (with_reducible first | exact HB.out | apply below_alloc | apply pw_below_drewN | apply below_drew1) | exact HB.out))) : w.heap.size ≤ gb305)); clear HB; have HB := n0_; have BK305 := n1_; have GW305 := n2_; have GE305 := n3_; clear n0_ n1_ n2_ n3_; clear hb hbox hg))
  have n0_ := Aside0.mk (blk_drew BK305.out)
  have n1_ := Aside0.mk (below_drew1 HB.out)
  clear BK305
  clear HB
  have BK305 := n0_
  have HB := n1_
  clear n0_ n1_
  refine start_ (n := 17) (S := fun w' => w'.cell? ⟨gb305, 0, none⟩ = some (.int .i64 a0_0) ∧ w'.cell? ⟨gb305, 1, none⟩ = some (.int .i64 a0_1)) (ds := []) #[false, false, false, false, false, false, false, false, false, false, false, false, false, false, false, false, false] (by kernel_rfl) rfl rfl ⟨(blk_cell BK305.out 0).trans rfl, (blk_cell BK305.out 1).trans rfl⟩ (fun hHeld => ?_); refine with_tabW encoding_convertTimeToSeconddate.tab1 encoding_convertTimeToSeconddate.bits1 (fun HT_ HW_ => ?_)
  generalize w6.drew = w7 at BK305 HB hHeld ⊢
  refine take_ (i := 0) (N := some 3) (v := ?_) (a' := ?_) #[true, false, false, false, false, false, false, false, false, false, false, false, false, false, false, false, false] rfl rfl (take_ofW HT_.out HW_.out (by kernel_rfl)) (fun _ _ _ h => h) (Or.inl ⟨by rfl, ?_⟩) hHeld ?_ ?_
  rotate_left
  · rintro w' ⟨s0, s1⟩
    go_simp
    with_reducible rfl
  rotate_left
  · simp only [Act.put, List.setIfInBounds_toArray, List.set_cons_zero, List.set_cons_succ, i64_w, i32_w]
    rfl
  refine take_ (i := 4) (N := some 7) (v := ?_) (a' := ?_) #[true, false, false, false, true, false, false, false, false, false, false, false, false, false, false, false, false] rfl rfl (take_ofW HT_.out HW_.out (by kernel_rfl)) (fun _ _ _ h => h) (Or.inl ⟨by rfl, ?_⟩) hHeld ?_ ?_
  rotate_left
  · rintro w' ⟨s0, s1⟩
    go_simp
    with_reducible rfl
  rotate_left
  · simp only [Act.put, List.setIfInBounds_toArray, List.set_cons_zero, List.set_cons_succ, i64_w, i32_w]
    rfl
  refine take_ (i := 8) (N := some 11) (v := ?_) (a' := ?_) #[true, false, false, false, true, false, false, false, true, false, false, false, false, false, false, false, false] rfl rfl (take_ofW HT_.out HW_.out (by kernel_rfl)) (fun _ _ _ h => h) (Or.inl ⟨by rfl, ?_⟩) hHeld ?_ ?_
  rotate_left
  · rintro w' ⟨s0, s1⟩
    go_simp
    with_reducible rfl
  rotate_left
  · simp only [Act.put, List.setIfInBounds_toArray, List.set_cons_zero, List.set_cons_succ, i64_w, i32_w]
    rfl
  refine take_ (i := 12) (N := some 15) (v := ?_) (a' := ?_) #[true, false, false, false, true, false, false, false, true, false, false, false, true, false, false, false, false] rfl rfl (take_ofW HT_.out HW_.out (by kernel_rfl)) (fun _ _ _ h => h) (Or.inl ⟨by rfl, ?_⟩) hHeld ?_ ?_
  rotate_left
  · rintro w' ⟨s0, s1⟩
    go_simp
    with_reducible rfl
  rotate_left
  · simp only [Act.put, List.setIfInBounds_toArray, List.set_cons_zero, List.set_cons_succ, i64_w, i32_w]
    rfl
  refine one_ (i := 1) (N := some 4) #[true, true, false, false, true, false, false, false, true, false, false, false, true, false, false, false, false] rfl rfl (one_of HT_.out (by kernel_rfl)) (by decide) (fun K hK => ?_)
  refine goes_ Try.func53 (by kernel_rfl) rfl #[.agg #[.int .i64 a0_0, .int .i64 a0_1]] (by rfl) rfl rfl (by (try simp only [List.map_toArray, List.map_cons, List.map_nil]); first | done | rfl | (simp only [List.length_drop, List.length_take]; rfl)) ?_
  with_reducible refine (encoding_convertTimeToDayDate.calls a0_0 a0_1 t306 _ A2.out).mono ?_
  rintro e w8 ⟨rfl, hb⟩
  refine ⟨_, rfl, ?_⟩
  have n0_ := Aside0.mk (blk_below (g := gb305) (o := .cells #[.int .i64 a0_0, .int .i64 a0_1] 42 (0, 0)) (by (with_reducible repeat (first | refine blk_drewN ?_ _ | refine blk_drew ?_ | refine blk_alloc ?_ _)); exact BK305.out) hb)
  have n1_ := Aside0.mk (below_step (by repeat (first | (with_reducible first | exact HB.out | apply below_alloc | apply pw_below_drewN | apply below_drew1 | refine below_set ?_ GE305.out) | exact HB.out)) hb)
  clear BK305
  clear HB
  have BK305 := n0_
  have HB := n1_
  clear n0_ n1_
  (try clear hb)
  (try clear hb2)
  (try clear hk)
  (try clear hi)
  refine hK.out _ _ ⟨(blk_cell BK305.out 0).trans rfl, (blk_cell BK305.out 1).trans rfl⟩ (fun hHeld => ?_)
  clear hK K
  refine norm_ (a' := ?_) ?_ ?_
  rotate_left
  · show Act.put _ (some 4) _ = _
    simp only [Act.put, List.setIfInBounds_toArray, List.set_cons_zero, List.set_cons_succ, i64_w, i32_w]
    rfl
  refine pure_ (i := 2) (N := some 5) (v := ?_) (a' := ?_) #[true, true, true, false, true, false, false, false, true, false, false, false, true, false, false, false, false] rfl rfl (any_of HT_.out (by kernel_rfl)) (fun _ _ _ h => h) (Or.inl ⟨by rfl, ?_⟩) ?_ ?_
  rotate_left
  · intro w'
    go_simp
    with_reducible rfl
  rotate_left
  · simp only [Act.put, List.setIfInBounds_toArray, List.set_cons_zero, List.set_cons_succ, i64_w, i32_w]
    rfl
  refine pure_ (i := 3) (N := some 6) (v := ?_) (a' := ?_) #[true, true, true, true, true, false, false, false, true, false, false, false, true, false, false, false, false] rfl rfl (any_of HT_.out (by kernel_rfl)) (fun _ _ _ h => h) (Or.inl ⟨by rfl, ?_⟩) ?_ ?_
  rotate_left
  · intro w'
    go_simp
    with_reducible rfl
  rotate_left
  · simp only [Act.put, List.setIfInBounds_toArray, List.set_cons_zero, List.set_cons_succ, i64_w, i32_w]
    rfl
  refine one_ (i := 5) (N := some 8) #[true, true, true, true, true, true, false, false, true, false, false, false, true, false, false, false, false] rfl rfl (one_of HT_.out (by kernel_rfl)) (by decide) (fun K hK => ?_)
  refine goes_ Try.func42 (by kernel_rfl) rfl #[.agg #[.int .i64 a0_0, .int .i64 a0_1]] (by rfl) rfl rfl (by (try simp only [List.map_toArray, List.map_cons, List.map_nil]); first | done | rfl | (simp only [List.length_drop, List.length_take]; rfl)) ?_
  with_reducible refine (zztime_Time_Hour.calls a0_0 a0_1 t307 _ A3.out).mono ?_
  rintro e w9 ⟨rfl, hb⟩
  refine ⟨_, rfl, ?_⟩
  have n0_ := Aside0.mk (blk_below (g := gb305) (o := .cells #[.int .i64 a0_0, .int .i64 a0_1] 42 (0, 0)) (by (with_reducible repeat (first | refine blk_drewN ?_ _ | refine blk_drew ?_ | refine blk_alloc ?_ _)); exact BK305.out) hb)
  have n1_ := Aside0.mk (below_step (by repeat (first | (with_reducible first | exact HB.out | apply below_alloc | apply pw_below_drewN | apply below_drew1 | refine below_set ?_ GE305.out) | exact HB.out)) hb)
  clear BK305
  clear HB
  have BK305 := n0_
  have HB := n1_
  clear n0_ n1_
  (try clear hb)
  (try clear hb2)
  (try clear hk)
  (try clear hi)
  refine hK.out _ _ ⟨(blk_cell BK305.out 0).trans rfl, (blk_cell BK305.out 1).trans rfl⟩ (fun hHeld => ?_)
  clear hK K
  refine norm_ (a' := ?_) ?_ ?_
  rotate_left
  · show Act.put _ (some 8) _ = _
    simp only [Act.put, List.setIfInBounds_toArray, List.set_cons_zero, List.set_cons_succ, i64_w, i32_w]
    rfl
  refine pure_ (i := 6) (N := some 9) (v := ?_) (a' := ?_) #[true, true, true, true, true, true, true, false, true, false, false, false, true, false, false, false, false] rfl rfl (any_of HT_.out (by kernel_rfl)) (fun _ _ _ h => h) (Or.inl ⟨by rfl, ?_⟩) ?_ ?_
  rotate_left
  · intro w'
    go_simp
    with_reducible rfl
  rotate_left
  · simp only [Act.put, List.setIfInBounds_toArray, List.set_cons_zero, List.set_cons_succ, i64_w, i32_w]
    rfl
  refine pure_ (i := 7) (N := some 10) (v := ?_) (a' := ?_) #[true, true, true, true, true, true, true, true, true, false, false, false, true, false, false, false, false] rfl rfl (any_of HT_.out (by kernel_rfl)) (fun _ _ _ h => h) (Or.inl ⟨by rfl, ?_⟩) ?_ ?_
  rotate_left
  · intro w'
    go_simp
    with_reducible rfl
  rotate_left
  · simp only [Act.put, List.setIfInBounds_toArray, List.set_cons_zero, List.set_cons_succ, i64_w, i32_w]
    rfl
  refine one_ (i := 9) (N := some 12) #[true, true, true, true, true, true, true, true, true, true, false, false, true, false, false, false, false] rfl rfl (one_of HT_.out (by kernel_rfl)) (by decide) (fun K hK => ?_)
  refine goes_ Try.func43 (by kernel_rfl) rfl #[.agg #[.int .i64 a0_0, .int .i64 a0_1]] (by rfl) rfl rfl (by (try simp only [List.map_toArray, List.map_cons, List.map_nil]); first | done | rfl | (simp only [List.length_drop, List.length_take]; rfl)) ?_
  with_reducible refine (zztime_Time_Minute.calls a0_0 a0_1 t308 _ A4.out).mono ?_
  rintro e w10 ⟨rfl, hb⟩
  refine ⟨_, rfl, ?_⟩
  have n0_ := Aside0.mk (blk_below (g := gb305) (o := .cells #[.int .i64 a0_0, .int .i64 a0_1] 42 (0, 0)) (by (with_reducible repeat (first | refine blk_drewN ?_ _ | refine blk_drew ?_ | refine blk_alloc ?_ _)); exact BK305.out) hb)
  have n1_ := Aside0.mk (below_step (by repeat (first | (with_reducible first | exact HB.out | apply below_alloc | apply pw_below_drewN | apply below_drew1 | refine below_set ?_ GE305.out) | exact HB.out)) hb)
  clear BK305
  clear HB
  have BK305 := n0_
  have HB := n1_
  clear n0_ n1_
  (try clear hb)
  (try clear hb2)
  (try clear hk)
  (try clear hi)
  refine hK.out _ _ ⟨(blk_cell BK305.out 0).trans rfl, (blk_cell BK305.out 1).trans rfl⟩ (fun hHeld => ?_)
  clear hK K
  refine norm_ (a' := ?_) ?_ ?_
  rotate_left
  · show Act.put _ (some 12) _ = _
    simp only [Act.put, List.setIfInBounds_toArray, List.set_cons_zero, List.set_cons_succ, i64_w, i32_w]
    rfl
  refine pure_ (i := 10) (N := some 13) (v := ?_) (a' := ?_) #[true, true, true, true, true, true, true, true, true, true, true, false, true, false, false, false, false] rfl rfl (any_of HT_.out (by kernel_rfl)) (fun _ _ _ h => h) (Or.inl ⟨by rfl, ?_⟩) ?_ ?_
  rotate_left
  · intro w'
    go_simp
    with_reducible rfl
  rotate_left
  · simp only [Act.put, List.setIfInBounds_toArray, List.set_cons_zero, List.set_cons_succ, i64_w, i32_w]
    rfl
  refine pure_ (i := 11) (N := some 14) (v := ?_) (a' := ?_) #[true, true, true, true, true, true, true, true, true, true, true, true, true, false, false, false, false] rfl rfl (any_of HT_.out (by kernel_rfl)) (fun _ _ _ h => h) (Or.inl ⟨by rfl, ?_⟩) ?_ ?_
  rotate_left
  · intro w'
    go_simp
    with_reducible rfl
  rotate_left
  · simp only [Act.put, List.setIfInBounds_toArray, List.set_cons_zero, List.set_cons_succ, i64_w, i32_w]
    rfl
  refine one_ (i := 13) (N := some 16) #[true, true, true, true, true, true, true, true, true, true, true, true, true, true, false, false, false] rfl rfl (one_of HT_.out (by kernel_rfl)) (by decide) (fun K hK => ?_)
  refine goes_ Try.func44 (by kernel_rfl) rfl #[.agg #[.int .i64 a0_0, .int .i64 a0_1]] (by rfl) rfl rfl (by (try simp only [List.map_toArray, List.map_cons, List.map_nil]); first | done | rfl | (simp only [List.length_drop, List.length_take]; rfl)) ?_
  with_reducible refine (zztime_Time_Second.calls a0_0 a0_1 t309 _ A5.out).mono ?_
  rintro e w11 ⟨rfl, hb⟩
  refine ⟨_, rfl, ?_⟩
  have n0_ := Aside0.mk (blk_below (g := gb305) (o := .cells #[.int .i64 a0_0, .int .i64 a0_1] 42 (0, 0)) (by (with_reducible repeat (first | refine blk_drewN ?_ _ | refine blk_drew ?_ | refine blk_alloc ?_ _)); exact BK305.out) hb)
  have n1_ := Aside0.mk (below_step (by repeat (first | (with_reducible first | exact HB.out | apply below_alloc | apply pw_below_drewN | apply below_drew1 | refine below_set ?_ GE305.out) | exact HB.out)) hb)
  clear BK305
  clear HB
  have BK305 := n0_
  have HB := n1_
  clear n0_ n1_
  (try clear hb)
  (try clear hb2)
  (try clear hk)
  (try clear hi)
  refine hK.out _ _ ⟨(blk_cell BK305.out 0).trans rfl, (blk_cell BK305.out 1).trans rfl⟩ (fun hHeld => ?_)
  clear hK K
  refine norm_ (a' := ?_) ?_ ?_
  rotate_left
  · show Act.put _ (some 16) _ = _
    simp only [Act.put, List.setIfInBounds_toArray, List.set_cons_zero, List.set_cons_succ, i64_w, i32_w]
    rfl
  refine pure_ (i := 14) (N := some 17) (v := ?_) (a' := ?_) #[true, true, true, true, true, true, true, true, true, true, true, true, true, true, true, false, false] rfl rfl (any_of HT_.out (by kernel_rfl)) (fun _ _ _ h => h) (Or.inl ⟨by rfl, ?_⟩) ?_ ?_
  rotate_left
  · intro w'
    go_simp
    with_reducible rfl
  rotate_left
  · simp only [Act.put, List.setIfInBounds_toArray, List.set_cons_zero, List.set_cons_succ, i64_w, i32_w]
    rfl
  refine pure_ (i := 15) (N := some 18) (v := ?_) (a' := ?_) #[true, true, true, true, true, true, true, true, true, true, true, true, true, true, true, true, false] rfl rfl (any_of HT_.out (by kernel_rfl)) (fun _ _ _ h => h) (Or.inl ⟨by rfl, ?_⟩) ?_ ?_
  rotate_left
  · intro w'
    go_simp
    with_reducible rfl
  rotate_left
  · simp only [Act.put, List.setIfInBounds_toArray, List.set_cons_zero, List.set_cons_succ, i64_w, i32_w]
    rfl
  refine pure_ (i := 16) (N := some 2) (v := ?_) (a' := ?_) #[true, true, true, true, true, true, true, true, true, true, true, true, true, true, true, true, true] rfl rfl (any_of HT_.out (by kernel_rfl)) (fun _ _ _ h => h) (Or.inl ⟨by rfl, ?_⟩) ?_ ?_
  rotate_left
  · intro w'
    go_simp
    with_reducible rfl
  rotate_left
  · simp only [Act.put, List.setIfInBounds_toArray, List.set_cons_zero, List.set_cons_succ, i64_w, i32_w]
    rfl
  refine done_ (done_of HT_.out (by kernel_rfl)) ?_
  try go_wp2
  go_ret
  exact ⟨by first | rfl | (simp [errW_none, errW_some] <;> rfl) | (simp [*, errW_none, errW_some] <;> rfl), by repeat (first | (with_reducible first | exact HB.out | apply below_alloc | apply pw_below_drewN | apply below_drew1 | refine below_set ?_ GE305.out) | exact HB.out)⟩

/-! ### encoding_ZzSeconddateOf: function 33 -/
def encoding_ZzSeconddateOf.f (a0_0 : Int) (a0_1 : Int) : Option (Int) := (encoding_convertTimeToSeconddate.f a0_0 a0_1).bind fun t311 => (some t311)
set_option maxHeartbeats 8000000 in
set_option maxRecDepth 100000 in
theorem encoding_ZzSeconddateOf.calls (a0_0 : Int) (a0_1 : Int) (r : Int) (w : World) (h : encoding_ZzSeconddateOf.f a0_0 a0_1 = some r) :
    Calls Try.prog 33 #[.agg #[.int .i64 a0_0, .int .i64 a0_1]] w fun e w' => e = .returned (.int .i64 r) ∧ Below w.heap.size w w' := by
  have hu42 := Try.underlying42
  have HB := Aside0.mk (Below.refl w.heap.size w)
  have H : ((encoding_convertTimeToSeconddate.f a0_0 a0_1).bind fun t311 => (some t311)) = some r := h
  clear h
  replace H := Option.bind_eq_some_iff.mp H
  obtain ⟨t311, A20, H⟩ := H
  replace H : (some t311) = some r := H
  have A2 := Aside0.mk A20
  clear A20
  obtain rfl := Option.some.inj H
  go_enter Try.func33, Try.ntmps33
  go_wp2_with (first | ((with_reducible refine gate_dst (N := 1) rfl ?_); refine box_event ?hg (N := 1) ?hd (cs := #[.int .i64 a0_0, .int .i64 a0_1]) (t := 42) ?hr ?_; (case hd => rfl); (case hg => rfl); (case hr => first | (go_simp; done) | (go_simp; rfl)); intro gb310 hg w3 hbox hb; have n0_ := Aside0.mk (below_step (by repeat (first | (with_reducible first | exact HB.out | apply below_alloc | apply pw_below_drewN | apply below_drew1) | exact HB.out)) hb); have n1_ := Aside0.mk (hbox); have n2_ := Aside0.mk ((by rw [hg]; exact (below_size (by repeat (first | (with_reducible first | exact HB.out | apply below_alloc | apply pw_below_drewN | apply below_drew1) | exact HB.out))) : w.heap.size ≤ gb310)); have n3_ := Aside0.mk ((by rw [hg]; exact (below_size (by repeat (first | (with_reducible first | exact HB.out | apply below_alloc | apply pw_below_drewN | apply below_drew1) | exact HB.out))) : w.heap.size ≤ gb310)); clear HB; have HB := n0_; have BK310 := n1_; have GW310 := n2_; have GE310 := n3_; clear n0_ n1_ n2_ n3_; clear hb hbox hg; have hcz4_0 : w3.cell? ⟨gb310, 0, none⟩ = some (.int .i64 a0_0) := (blk_cell BK310.out 0).trans rfl; have hcz4_1 : w3.cell? ⟨gb310, 1, none⟩ = some (.int .i64 a0_1) := (blk_cell BK310.out 1).trans rfl; have hfz4_0 := blk_frozen BK310.out 0; have hfz4_1 := blk_frozen BK310.out 1) | ((with_reducible refine gate_callee (f := 52) rfl ?_); refine goesL_ (some 4) rfl rfl Try.func52 (by kernel_rfl) rfl #[.agg #[.int .i64 a0_0, .int .i64 a0_1]] rfl (by (try simp only [List.map_toArray, List.map_cons, List.map_nil]); first | done | rfl | (simp only [List.length_drop, List.length_take]; rfl)) ?_; (with_reducible refine (encoding_convertTimeToSeconddate.calls a0_0 a0_1 t311 _ A2.out).mono ?_); rintro e w5 ⟨rfl, hb⟩; refine ⟨_, rfl, ?_⟩; have n0_ := Aside0.mk (blk_below (g := gb310) (o := .cells #[.int .i64 a0_0, .int .i64 a0_1] 42 (0, 0)) (by (with_reducible repeat (first | refine blk_drewN ?_ _ | refine blk_drew ?_ | refine blk_alloc ?_ _)); exact BK310.out) hb); have n1_ := Aside0.mk (below_step (by repeat (first | (with_reducible first | exact HB.out | apply below_alloc | apply pw_below_drewN | apply below_drew1 | refine below_set ?_ GE310.out) | exact HB.out)) hb); clear BK310; clear HB; have BK310 := n0_; have HB := n1_; clear n0_ n1_; (try clear hb); (try clear hb2); (try clear hk); (try clear hi)))
  go_ret
  exact ⟨by first | rfl | (simp [errW_none, errW_some] <;> rfl) | (simp [*, errW_none, errW_some] <;> rfl), by repeat (first | (with_reducible first | exact HB.out | apply below_alloc | apply pw_below_drewN | apply below_drew1 | refine below_set ?_ GE310.out) | exact HB.out)⟩

/-! ### encoding_ZzDaydateOf: function 34 -/
def encoding_ZzDaydateOf.f (a0_0 : Int) (a0_1 : Int) : Option (Int) := (encoding_convertTimeToDayDate.f a0_0 a0_1).bind fun t313 => (some t313)
set_option maxHeartbeats 8000000 in
set_option maxRecDepth 100000 in
theorem encoding_ZzDaydateOf.calls (a0_0 : Int) (a0_1 : Int) (r : Int) (w : World) (h : encoding_ZzDaydateOf.f a0_0 a0_1 = some r) :
    Calls Try.prog 34 #[.agg #[.int .i64 a0_0, .int .i64 a0_1]] w fun e w' => e = .returned (.int .i64 r) ∧ Below w.heap.size w w' := by
  have hu42 := Try.underlying42
  have HB := Aside0.mk (Below.refl w.heap.size w)
  have H : ((encoding_convertTimeToDayDate.f a0_0 a0_1).bind fun t313 => (some t313)) = some r := h
  clear h
  replace H := Option.bind_eq_some_iff.mp H
  obtain ⟨t313, A20, H⟩ := H
  replace H : (some t313) = some r := H
  have A2 := Aside0.mk A20
  clear A20
  obtain rfl := Option.some.inj H
  go_enter Try.func34, Try.ntmps34
  go_wp2_with (first | ((with_reducible refine gate_dst (N := 1) rfl ?_); refine box_event ?hg (N := 1) ?hd (cs := #[.int .i64 a0_0, .int .i64 a0_1]) (t := 42) ?hr ?_; (case hd => rfl); (case hg => rfl); (case hr => first | (go_simp; done) | (go_simp; rfl)); intro gb312 hg w3 hbox hb; have n0_ := Aside0.mk (below_step (by repeat (first | (with_reducible first | exact HB.out | apply below_alloc | apply pw_below_drewN | apply below_drew1) | exact HB.out)) hb); have n1_ := Aside0.mk (hbox); have n2_ := Aside0.mk ((by rw [hg]; exact (below_size (by repeat (first | (with_reducible first | exact HB.out | apply below_alloc | apply pw_below_drewN | apply below_drew1) | exact HB.out))) : w.heap.size ≤ gb312)); have n3_ := Aside0.mk ((by rw [hg]; exact (below_size (by repeat (first | (with_reducible first | exact HB.out | apply below_alloc | apply pw_below_drewN | apply below_drew1) | exact HB.out))) : w.heap.size ≤ gb312)); clear HB; have HB := n0_; have BK312 := n1_; have GW312 := n2_; have GE312 := n3_; clear n0_ n1_ n2_ n3_; clear hb hbox hg; have hcz4_0 : w3.cell? ⟨gb312, 0, none⟩ = some (.int .i64 a0_0) := (blk_cell BK312.out 0).trans rfl; have hcz4_1 : w3.cell? ⟨gb312, 1, none⟩ = some (.int .i64 a0_1) := (blk_cell BK312.out 1).trans rfl; have hfz4_0 := blk_frozen BK312.out 0; have hfz4_1 := blk_frozen BK312.out 1) | ((with_reducible refine gate_callee (f := 53) rfl ?_); refine goesL_ (some 4) rfl rfl Try.func53 (by kernel_rfl) rfl #[.agg #[.int .i64 a0_0, .int .i64 a0_1]] rfl (by (try simp only [List.map_toArray, List.map_cons, List.map_nil]); first | done | rfl | (simp only [List.length_drop, List.length_take]; rfl)) ?_; (with_reducible refine (encoding_convertTimeToDayDate.calls a0_0 a0_1 t313 _ A2.out).mono ?_); rintro e w5 ⟨rfl, hb⟩; refine ⟨_, rfl, ?_⟩; have n0_ := Aside0.mk (blk_below (g := gb312) (o := .cells #[.int .i64 a0_0, .int .i64 a0_1] 42 (0, 0)) (by (with_reducible repeat (first | refine blk_drewN ?_ _ | refine blk_drew ?_ | refine blk_alloc ?_ _)); exact BK312.out) hb); have n1_ := Aside0.mk (below_step (by repeat (first | (with_reducible first | exact HB.out | apply below_alloc | apply pw_below_drewN | apply below_drew1 | refine below_set ?_ GE312.out) | exact HB.out)) hb); clear BK312; clear HB; have BK312 := n0_; have HB := n1_; clear n0_ n1_; (try clear hb); (try clear hb2); (try clear hk); (try clear hi)))
  go_ret
  exact ⟨by first | rfl | (simp [errW_none, errW_some] <;> rfl) | (simp [*, errW_none, errW_some] <;> rfl), by repeat (first | (with_reducible first | exact HB.out | apply below_alloc | apply pw_below_drewN | apply below_drew1 | refine below_set ?_ GE312.out) | exact HB.out)⟩

/-! ### encoding_convertTimeToSecondtime: function 54 -/
def encoding_convertTimeToSecondtime.f (a0_0 : Int) (a0_1 : Int) : Option (Int) := (zztime_Time_Hour.f a0_0 a0_1).bind fun t315 => ((zztime_Time_Minute.f a0_0 a0_1).bind fun t316 => ((zztime_Time_Second.f a0_0 a0_1).bind fun t317 => (some (wrap64 ((wrap64 ((wrap64 ((wrap64 ((wrap64 (t315 * 60)) + t316)) * 60)) + t317)) + 1)))))
def encoding_convertTimeToSecondtime.T1 : Bool × List (List Nat × List Nat) := (true, [([], []), ([0], [0]), ([1], [1]), ([], []), ([3, 1], [3]), ([2, 4], [2, 4]), ([5], [5]), ([], []), ([7, 4], [7]), ([6, 8], [6, 8]), ([9], [9]), ([10, 8, 0, 1, 2, 3, 4, 5, 6, 7, 8, 9, 10], [10])])
def encoding_convertTimeToSecondtime.B1 : List Nat := [0, 1, 3, 0, 11, 31, 63, 0, 155, 511, 1023, 2047]
theorem encoding_convertTimeToSecondtime.tab1 : rtab .any (opsOf Try.f54 1) = encoding_convertTimeToSecondtime.T1 := by kernel_rfl
theorem encoding_convertTimeToSecondtime.bits1 : waitsOk encoding_convertTimeToSecondtime.T1.2 encoding_convertTimeToSecondtime.B1 = true := by kernel_rfl
set_option maxHeartbeats 8000000 in
set_option maxRecDepth 100000 in
theorem encoding_convertTimeToSecondtime.calls (a0_0 : Int) (a0_1 : Int) (r : Int) (w : World) (h : encoding_convertTimeToSecondtime.f a0_0 a0_1 = some r) :
    Calls Try.prog 54 #[.agg #[.int .i64 a0_0, .int .i64 a0_1]] w fun e w' => e = .returned (.int .i64 r) ∧ Below w.heap.size w w' := by
  have hu42 := Try.underlying42
  have HB := Aside0.mk (Below.refl w.heap.size w)
  have H : ((zztime_Time_Hour.f a0_0 a0_1).bind fun t315 => ((zztime_Time_Minute.f a0_0 a0_1).bind fun t316 => ((zztime_Time_Second.f a0_0 a0_1).bind fun t317 => (some (wrap64 ((wrap64 ((wrap64 ((wrap64 ((wrap64 (t315 * 60)) + t316)) * 60)) + t317)) + 1)))))) = some r := h
  clear h
  replace H := Option.bind_eq_some_iff.mp H
  obtain ⟨t315, A20, H⟩ := H
  replace H : ((zztime_Time_Minute.f a0_0 a0_1).bind fun t316 => ((zztime_Time_Second.f a0_0 a0_1).bind fun t317 => (some (wrap64 ((wrap64 ((wrap64 ((wrap64 ((wrap64 (t315 * 60)) + t316)) * 60)) + t317)) + 1))))) = some r := H
  have A2 := Aside0.mk A20
  clear A20
  replace H := Option.bind_eq_some_iff.mp H
  obtain ⟨t316, A30, H⟩ := H
  replace H : ((zztime_Time_Second.f a0_0 a0_1).bind fun t317 => (some (wrap64 ((wrap64 ((wrap64 ((wrap64 ((wrap64 (t315 * 60)) + t316)) * 60)) + t317)) + 1)))) = some r := H
  have A3 := Aside0.mk A30
  clear A30
  replace H := Option.bind_eq_some_iff.mp H
  obtain ⟨t317, A40, H⟩ := H
  replace H : (some (wrap64 ((wrap64 ((wrap64 ((wrap64 ((wrap64 (t315 * 60)) + t316)) * 60)) + t317)) + 1))) = some r := H
  have A4 := Aside0.mk A40
  clear A40
  obtain rfl := Option.some.inj H
  go_enter Try.func54, Try.ntmps54
  try go_wp2_with (first | ((with_reducible refine gate_dst (N := 1) rfl ?_); refine box_event ?hg (N := 1) ?hd (cs := #[.int .i64 a0_0, .int .i64 a0_1]) (t := 42) ?hr ?_; (case hd => rfl); (case hg => rfl); (case hr => first | (go_simp; done) | (go_simp; rfl)); intro gb314 hg w5 hbox hb; have n0_ := Aside0.mk (below_step (by repeat (first | (with_reducible first | exact HB.out | apply below_alloc | apply pw_below_drewN | apply below_drew1) | exact HB.out)) hb); have n1_ := Aside0.mk (hbox); have n2_ := Aside0.mk ((by rw [hg]; exact (below_size (by repeat (first | (with_reducible first | exact HB.out | apply below_alloc | apply pw_below_drewN | apply below_drew1) | exact HB.out))) : w.heap.size ≤ gb314)); have n3_ := Aside0.mk ((by rw [hg]; exact (below_size (by repeat (first | (with_reducible first | exact HB.out | apply below_alloc | apply pw_below_drewN | apply below_drew1) | exact HB.out))) : w.heap.size ≤ gb314)); clear HB; have HB := n0_; have BK314 := n1_; have GW314 := n2_; have GE314 := n3_; clear n0_ n1_ n2_ n3_; clear hb hbox hg))
  have n0_ := Aside0.mk (blk_drew BK314.out)
  have n1_ := Aside0.mk (below_drew1 HB.out)
  clear BK314
  clear HB
  have BK314 := n0_
  have HB := n1_
  clear n0_ n1_
  refine start_ (n := 12) (S := fun w' => w'.cell? ⟨gb314, 0, none⟩ = some (.int .i64 a0_0) ∧ w'.cell? ⟨gb314, 1, none⟩ = some (.int .i64 a0_1)) (ds := []) #[false, false, false, false, false, false, false, false, false, false, false, false] (by kernel_rfl) rfl rfl ⟨(blk_cell BK314.out 0).trans rfl, (blk_cell BK314.out 1).trans rfl⟩ (fun hHeld => ?_); refine with_tabW encoding_convertTimeToSecondtime.tab1 encoding_convertTimeToSecondtime.bits1 (fun HT_ HW_ => ?_)
  generalize w5.drew = w6 at BK314 HB hHeld ⊢
  refine take_ (i := 0) (N := some 3) (v := ?_) (a' := ?_) #[true, false, false, false, false, false, false, false, false, false, false, false] rfl rfl (take_ofW HT_.out HW_.out (by kernel_rfl)) (fun _ _ _ h => h) (Or.inl ⟨by rfl, ?_⟩) hHeld ?_ ?_
  rotate_left
  · rintro w' ⟨s0, s1⟩
    go_simp
    with_reducible rfl
  rotate_left
  · simp only [Act.put, List.setIfInBounds_toArray, List.set_cons_zero, List.set_cons_succ, i64_w, i32_w]
    rfl
  refine take_ (i := 3) (N := some 6) (v := ?_) (a' := ?_) #[true, false, false, true, false, false, false, false, false, false, false, false] rfl rfl (take_ofW HT_.out HW_.out (by kernel_rfl)) (fun _ _ _ h => h) (Or.inl ⟨by rfl, ?_⟩) hHeld ?_ ?_
  rotate_left
  · rintro w' ⟨s0, s1⟩
    go_simp
    with_reducible rfl
  rotate_left
  · simp only [Act.put, List.setIfInBounds_toArray, List.set_cons_zero, List.set_cons_succ, i64_w, i32_w]
    rfl
  refine take_ (i := 7) (N := some 10) (v := ?_) (a' := ?_) #[true, false, false, true, false, false, false, true, false, false, false, false] rfl rfl (take_ofW HT_.out HW_.out (by kernel_rfl)) (fun _ _ _ h => h) (Or.inl ⟨by rfl, ?_⟩) hHeld ?_ ?_
  rotate_left
  · rintro w' ⟨s0, s1⟩
    go_simp
    with_reducible rfl
  rotate_left
  · simp only [Act.put, List.setIfInBounds_toArray, List.set_cons_zero, List.set_cons_succ, i64_w, i32_w]
    rfl
  refine one_ (i := 1) (N := some 4) #[true, true, false, true, false, false, false, true, false, false, false, false] rfl rfl (one_of HT_.out (by kernel_rfl)) (by decide) (fun K hK => ?_)
  refine goes_ Try.func42 (by kernel_rfl) rfl #[.agg #[.int .i64 a0_0, .int .i64 a0_1]] (by rfl) rfl rfl (by (try simp only [List.map_toArray, List.map_cons, List.map_nil]); first | done | rfl | (simp only [List.length_drop, List.length_take]; rfl)) ?_
  with_reducible refine (zztime_Time_Hour.calls a0_0 a0_1 t315 _ A2.out).mono ?_
  rintro e w7 ⟨rfl, hb⟩
  refine ⟨_, rfl, ?_⟩
  have n0_ := Aside0.mk (blk_below (g := gb314) (o := .cells #[.int .i64 a0_0, .int .i64 a0_1] 42 (0, 0)) (by (with_reducible repeat (first | refine blk_drewN ?_ _ | refine blk_drew ?_ | refine blk_alloc ?_ _)); exact BK314.out) hb)
  have n1_ := Aside0.mk (below_step (by repeat (first | (with_reducible first | exact HB.out | apply below_alloc | apply pw_below_drewN | apply below_drew1 | refine below_set ?_ GE314.out) | exact HB.out)) hb)
  clear BK314
  clear HB
  have BK314 := n0_
  have HB := n1_
  clear n0_ n1_
  (try clear hb)
  (try clear hb2)
  (try clear hk)
  (try clear hi)
  refine hK.out _ _ ⟨(blk_cell BK314.out 0).trans rfl, (blk_cell BK314.out 1).trans rfl⟩ (fun hHeld => ?_)
  clear hK K
  refine norm_ (a' := ?_) ?_ ?_
  rotate_left
  · show Act.put _ (some 4) _ = _
    simp only [Act.put, List.setIfInBounds_toArray, List.set_cons_zero, List.set_cons_succ, i64_w, i32_w]
    rfl
  refine pure_ (i := 2) (N := some 5) (v := ?_) (a' := ?_) #[true, true, true, true, false, false, false, true, false, false, false, false] rfl rfl (any_of HT_.out (by kernel_rfl)) (fun _ _ _ h => h) (Or.inl ⟨by rfl, ?_⟩) ?_ ?_
  rotate_left
  · intro w'
    go_simp
    with_reducible rfl
  rotate_left
  · simp only [Act.put, List.setIfInBounds_toArray, List.set_cons_zero, List.set_cons_succ, i64_w, i32_w]
    rfl
  refine one_ (i := 4) (N := some 7) #[true, true, true, true, true, false, false, true, false, false, false, false] rfl rfl (one_of HT_.out (by kernel_rfl)) (by decide) (fun K hK => ?_)
  refine goes_ Try.func43 (by kernel_rfl) rfl #[.agg #[.int .i64 a0_0, .int .i64 a0_1]] (by rfl) rfl rfl (by (try simp only [List.map_toArray, List.map_cons, List.map_nil]); first | done | rfl | (simp only [List.length_drop, List.length_take]; rfl)) ?_
  with_reducible refine (zztime_Time_Minute.calls a0_0 a0_1 t316 _ A3.out).mono ?_
  rintro e w8 ⟨rfl, hb⟩
  refine ⟨_, rfl, ?_⟩
  have n0_ := Aside0.mk (blk_below (g := gb314) (o := .cells #[.int .i64 a0_0, .int .i64 a0_1] 42 (0, 0)) (by (with_reducible repeat (first | refine blk_drewN ?_ _ | refine blk_drew ?_ | refine blk_alloc ?_ _)); exact BK314.out) hb)
  have n1_ := Aside0.mk (below_step (by repeat (first | (with_reducible first | exact HB.out | apply below_alloc | apply pw_below_drewN | apply below_drew1 | refine below_set ?_ GE314.out) | exact HB.out)) hb)
  clear BK314
  clear HB
  have BK314 := n0_
  have HB := n1_
  clear n0_ n1_
  (try clear hb)
  (try clear hb2)
  (try clear hk)
  (try clear hi)
  refine hK.out _ _ ⟨(blk_cell BK314.out 0).trans rfl, (blk_cell BK314.out 1).trans rfl⟩ (fun hHeld => ?_)
  clear hK K
  refine norm_ (a' := ?_) ?_ ?_
  rotate_left
  · show Act.put _ (some 7) _ = _
    simp only [Act.put, List.setIfInBounds_toArray, List.set_cons_zero, List.set_cons_succ, i64_w, i32_w]
    rfl
  refine pure_ (i := 5) (N := some 8) (v := ?_) (a' := ?_) #[true, true, true, true, true, true, false, true, false, false, false, false] rfl rfl (any_of HT_.out (by kernel_rfl)) (fun _ _ _ h => h) (Or.inl ⟨by rfl, ?_⟩) ?_ ?_
  rotate_left
  · intro w'
    go_simp
    with_reducible rfl
  rotate_left
  · simp only [Act.put, List.setIfInBounds_toArray, List.set_cons_zero, List.set_cons_succ, i64_w, i32_w]
    rfl
  refine pure_ (i := 6) (N := some 9) (v := ?_) (a' := ?_) #[true, true, true, true, true, true, true, true, false, false, false, false] rfl rfl (any_of HT_.out (by kernel_rfl)) (fun _ _ _ h => h) (Or.inl ⟨by rfl, ?_⟩) ?_ ?_
  rotate_left
  · intro w'
    go_simp
    with_reducible rfl
  rotate_left
  · simp only [Act.put, List.setIfInBounds_toArray, List.set_cons_zero, List.set_cons_succ, i64_w, i32_w]
    rfl
  refine one_ (i := 8) (N := some 11) #[true, true, true, true, true, true, true, true, true, false, false, false] rfl rfl (one_of HT_.out (by kernel_rfl)) (by decide) (fun K hK => ?_)
  refine goes_ Try.func44 (by kernel_rfl) rfl #[.agg #[.int .i64 a0_0, .int .i64 a0_1]] (by rfl) rfl rfl (by (try simp only [List.map_toArray, List.map_cons, List.map_nil]); first | done | rfl | (simp only [List.length_drop, List.length_take]; rfl)) ?_
  with_reducible refine (zztime_Time_Second.calls a0_0 a0_1 t317 _ A4.out).mono ?_
  rintro e w9 ⟨rfl, hb⟩
  refine ⟨_, rfl, ?_⟩
  have n0_ := Aside0.mk (blk_below (g := gb314) (o := .cells #[.int .i64 a0_0, .int .i64 a0_1] 42 (0, 0)) (by (with_reducible repeat (first | refine blk_drewN ?_ _ | refine blk_drew ?_ | refine blk_alloc ?_ _)); exact BK314.out) hb)
  have n1_ := Aside0.mk (below_step (by repeat (first | (with_reducible first | exact HB.out | apply below_alloc | apply pw_below_drewN | apply below_drew1 | refine below_set ?_ GE314.out) | exact HB.out)) hb)
  clear BK314
  clear HB
  have BK314 := n0_
  have HB := n1_
  clear n0_ n1_
  (try clear hb)
  (try clear hb2)
  (try clear hk)
  (try clear hi)
  refine hK.out _ _ ⟨(blk_cell BK314.out 0).trans rfl, (blk_cell BK314.out 1).trans rfl⟩ (fun hHeld => ?_)
  clear hK K
  refine norm_ (a' := ?_) ?_ ?_
  rotate_left
  · show Act.put _ (some 11) _ = _
    simp only [Act.put, List.setIfInBounds_toArray, List.set_cons_zero, List.set_cons_succ, i64_w, i32_w]
    rfl
  refine pure_ (i := 9) (N := some 12) (v := ?_) (a' := ?_) #[true, true, true, true, true, true, true, true, true, true, false, false] rfl rfl (any_of HT_.out (by kernel_rfl)) (fun _ _ _ h => h) (Or.inl ⟨by rfl, ?_⟩) ?_ ?_
  rotate_left
  · intro w'
    go_simp
    with_reducible rfl
  rotate_left
  · simp only [Act.put, List.setIfInBounds_toArray, List.set_cons_zero, List.set_cons_succ, i64_w, i32_w]
    rfl
  refine pure_ (i := 10) (N := some 13) (v := ?_) (a' := ?_) #[true, true, true, true, true, true, true, true, true, true, true, false] rfl rfl (any_of HT_.out (by kernel_rfl)) (fun _ _ _ h => h) (Or.inl ⟨by rfl, ?_⟩) ?_ ?_
  rotate_left
  · intro w'
    go_simp
    with_reducible rfl
  rotate_left
  · simp only [Act.put, List.setIfInBounds_toArray, List.set_cons_zero, List.set_cons_succ, i64_w, i32_w]
    rfl
  refine pure_ (i := 11) (N := some 2) (v := ?_) (a' := ?_) #[true, true, true, true, true, true, true, true, true, true, true, true] rfl rfl (any_of HT_.out (by kernel_rfl)) (fun _ _ _ h => h) (Or.inl ⟨by rfl, ?_⟩) ?_ ?_
  rotate_left
  · intro w'
    go_simp
    with_reducible rfl
  rotate_left
  · simp only [Act.put, List.setIfInBounds_toArray, List.set_cons_zero, List.set_cons_succ, i64_w, i32_w]
    rfl
  refine done_ (done_of HT_.out (by kernel_rfl)) ?_
  try go_wp2
  go_ret
  exact ⟨by first | rfl | (simp [errW_none, errW_some] <;> rfl) | (simp [*, errW_none, errW_some] <;> rfl), by repeat (first | (with_reducible first | exact HB.out | apply below_alloc | apply pw_below_drewN | apply below_drew1 | refine below_set ?_ GE314.out) | exact HB.out)⟩

/-! ### encoding_ZzSecondtimeOf: function 35 -/
def encoding_ZzSecondtimeOf.f (a0_0 : Int) (a0_1 : Int) : Option (Int) := (encoding_convertTimeToSecondtime.f a0_0 a0_1).bind fun t319 => (some t319)
set_option maxHeartbeats 8000000 in
set_option maxRecDepth 100000 in
theorem encoding_ZzSecondtimeOf.calls (a0_0 : Int) (a0_1 : Int) (r : Int) (w : World) (h : encoding_ZzSecondtimeOf.f a0_0 a0_1 = some r) :
    Calls Try.prog 35 #[.agg #[.int .i64 a0_0, .int .i64 a0_1]] w fun e w' => e = .returned (.int .i64 r) ∧ Below w.heap.size w w' := by
  have hu42 := Try.underlying42
  have HB := Aside0.mk (Below.refl w.heap.size w)
  have H : ((encoding_convertTimeToSecondtime.f a0_0 a0_1).bind fun t319 => (some t319)) = some r := h
  clear h
  replace H := Option.bind_eq_some_iff.mp H
  obtain ⟨t319, A20, H⟩ := H
  replace H : (some t319) = some r := H
  have A2 := Aside0.mk A20
  clear A20
  obtain rfl := Option.some.inj H
  go_enter Try.func35, Try.ntmps35
  go_wp2_with (first | ((with_reducible refine gate_dst (N := 1) rfl ?_); refine box_event ?hg (N := 1) ?hd (cs := #[.int .i64 a0_0, .int .i64 a0_1]) (t := 42) ?hr ?_; (case hd => rfl); (case hg => rfl); (case hr => first | (go_simp; done) | (go_simp; rfl)); intro gb318 hg w3 hbox hb; have n0_ := Aside0.mk (below_step (by repeat (first | (with_reducible first | exact HB.out | apply below_alloc | apply pw_below_drewN | apply below_drew1) | exact HB.out)) hb); have n1_ := Aside0.mk (hbox); have n2_ := Aside0.mk ((by rw [hg]; exact (below_size (by repeat (first | (with_reducible first | exact HB.out | apply below_alloc | apply pw_below_drewN | apply below_drew1) | exact HB.out))) : w.heap.size ≤ gb318)); have n3_ := Aside0.mk ((by rw [hg]; exact (below_size (by repeat (first | (with_reducible first | exact HB.out | apply below_alloc | apply pw_below_drewN | apply below_drew1) | exact HB.out))) : w.heap.size ≤ gb318)); clear HB; have HB := n0_; have BK318 := n1_; have GW318 := n2_; have GE318 := n3_; clear n0_ n1_ n2_ n3_; clear hb hbox hg; have hcz4_0 : w3.cell? ⟨gb318, 0, none⟩ = some (.int .i64 a0_0) := (blk_cell BK318.out 0).trans rfl; have hcz4_1 : w3.cell? ⟨gb318, 1, none⟩ = some (.int .i64 a0_1) := (blk_cell BK318.out 1).trans rfl; have hfz4_0 := blk_frozen BK318.out 0; have hfz4_1 := blk_frozen BK318.out 1) | ((with_reducible refine gate_callee (f := 54) rfl ?_); refine goesL_ (some 4) rfl rfl Try.func54 (by kernel_rfl) rfl #[.agg #[.int .i64 a0_0, .int .i64 a0_1]] rfl (by (try simp only [List.map_toArray, List.map_cons, List.map_nil]); first | done | rfl | (simp only [List.length_drop, List.length_take]; rfl)) ?_; (with_reducible refine (encoding_convertTimeToSecondtime.calls a0_0 a0_1 t319 _ A2.out).mono ?_); rintro e w5 ⟨rfl, hb⟩; refine ⟨_, rfl, ?_⟩; have n0_ := Aside0.mk (blk_below (g := gb318) (o := .cells #[.int .i64 a0_0, .int .i64 a0_1] 42 (0, 0)) (by (with_reducible repeat (first | refine blk_drewN ?_ _ | refine blk_drew ?_ | refine blk_alloc ?_ _)); exact BK318.out) hb); have n1_ := Aside0.mk (below_step (by repeat (first | (with_reducible first | exact HB.out | apply below_alloc | apply pw_below_drewN | apply below_drew1 | refine below_set ?_ GE318.out) | exact HB.out)) hb); clear BK318; clear HB; have BK318 := n0_; have HB := n1_; clear n0_ n1_; (try clear hb); (try clear hb2); (try clear hk); (try clear hi)))
  go_ret
  exact ⟨by first | rfl | (simp [errW_none, errW_some] <;> rfl) | (simp [*, errW_none, errW_some] <;> rfl), by repeat (first | (with_reducible first | exact HB.out | apply below_alloc | apply pw_below_drewN | apply below_drew1 | refine below_set ?_ GE318.out) | exact HB.out)⟩

/-! ### impl_TimeNumbers: function 17 -/
def impl_TimeNumbers.j0 : Nat → Bool → Int → Int → Option (Int × Int × Int × Int × Int)
  | 0, _, _, _ => none
  | k + 1, x25, x325000, x325001 => if x25 = true then (some (0, 0, 0, 0, 3)) else ((encoding_ZzLongdateOf.f x325000 x325001).bind fun t327 => ((encoding_ZzSeconddateOf.f x325000 x325001).bind fun t328 => ((encoding_ZzDaydateOf.f x325000 x325001).bind fun t329 => ((encoding_ZzSecondtimeOf.f x325000 x325001).bind fun t330 => (some (t327, t328, t329, t330, 0))))))
def impl_TimeNumbers.f (k : Nat) (a0_0 : Int) (a0_1 : Int) (a0_2 : Int) (a0_3 : Int) (a0_4 : Int) (a0_5 : Int) (a0_6 : Int) : Option (Int × Int × Int × Int × Int) := (impl_timeOf.f a0_0 a0_1 a0_2 a0_3 a0_4 a0_5 a0_6).bind fun bt321 => (if bt321.2.2 = true then ((zztime_Time_Year.f bt321.1 bt321.2.1).bind fun t325 => (if t325 < 1 then (impl_TimeNumbers.j0 k true bt321.1 bt321.2.1) else ((zztime_Time_Year.f bt321.1 bt321.2.1).bind fun t326 => (impl_TimeNumbers.j0 k (decide (t326 > 9999)) bt321.1 bt321.2.1)))) else (impl_TimeNumbers.j0 k true bt321.1 bt321.2.1))
theorem impl_TimeNumbers.mono_l : ∀ k, (∀ y0 y1 y2, LeO (impl_TimeNumbers.j0 k y0 y1 y2) (impl_TimeNumbers.j0 (k + 1) y0 y1 y2))
  | 0 => fun _ _ _ r h => by simp [impl_TimeNumbers.j0] at h
  | k + 1 => by
    have ih0 := impl_TimeNumbers.mono_l k
    · intro y0 y1 y2
      unfold impl_TimeNumbers.j0
      repeat' first
      | (with_reducible exact ih0 _ _ _)
      | (with_reducible exact LeO.refl _)
      | (with_reducible exact LeO.none _)
      | (with_reducible refine LeO.ite ?_ ?_)
      | (with_reducible refine LeO.bind ?_ (fun _ => ?_))
      | exact ih0 _ _ _
      | exact LeO.none _
      | refine LeO.ite ?_ ?_
      | refine LeO.bind ?_ (fun _ => ?_)
theorem impl_TimeNumbers.mono : ∀ a0 a1 a2 a3 a4 a5 a6 k, LeO (impl_TimeNumbers.f k a0 a1 a2 a3 a4 a5 a6) (impl_TimeNumbers.f (k + 1) a0 a1 a2 a3 a4 a5 a6) := by
  intro a0 a1 a2 a3 a4 a5 a6 k
  have ih0 := impl_TimeNumbers.mono_l k
  unfold impl_TimeNumbers.f
  repeat' first
      | (with_reducible exact ih0 _ _ _)
      | (with_reducible exact LeO.refl _)
      | (with_reducible exact LeO.none _)
      | (with_reducible refine LeO.ite ?_ ?_)
      | (with_reducible refine LeO.bind ?_ (fun _ => ?_))
      | exact ih0 _ _ _
      | exact LeO.none _
      | refine LeO.ite ?_ ?_
      | refine LeO.bind ?_ (fun _ => ?_)
def impl_TimeNumbers.T4 : Bool × List (List Nat × List Nat) := (true, [([], []), ([0], [0]), ([], []), ([2, 1], [2]), ([], []), ([4, 3], [4]), ([], []), ([6, 5], [6]), ([1, 7, 0, 1], [1]), ([3, 8, 0, 1, 2, 3, 8], [3]), ([5, 9, 0, 1, 2, 3, 4, 5, 8, 9], [5]), ([7, 10, 0, 1, 2, 3, 4, 5, 6, 7, 8, 9, 10], [7]), ([11, 0, 1, 2, 3, 4, 5, 6, 7, 8, 9, 10, 11], [])])
def impl_TimeNumbers.B4 : List Nat := [0, 1, 0, 7, 0, 31, 0, 127, 255, 511, 1023, 2047, 4095]
theorem impl_TimeNumbers.tab4 : rtab .any (opsOf Try.f17 4) = impl_TimeNumbers.T4 := by kernel_rfl
theorem impl_TimeNumbers.bits4 : waitsOk impl_TimeNumbers.T4.2 impl_TimeNumbers.B4 = true := by kernel_rfl
set_option maxHeartbeats 8000000 in
set_option maxRecDepth 100000 in
theorem impl_TimeNumbers.calls (k : Nat) (a0_0 : Int) (a0_1 : Int) (a0_2 : Int) (a0_3 : Int) (a0_4 : Int) (a0_5 : Int) (a0_6 : Int) (r1 : Int) (r2 : Int) (r3 : Int) (r4 : Int) (r5 : Int) (w : World) (h : impl_TimeNumbers.f k a0_0 a0_1 a0_2 a0_3 a0_4 a0_5 a0_6 = some (r1, r2, r3, r4, r5)) :
    Calls Try.prog 17 #[.agg #[.int .i64 a0_0, .int .i64 a0_1, .int .i64 a0_2, .int .i64 a0_3, .int .i64 a0_4, .int .i64 a0_5, .int .i64 a0_6]] w fun e w' => e = .returned (.tuple #[.int .i64 r1, .int .i64 r2, .int .i64 r3, .int .i64 r4, .int .i64 r5]) ∧ Below w.heap.size w w' := by
  have hu23 := Try.underlying23
  have hu42 := Try.underlying42
  have HB := Aside0.mk (Below.refl w.heap.size w)
  have H : ((impl_timeOf.f a0_0 a0_1 a0_2 a0_3 a0_4 a0_5 a0_6).bind fun bt321 => (if bt321.2.2 = true then ((zztime_Time_Year.f bt321.1 bt321.2.1).bind fun t325 => (if t325 < 1 then (impl_TimeNumbers.j0 k true bt321.1 bt321.2.1) else ((zztime_Time_Year.f bt321.1 bt321.2.1).bind fun t326 => (impl_TimeNumbers.j0 k (decide (t326 > 9999)) bt321.1 bt321.2.1)))) else (impl_TimeNumbers.j0 k true bt321.1 bt321.2.1))) = some (r1, r2, r3, r4, r5) := h
  clear h
  replace H := Option.bind_eq_some_iff.mp H
  obtain ⟨⟨t321, t322, t323⟩, A20, H⟩ := H
  replace H : (if t323 = true then ((zztime_Time_Year.f t321 t322).bind fun t325 => (if t325 < 1 then (impl_TimeNumbers.j0 k true t321 t322) else ((zztime_Time_Year.f t321 t322).bind fun t326 => (impl_TimeNumbers.j0 k (decide (t326 > 9999)) t321 t322)))) else (impl_TimeNumbers.j0 k true t321 t322)) = some (r1, r2, r3, r4, r5) := H
  have A2 := Aside0.mk A20
  clear A20
  have HC3 := Aside0.mk H
  clear H
  go_enter Try.func17, Try.ntmps17
  go_upto_region 2 with (first | ((with_reducible refine gate_dst (N := 1) rfl ?_); refine box_event ?hg (N := 1) ?hd (cs := #[.int .i64 a0_0, .int .i64 a0_1, .int .i64 a0_2, .int .i64 a0_3, .int .i64 a0_4, .int .i64 a0_5, .int .i64 a0_6]) (t := 23) ?hr ?_; (case hd => rfl); (case hg => rfl); (case hr => first | (go_simp; done) | (go_simp; rfl)); intro gb320 hg w4 hbox hb; have n0_ := Aside0.mk (below_step (by repeat (first | (with_reducible first | exact HB.out | apply below_alloc | apply pw_below_drewN | apply below_drew1) | exact HB.out)) hb); have n1_ := Aside0.mk (hbox); have n2_ := Aside0.mk ((by rw [hg]; exact (below_size (by repeat (first | (with_reducible first | exact HB.out | apply below_alloc | apply pw_below_drewN | apply below_drew1) | exact HB.out))) : w.heap.size ≤ gb320)); have n3_ := Aside0.mk ((by rw [hg]; exact (below_size (by repeat (first | (with_reducible first | exact HB.out | apply below_alloc | apply pw_below_drewN | apply below_drew1) | exact HB.out))) : w.heap.size ≤ gb320)); clear HB; have HB := n0_; have BK320 := n1_; have GW320 := n2_; have GE320 := n3_; clear n0_ n1_ n2_ n3_; clear hb hbox hg; have hcz5_0 : w4.cell? ⟨gb320, 0, none⟩ = some (.int .i64 a0_0) := (blk_cell BK320.out 0).trans rfl; have hcz5_1 : w4.cell? ⟨gb320, 1, none⟩ = some (.int .i64 a0_1) := (blk_cell BK320.out 1).trans rfl; have hcz5_2 : w4.cell? ⟨gb320, 2, none⟩ = some (.int .i64 a0_2) := (blk_cell BK320.out 2).trans rfl; have hcz5_3 : w4.cell? ⟨gb320, 3, none⟩ = some (.int .i64 a0_3) := (blk_cell BK320.out 3).trans rfl; have hcz5_4 : w4.cell? ⟨gb320, 4, none⟩ = some (.int .i64 a0_4) := (blk_cell BK320.out 4).trans rfl; have hcz5_5 : w4.cell? ⟨gb320, 5, none⟩ = some (.int .i64 a0_5) := (blk_cell BK320.out 5).trans rfl; have hcz5_6 : w4.cell? ⟨gb320, 6, none⟩ = some (.int .i64 a0_6) := (blk_cell BK320.out 6).trans rfl; have hfz5_0 := blk_frozen BK320.out 0; have hfz5_1 := blk_frozen BK320.out 1; have hfz5_2 := blk_frozen BK320.out 2; have hfz5_3 := blk_frozen BK320.out 3; have hfz5_4 := blk_frozen BK320.out 4; have hfz5_5 := blk_frozen BK320.out 5; have hfz5_6 := blk_frozen BK320.out 6) | ((with_reducible refine gate_callee (f := 23) rfl ?_); refine goesL_ (some 11) rfl rfl Try.func23 (by kernel_rfl) rfl #[.agg #[.int .i64 a0_0, .int .i64 a0_1, .int .i64 a0_2, .int .i64 a0_3, .int .i64 a0_4, .int .i64 a0_5, .int .i64 a0_6]] rfl (by (try simp only [List.map_toArray, List.map_cons, List.map_nil]); first | done | rfl | (simp only [List.length_drop, List.length_take]; rfl)) ?_; (with_reducible refine (impl_timeOf.calls a0_0 a0_1 a0_2 a0_3 a0_4 a0_5 a0_6 t321 t322 t323 _ A2.out).mono ?_); rintro e w6 ⟨rfl, hb⟩; refine ⟨_, rfl, ?_⟩; have n0_ := Aside0.mk (blk_below (g := gb320) (o := .cells #[.int .i64 a0_0, .int .i64 a0_1, .int .i64 a0_2, .int .i64 a0_3, .int .i64 a0_4, .int .i64 a0_5, .int .i64 a0_6] 23 (0, 0)) (by (with_reducible repeat (first | refine blk_drewN ?_ _ | refine blk_drew ?_ | refine blk_alloc ?_ _)); exact BK320.out) hb); have n1_ := Aside0.mk (below_step (by repeat (first | (with_reducible first | exact HB.out | apply below_alloc | apply pw_below_drewN | apply below_drew1 | refine below_set ?_ GE320.out) | exact HB.out)) hb); clear BK320; clear HB; have BK320 := n0_; have HB := n1_; clear n0_ n1_; (try clear hb); (try clear hb2); (try clear hk); (try clear hi)) | ((with_reducible refine gate_dst (N := 7) rfl ?_); refine box_event ?hg (N := 7) ?hd (cs := #[.int .i64 0, .int .i64 0]) (t := 42) ?hr ?_; (case hd => rfl); (case hg => rfl); (case hr => first | (go_simp; done) | (go_simp; rfl)); intro gb324 hg w7 hbox hb; have n0_ := Aside0.mk (blk_below (g := gb320) (o := .cells #[.int .i64 a0_0, .int .i64 a0_1, .int .i64 a0_2, .int .i64 a0_3, .int .i64 a0_4, .int .i64 a0_5, .int .i64 a0_6] 23 (0, 0)) (by (with_reducible repeat (first | refine blk_drewN ?_ _ | refine blk_drew ?_ | refine blk_alloc ?_ _)); exact BK320.out) hb); have n1_ := Aside0.mk (below_step (by repeat (first | (with_reducible first | exact HB.out | apply below_alloc | apply pw_below_drewN | apply below_drew1 | refine below_set ?_ GE320.out) | exact HB.out)) hb); have n2_ := Aside0.mk (hbox); have n3_ := Aside0.mk ((by rw [hg]; exact (below_size (by repeat (first | (with_reducible first | exact HB.out | apply below_alloc | apply pw_below_drewN | apply below_drew1 | refine below_set ?_ GE320.out) | exact HB.out))) : w.heap.size ≤ gb324)); have n4_ := Aside0.mk ((by rw [hg]; exact (below_size (by repeat (first | (with_reducible first | exact HB.out | apply below_alloc | apply pw_below_drewN | apply below_drew1 | refine below_set ?_ GE320.out) | exact HB.out))) : w.heap.size ≤ gb324)); have n5_ := Aside0.mk ((by rw [hg]; exact Nat.ne_of_lt (blk_lt (g := gb320) (o := .cells #[.int .i64 a0_0, .int .i64 a0_1, .int .i64 a0_2, .int .i64 a0_3, .int .i64 a0_4, .int .i64 a0_5, .int .i64 a0_6] 23 (0, 0)) (by (with_reducible repeat (first | refine blk_drewN ?_ _ | refine blk_drew ?_ | refine blk_alloc ?_ _)); exact BK320.out)) : gb320 ≠ gb324)); have n6_ := Aside0.mk ((by rw [hg]; exact Nat.ne_of_gt (blk_lt (g := gb320) (o := .cells #[.int .i64 a0_0, .int .i64 a0_1, .int .i64 a0_2, .int .i64 a0_3, .int .i64 a0_4, .int .i64 a0_5, .int .i64 a0_6] 23 (0, 0)) (by (with_reducible repeat (first | refine blk_drewN ?_ _ | refine blk_drew ?_ | refine blk_alloc ?_ _)); exact BK320.out)) : gb324 ≠ gb320)); clear BK320; clear HB; have BK320 := n0_; have HB := n1_; have BK324 := n2_; have GW324 := n3_; have GE324 := n4_; have NB320_324 := n5_; have NB324_320 := n6_; clear n0_ n1_ n2_ n3_ n4_ n5_ n6_; clear hb hbox hg; have hnb8 := NB324_320.out; have hnc8 := NB320_324.out; have hcz9_0 : w7.cell? ⟨gb324, 0, none⟩ = some (.int .i64 0) := (blk_cell BK324.out 0).trans rfl; have hcz9_1 : w7.cell? ⟨gb324, 1, none⟩ = some (.int .i64 0) := (blk_cell BK324.out 1).trans rfl; have hfz9_0 := blk_frozen BK324.out 0; have hfz9_1 := blk_frozen BK324.out 1))
  (try simp only [Act.put, List.setIfInBounds_toArray, List.set_cons_zero, List.set_cons_succ])
  go_cut [25] (fun v25 wc => ∃ (kq : Nat) (x25_2 : Bool), v25 = .bool x25_2 ∧ Aside0 (impl_TimeNumbers.j0 kq x25_2 t321 t322 = some (r1, r2, r3, r4, r5)) ∧ Aside0 (kq ≤ k) ∧ Aside0 (wc.heap[gb320]? = some (.cells #[.int .i64 a0_0, .int .i64 a0_1, .int .i64 a0_2, .int .i64 a0_3, .int .i64 a0_4, .int .i64 a0_5, .int .i64 a0_6] 23 (0, 0))) ∧ Aside0 (wc.heap[gb324]? = some (.cells #[.int .i64 t321, .int .i64 t322] 42 (0, 0))) ∧ Aside0 (Below w.heap.size w wc))
  case first =>
    have H := HC3.out
    clear HC3
    by_cases c10 : t323 = true
    · subst c10
      have H1 : ((zztime_Time_Year.f t321 t322).bind fun t325 => (if t325 < 1 then (impl_TimeNumbers.j0 k true t321 t322) else ((zztime_Time_Year.f t321 t322).bind fun t326 => (impl_TimeNumbers.j0 k (decide (t326 > 9999)) t321 t322)))) = some (r1, r2, r3, r4, r5) := by rw [if_pos rfl] at H; exact H
      clear H
      have H := H1
      clear H1
      replace H := Option.bind_eq_some_iff.mp H
      obtain ⟨t325, A110, H⟩ := H
      replace H : (if t325 < 1 then (impl_TimeNumbers.j0 k true t321 t322) else ((zztime_Time_Year.f t321 t322).bind fun t326 => (impl_TimeNumbers.j0 k (decide (t326 > 9999)) t321 t322))) = some (r1, r2, r3, r4, r5) := H
      have A11 := Aside0.mk A110
      clear A110
      by_cases c12 : t325 < 1
      · rw [if_pos c12] at H
        have c12b0 : decide (t325 < 1) = true := decide_eq_true c12
        clear c12
        (first | rw [c12b0] | (simp only [i64_w, i32_w]; rw [c12b0]) | skip)
        have H' := Aside0.mk H
        clear H
        have hnb13 := NB324_320.out
        have hnc13 := NB320_324.out
        have hcz14_0 : w7.cell? ⟨gb324, 0, none⟩ = some (.int .i64 0) := (blk_cell BK324.out 0).trans rfl
        have hcz14_1 : w7.cell? ⟨gb324, 1, none⟩ = some (.int .i64 0) := (blk_cell BK324.out 1).trans rfl
        have hfz14_0 := blk_frozen BK324.out 0
        have hfz14_1 := blk_frozen BK324.out 1
        go_wp2_with (first | (go_at_call 31; (with_reducible refine (zztime_Time_Year.calls t321 t322 t325 _ A11.out).mono ?_); rintro e w15 ⟨rfl, hb⟩; have n0_ := Aside0.mk (blk_below (g := gb320) (o := .cells #[.int .i64 a0_0, .int .i64 a0_1, .int .i64 a0_2, .int .i64 a0_3, .int .i64 a0_4, .int .i64 a0_5, .int .i64 a0_6] 23 (0, 0)) (by (with_reducible repeat (first | refine blk_drewN ?_ _ | refine blk_drew ?_ | refine blk_alloc ?_ _)); refine blk_far ?_ NB320_324.out _; (with_reducible repeat (first | refine blk_drewN ?_ _ | refine blk_drew ?_ | refine blk_alloc ?_ _)); refine blk_far ?_ NB320_324.out _; (with_reducible repeat (first | refine blk_drewN ?_ _ | refine blk_drew ?_ | refine blk_alloc ?_ _)); exact BK320.out) hb); have n1_ := Aside0.mk (blk_below (g := gb324) (o := .cells #[.int .i64 t321, .int .i64 t322] 42 (0, 0)) (by (with_reducible repeat (first | refine blk_drewN ?_ _ | refine blk_drew ?_ | refine blk_alloc ?_ _)); refine blk_put (cs := #[.int .i64 t321, .int .i64 0]) ?_ 1 _ rfl; (with_reducible repeat (first | refine blk_drewN ?_ _ | refine blk_drew ?_ | refine blk_alloc ?_ _)); refine blk_put (cs := #[.int .i64 0, .int .i64 0]) ?_ 0 _ rfl; (with_reducible repeat (first | refine blk_drewN ?_ _ | refine blk_drew ?_ | refine blk_alloc ?_ _)); exact BK324.out) hb); have n2_ := Aside0.mk (below_step (by repeat (first | (with_reducible first | exact HB.out | apply below_alloc | apply pw_below_drewN | apply below_drew1 | refine below_set ?_ GE320.out | refine below_set ?_ GE324.out) | exact HB.out)) hb); clear BK320; clear BK324; clear HB; have BK320 := n0_; have BK324 := n1_; have HB := n2_; clear n0_ n1_ n2_; (try clear hb); (try clear hb2); (try clear hk); (try clear hi)))
        go_meet
        case rel => exact ⟨_, (true), (by first | rfl | (simp; done) | (simp [*]; done)), H', ⟨by first | omega | exact Nat.le_refl _⟩, ⟨by (with_reducible repeat (first | refine blk_drewN ?_ _ | refine blk_drew ?_ | refine blk_alloc ?_ _)); exact BK320.out⟩, ⟨by (with_reducible repeat (first | refine blk_drewN ?_ _ | refine blk_drew ?_ | refine blk_alloc ?_ _)); exact BK324.out⟩, ⟨by repeat (first | (with_reducible first | exact HB.out | apply below_alloc | apply pw_below_drewN | apply below_drew1 | refine below_set ?_ GE320.out | refine below_set ?_ GE324.out) | exact HB.out)⟩⟩
      · rw [if_neg c12] at H
        have c12b0 : decide (t325 < 1) = false := decide_eq_false c12
        clear c12
        (first | rw [c12b0] | (simp only [i64_w, i32_w]; rw [c12b0]) | skip)
        replace H := Option.bind_eq_some_iff.mp H
        obtain ⟨t326, A160, H⟩ := H
        replace H : (impl_TimeNumbers.j0 k (decide (t326 > 9999)) t321 t322) = some (r1, r2, r3, r4, r5) := H
        have A16 := Aside0.mk A160
        clear A160
        have H' := Aside0.mk H
        clear H
        have hnb17 := NB324_320.out
        have hnc17 := NB320_324.out
        have hcz18_0 : w7.cell? ⟨gb324, 0, none⟩ = some (.int .i64 0) := (blk_cell BK324.out 0).trans rfl
        have hcz18_1 : w7.cell? ⟨gb324, 1, none⟩ = some (.int .i64 0) := (blk_cell BK324.out 1).trans rfl
        have hfz18_0 := blk_frozen BK324.out 0
        have hfz18_1 := blk_frozen BK324.out 1
        go_wp2_with (first | (go_at_call 31; (with_reducible refine (zztime_Time_Year.calls t321 t322 t325 _ A11.out).mono ?_); rintro e w19 ⟨rfl, hb⟩; have n0_ := Aside0.mk (blk_below (g := gb320) (o := .cells #[.int .i64 a0_0, .int .i64 a0_1, .int .i64 a0_2, .int .i64 a0_3, .int .i64 a0_4, .int .i64 a0_5, .int .i64 a0_6] 23 (0, 0)) (by (with_reducible repeat (first | refine blk_drewN ?_ _ | refine blk_drew ?_ | refine blk_alloc ?_ _)); refine blk_far ?_ NB320_324.out _; (with_reducible repeat (first | refine blk_drewN ?_ _ | refine blk_drew ?_ | refine blk_alloc ?_ _)); refine blk_far ?_ NB320_324.out _; (with_reducible repeat (first | refine blk_drewN ?_ _ | refine blk_drew ?_ | refine blk_alloc ?_ _)); exact BK320.out) hb); have n1_ := Aside0.mk (blk_below (g := gb324) (o := .cells #[.int .i64 t321, .int .i64 t322] 42 (0, 0)) (by (with_reducible repeat (first | refine blk_drewN ?_ _ | refine blk_drew ?_ | refine blk_alloc ?_ _)); refine blk_put (cs := #[.int .i64 t321, .int .i64 0]) ?_ 1 _ rfl; (with_reducible repeat (first | refine blk_drewN ?_ _ | refine blk_drew ?_ | refine blk_alloc ?_ _)); refine blk_put (cs := #[.int .i64 0, .int .i64 0]) ?_ 0 _ rfl; (with_reducible repeat (first | refine blk_drewN ?_ _ | refine blk_drew ?_ | refine blk_alloc ?_ _)); exact BK324.out) hb); have n2_ := Aside0.mk (below_step (by repeat (first | (with_reducible first | exact HB.out | apply below_alloc | apply pw_below_drewN | apply below_drew1 | refine below_set ?_ GE320.out | refine below_set ?_ GE324.out) | exact HB.out)) hb); clear BK320; clear BK324; clear HB; have BK320 := n0_; have BK324 := n1_; have HB := n2_; clear n0_ n1_ n2_; (try clear hb); (try clear hb2); (try clear hk); (try clear hi); have hcz20_0 : w19.cell? ⟨gb324, 0, none⟩ = some (.int .i64 t321) := (blk_cell BK324.out 0).trans rfl; have hcz20_1 : w19.cell? ⟨gb324, 1, none⟩ = some (.int .i64 t322) := (blk_cell BK324.out 1).trans rfl; have hfz20_0 := blk_frozen BK324.out 0; have hfz20_1 := blk_frozen BK324.out 1) | (go_at_call 31; (with_reducible refine (zztime_Time_Year.calls t321 t322 t326 _ A16.out).mono ?_); rintro e w21 ⟨rfl, hb⟩; have n0_ := Aside0.mk (blk_below (g := gb320) (o := .cells #[.int .i64 a0_0, .int .i64 a0_1, .int .i64 a0_2, .int .i64 a0_3, .int .i64 a0_4, .int .i64 a0_5, .int .i64 a0_6] 23 (0, 0)) (by (with_reducible repeat (first | refine blk_drewN ?_ _ | refine blk_drew ?_ | refine blk_alloc ?_ _)); exact BK320.out) hb); have n1_ := Aside0.mk (blk_below (g := gb324) (o := .cells #[.int .i64 t321, .int .i64 t322] 42 (0, 0)) (by (with_reducible repeat (first | refine blk_drewN ?_ _ | refine blk_drew ?_ | refine blk_alloc ?_ _)); exact BK324.out) hb); have n2_ := Aside0.mk (below_step (by repeat (first | (with_reducible first | exact HB.out | apply below_alloc | apply pw_below_drewN | apply below_drew1 | refine below_set ?_ GE320.out | refine below_set ?_ GE324.out) | exact HB.out)) hb); clear BK320; clear BK324; clear HB; have BK320 := n0_; have BK324 := n1_; have HB := n2_; clear n0_ n1_ n2_; (try clear hb); (try clear hb2); (try clear hk); (try clear hi)))
        go_meet
        case rel => exact ⟨_, (decide (t326 > 9999)), (by first | rfl | (simp; done) | (simp [*]; done)), H', ⟨by first | omega | exact Nat.le_refl _⟩, ⟨by (with_reducible repeat (first | refine blk_drewN ?_ _ | refine blk_drew ?_ | refine blk_alloc ?_ _)); exact BK320.out⟩, ⟨by (with_reducible repeat (first | refine blk_drewN ?_ _ | refine blk_drew ?_ | refine blk_alloc ?_ _)); exact BK324.out⟩, ⟨by repeat (first | (with_reducible first | exact HB.out | apply below_alloc | apply pw_below_drewN | apply below_drew1 | refine below_set ?_ GE320.out | refine below_set ?_ GE324.out) | exact HB.out)⟩⟩
    · replace c10 := Bool.eq_false_iff.mpr c10
      subst c10
      have H1 : (impl_TimeNumbers.j0 k true t321 t322) = some (r1, r2, r3, r4, r5) := by rw [if_neg (show ¬ (false = true) by decide)] at H; exact H
      clear H
      have H := H1
      clear H1
      have H' := Aside0.mk H
      clear H
      go_wp2
      go_meet
      case rel => exact ⟨_, (true), (by first | rfl | (simp; done) | (simp [*]; done)), H', ⟨by first | omega | exact Nat.le_refl _⟩, ⟨by (with_reducible repeat (first | refine blk_drewN ?_ _ | refine blk_drew ?_ | refine blk_alloc ?_ _)); refine blk_far ?_ NB320_324.out _; (with_reducible repeat (first | refine blk_drewN ?_ _ | refine blk_drew ?_ | refine blk_alloc ?_ _)); refine blk_far ?_ NB320_324.out _; (with_reducible repeat (first | refine blk_drewN ?_ _ | refine blk_drew ?_ | refine blk_alloc ?_ _)); exact BK320.out⟩, ⟨by (with_reducible repeat (first | refine blk_drewN ?_ _ | refine blk_drew ?_ | refine blk_alloc ?_ _)); refine blk_put (cs := #[.int .i64 t321, .int .i64 0]) ?_ 1 _ rfl; (with_reducible repeat (first | refine blk_drewN ?_ _ | refine blk_drew ?_ | refine blk_alloc ?_ _)); refine blk_put (cs := #[.int .i64 0, .int .i64 0]) ?_ 0 _ rfl; (with_reducible repeat (first | refine blk_drewN ?_ _ | refine blk_drew ?_ | refine blk_alloc ?_ _)); exact BK324.out⟩, ⟨by repeat (first | (with_reducible first | exact HB.out | apply below_alloc | apply pw_below_drewN | apply below_drew1 | refine below_set ?_ GE320.out | refine below_set ?_ GE324.out) | exact HB.out)⟩⟩
  case rest =>
    clear HC3
    try clear c1
    try clear c2
    try clear p2
    try clear c8
    try clear c10
    try clear c12
    try clear c12b0
    try clear c13
    try clear c17
    try clear hcz14_0
    try clear hcz14_1
    try clear hcz18_0
    try clear hcz18_1
    try clear hcz20_0
    try clear hcz20_1
    try clear hcz5_0
    try clear hcz5_1
    try clear hcz5_2
    try clear hcz5_3
    try clear hcz5_4
    try clear hcz5_5
    try clear hcz5_6
    try clear hcz9_0
    try clear hcz9_1
    try clear hfz14_0
    try clear hfz14_1
    try clear hfz18_0
    try clear hfz18_1
    try clear hfz20_0
    try clear hfz20_1
    try clear hfz5_0
    try clear hfz5_1
    try clear hfz5_2
    try clear hfz5_3
    try clear hfz5_4
    try clear hfz5_5
    try clear hfz5_6
    try clear hfz9_0
    try clear hfz9_1
    obtain ⟨kq, x25_2, rfl, HA, HJ2, BK320, BK324, HB⟩ := hcut
    cases kq with
    | zero => exact absurd HA.out (by simp [impl_TimeNumbers.j0])
    | succ kj2 =>
      have H := HA.out
      clear HA
      simp only [impl_TimeNumbers.j0] at H
      by_cases c22 : x25_2 = true
      · subst c22
        have H1 : (some (0, 0, 0, 0, 3)) = some (r1, r2, r3, r4, r5) := by rw [if_pos rfl] at H; exact H
        clear H
        have H := H1
        clear H1
        simp only [Option.some.injEq, Prod.mk.injEq] at H
        obtain ⟨rfl, rfl, rfl, rfl, rfl⟩ := H
        go_wp2
        refine bodyPost_ret (results_list (rs := [.tmp 2, .tmp 3, .tmp 4, .tmp 5, .tmp 6]) rfl (by simp) (.tmp (.tmp (.tmp (.tmp (.tmp .nil)))))) rfl ?_
        exact ⟨by first | rfl | (simp [errW_none, errW_some] <;> rfl) | (simp [*, errW_none, errW_some] <;> rfl), by repeat (first | (with_reducible first | exact HB.out | apply below_alloc | apply pw_below_drewN | apply below_drew1 | refine below_set ?_ GE320.out | refine below_set ?_ GE324.out) | exact HB.out)⟩
      · replace c22 := Bool.eq_false_iff.mpr c22
        subst c22
        have H1 : ((encoding_ZzLongdateOf.f t321 t322).bind fun t327 => ((encoding_ZzSeconddateOf.f t321 t322).bind fun t328 => ((encoding_ZzDaydateOf.f t321 t322).bind fun t329 => ((encoding_ZzSecondtimeOf.f t321 t322).bind fun t330 => (some (t327, t328, t329, t330, 0)))))) = some (r1, r2, r3, r4, r5) := by rw [if_neg (show ¬ (false = true) by decide)] at H; exact H
        clear H
        have H := H1
        clear H1
        replace H := Option.bind_eq_some_iff.mp H
        obtain ⟨t327, A230, H⟩ := H
        replace H : ((encoding_ZzSeconddateOf.f t321 t322).bind fun t328 => ((encoding_ZzDaydateOf.f t321 t322).bind fun t329 => ((encoding_ZzSecondtimeOf.f t321 t322).bind fun t330 => (some (t327, t328, t329, t330, 0))))) = some (r1, r2, r3, r4, r5) := H
        have A23 := Aside0.mk A230
        clear A230
        replace H := Option.bind_eq_some_iff.mp H
        obtain ⟨t328, A240, H⟩ := H
        replace H : ((encoding_ZzDaydateOf.f t321 t322).bind fun t329 => ((encoding_ZzSecondtimeOf.f t321 t322).bind fun t330 => (some (t327, t328, t329, t330, 0)))) = some (r1, r2, r3, r4, r5) := H
        have A24 := Aside0.mk A240
        clear A240
        replace H := Option.bind_eq_some_iff.mp H
        obtain ⟨t329, A250, H⟩ := H
        replace H : ((encoding_ZzSecondtimeOf.f t321 t322).bind fun t330 => (some (t327, t328, t329, t330, 0))) = some (r1, r2, r3, r4, r5) := H
        have A25 := Aside0.mk A250
        clear A250
        replace H := Option.bind_eq_some_iff.mp H
        obtain ⟨t330, A260, H⟩ := H
        replace H : (some (t327, t328, t329, t330, 0)) = some (r1, r2, r3, r4, r5) := H
        have A26 := Aside0.mk A260
        clear A260
        simp only [Option.some.injEq, Prod.mk.injEq] at H
        obtain ⟨rfl, rfl, rfl, rfl, rfl⟩ := H
        try go_wp2
        have n0_ := Aside0.mk (blk_drew BK320.out)
        have n1_ := Aside0.mk (blk_drew BK324.out)
        have n2_ := Aside0.mk (below_drew1 HB.out)
        clear BK320
        clear BK324
        clear HB
        have BK320 := n0_
        have BK324 := n1_
        have HB := n2_
        clear n0_ n1_ n2_
        refine start_ (n := 13) (S := fun w' => w'.cell? ⟨gb324, 0, none⟩ = some (.int .i64 t321) ∧ w'.cell? ⟨gb324, 1, none⟩ = some (.int .i64 t322)) (ds := []) #[false, false, false, false, false, false, false, false, false, false, false, false, false] (by kernel_rfl) rfl rfl ⟨(blk_cell BK324.out 0).trans rfl, (blk_cell BK324.out 1).trans rfl⟩ (fun hHeld => ?_); refine with_tabW impl_TimeNumbers.tab4 impl_TimeNumbers.bits4 (fun HT_ HW_ => ?_)
        generalize wc.drew = w27 at BK320 BK324 HB hHeld ⊢
        refine take_ (i := 0) (N := some 26) (v := ?_) (a' := ?_) #[true, false, false, false, false, false, false, false, false, false, false, false, false] rfl rfl (take_ofW HT_.out HW_.out (by kernel_rfl)) (fun _ _ _ h => h) (Or.inl ⟨by rfl, ?_⟩) hHeld ?_ ?_
        rotate_left
        · rintro w' ⟨s0, s1⟩
          go_simp
          with_reducible rfl
        rotate_left
        · simp only [Act.put, List.setIfInBounds_toArray, List.set_cons_zero, List.set_cons_succ, i64_w, i32_w]
          rfl
        refine take_ (i := 2) (N := some 28) (v := ?_) (a' := ?_) #[true, false, true, false, false, false, false, false, false, false, false, false, false] rfl rfl (take_ofW HT_.out HW_.out (by kernel_rfl)) (fun _ _ _ h => h) (Or.inl ⟨by rfl, ?_⟩) hHeld ?_ ?_
        rotate_left
        · rintro w' ⟨s0, s1⟩
          go_simp
          with_reducible rfl
        rotate_left
        · simp only [Act.put, List.setIfInBounds_toArray, List.set_cons_zero, List.set_cons_succ, i64_w, i32_w]
          rfl
        refine take_ (i := 4) (N := some 30) (v := ?_) (a' := ?_) #[true, false, true, false, true, false, false, false, false, false, false, false, false] rfl rfl (take_ofW HT_.out HW_.out (by kernel_rfl)) (fun _ _ _ h => h) (Or.inl ⟨by rfl, ?_⟩) hHeld ?_ ?_
        rotate_left
        · rintro w' ⟨s0, s1⟩
          go_simp
          with_reducible rfl
        rotate_left
        · simp only [Act.put, List.setIfInBounds_toArray, List.set_cons_zero, List.set_cons_succ, i64_w, i32_w]
          rfl
        refine take_ (i := 6) (N := some 32) (v := ?_) (a' := ?_) #[true, false, true, false, true, false, true, false, false, false, false, false, false] rfl rfl (take_ofW HT_.out HW_.out (by kernel_rfl)) (fun _ _ _ h => h) (Or.inl ⟨by rfl, ?_⟩) hHeld ?_ ?_
        rotate_left
        · rintro w' ⟨s0, s1⟩
          go_simp
          with_reducible rfl
        rotate_left
        · simp only [Act.put, List.setIfInBounds_toArray, List.set_cons_zero, List.set_cons_succ, i64_w, i32_w]
          rfl
        refine one_ (i := 1) (N := some 27) #[true, true, true, false, true, false, true, false, false, false, false, false, false] rfl rfl (one_of HT_.out (by kernel_rfl)) (by decide) (fun K hK => ?_)
        refine goes_ Try.func32 (by kernel_rfl) rfl #[.agg #[.int .i64 t321, .int .i64 t322]] (by rfl) rfl rfl (by (try simp only [List.map_toArray, List.map_cons, List.map_nil]); first | done | rfl | (simp only [List.length_drop, List.length_take]; rfl)) ?_
        with_reducible refine (encoding_ZzLongdateOf.calls t321 t322 t327 _ A23.out).mono ?_
        rintro e w28 ⟨rfl, hb⟩
        refine ⟨_, rfl, ?_⟩
        have n0_ := Aside0.mk (blk_below (g := gb320) (o := .cells #[.int .i64 a0_0, .int .i64 a0_1, .int .i64 a0_2, .int .i64 a0_3, .int .i64 a0_4, .int .i64 a0_5, .int .i64 a0_6] 23 (0, 0)) (by (with_reducible repeat (first | refine blk_drewN ?_ _ | refine blk_drew ?_ | refine blk_alloc ?_ _)); exact BK320.out) hb)
        have n1_ := Aside0.mk (blk_below (g := gb324) (o := .cells #[.int .i64 t321, .int .i64 t322] 42 (0, 0)) (by (with_reducible repeat (first | refine blk_drewN ?_ _ | refine blk_drew ?_ | refine blk_alloc ?_ _)); exact BK324.out) hb)
        have n2_ := Aside0.mk (below_step (by repeat (first | (with_reducible first | exact HB.out | apply below_alloc | apply pw_below_drewN | apply below_drew1 | refine below_set ?_ GE320.out | refine below_set ?_ GE324.out) | exact HB.out)) hb)
        clear BK320
        clear BK324
        clear HB
        have BK320 := n0_
        have BK324 := n1_
        have HB := n2_
        clear n0_ n1_ n2_
        (try clear hb)
        (try clear hb2)
        (try clear hk)
        (try clear hi)
        refine hK.out _ _ ⟨(blk_cell BK324.out 0).trans rfl, (blk_cell BK324.out 1).trans rfl⟩ (fun hHeld => ?_)
        clear hK K
        refine norm_ (a' := ?_) ?_ ?_
        rotate_left
        · show Act.put _ (some 27) _ = _
          simp only [Act.put, List.setIfInBounds_toArray, List.set_cons_zero, List.set_cons_succ, i64_w, i32_w]
          rfl
        refine one_ (i := 3) (N := some 29) #[true, true, true, true, true, false, true, false, false, false, false, false, false] rfl rfl (one_of HT_.out (by kernel_rfl)) (by decide) (fun K hK => ?_)
        refine goes_ Try.func33 (by kernel_rfl) rfl #[.agg #[.int .i64 t321, .int .i64 t322]] (by rfl) rfl rfl (by (try simp only [List.map_toArray, List.map_cons, List.map_nil]); first | done | rfl | (simp only [List.length_drop, List.length_take]; rfl)) ?_
        with_reducible refine (encoding_ZzSeconddateOf.calls t321 t322 t328 _ A24.out).mono ?_
        rintro e w29 ⟨rfl, hb⟩
        refine ⟨_, rfl, ?_⟩
        have n0_ := Aside0.mk (blk_below (g := gb320) (o := .cells #[.int .i64 a0_0, .int .i64 a0_1, .int .i64 a0_2, .int .i64 a0_3, .int .i64 a0_4, .int .i64 a0_5, .int .i64 a0_6] 23 (0, 0)) (by (with_reducible repeat (first | refine blk_drewN ?_ _ | refine blk_drew ?_ | refine blk_alloc ?_ _)); exact BK320.out) hb)
        have n1_ := Aside0.mk (blk_below (g := gb324) (o := .cells #[.int .i64 t321, .int .i64 t322] 42 (0, 0)) (by (with_reducible repeat (first | refine blk_drewN ?_ _ | refine blk_drew ?_ | refine blk_alloc ?_ _)); exact BK324.out) hb)
        have n2_ := Aside0.mk (below_step (by repeat (first | (with_reducible first | exact HB.out | apply below_alloc | apply pw_below_drewN | apply below_drew1 | refine below_set ?_ GE320.out | refine below_set ?_ GE324.out) | exact HB.out)) hb)
        clear BK320
        clear BK324
        clear HB
        have BK320 := n0_
        have BK324 := n1_
        have HB := n2_
        clear n0_ n1_ n2_
        (try clear hb)
        (try clear hb2)
        (try clear hk)
        (try clear hi)
        refine hK.out _ _ ⟨(blk_cell BK324.out 0).trans rfl, (blk_cell BK324.out 1).trans rfl⟩ (fun hHeld => ?_)
        clear hK K
        refine norm_ (a' := ?_) ?_ ?_
        rotate_left
        · show Act.put _ (some 29) _ = _
          simp only [Act.put, List.setIfInBounds_toArray, List.set_cons_zero, List.set_cons_succ, i64_w, i32_w]
          rfl
        refine one_ (i := 5) (N := some 31) #[true, true, true, true, true, true, true, false, false, false, false, false, false] rfl rfl (one_of HT_.out (by kernel_rfl)) (by decide) (fun K hK => ?_)
        refine goes_ Try.func34 (by kernel_rfl) rfl #[.agg #[.int .i64 t321, .int .i64 t322]] (by rfl) rfl rfl (by (try simp only [List.map_toArray, List.map_cons, List.map_nil]); first | done | rfl | (simp only [List.length_drop, List.length_take]; rfl)) ?_
        with_reducible refine (encoding_ZzDaydateOf.calls t321 t322 t329 _ A25.out).mono ?_
        rintro e w30 ⟨rfl, hb⟩
        refine ⟨_, rfl, ?_⟩
        have n0_ := Aside0.mk (blk_below (g := gb320) (o := .cells #[.int .i64 a0_0, .int .i64 a0_1, .int .i64 a0_2, .int .i64 a0_3, .int .i64 a0_4, .int .i64 a0_5, .int .i64 a0_6] 23 (0, 0)) (by (with_reducible repeat (first | refine blk_drewN ?_ _ | refine blk_drew ?_ | refine blk_alloc ?_ _)); exact BK320.out) hb)
        have n1_ := Aside0.mk (blk_below (g := gb324) (o := .cells #[.int .i64 t321, .int .i64 t322] 42 (0, 0)) (by (with_reducible repeat (first | refine blk_drewN ?_ _ | refine blk_drew ?_ | refine blk_alloc ?_ _)); exact BK324.out) hb)
        have n2_ := Aside0.mk (below_step (by repeat (first | (with_reducible first | exact HB.out | apply below_alloc | apply pw_below_drewN | apply below_drew1 | refine below_set ?_ GE320.out | refine below_set ?_ GE324.out) | exact HB.out)) hb)
        clear BK320
        clear BK324
        clear HB
        have BK320 := n0_
        have BK324 := n1_
        have HB := n2_
        clear n0_ n1_ n2_
        (try clear hb)
        (try clear hb2)
        (try clear hk)
        (try clear hi)
        refine hK.out _ _ ⟨(blk_cell BK324.out 0).trans rfl, (blk_cell BK324.out 1).trans rfl⟩ (fun hHeld => ?_)
        clear hK K
        refine norm_ (a' := ?_) ?_ ?_
        rotate_left
        · show Act.put _ (some 31) _ = _
          simp only [Act.put, List.setIfInBounds_toArray, List.set_cons_zero, List.set_cons_succ, i64_w, i32_w]
          rfl
        refine one_ (i := 7) (N := some 33) #[true, true, true, true, true, true, true, true, false, false, false, false, false] rfl rfl (one_of HT_.out (by kernel_rfl)) (by decide) (fun K hK => ?_)
        refine goes_ Try.func35 (by kernel_rfl) rfl #[.agg #[.int .i64 t321, .int .i64 t322]] (by rfl) rfl rfl (by (try simp only [List.map_toArray, List.map_cons, List.map_nil]); first | done | rfl | (simp only [List.length_drop, List.length_take]; rfl)) ?_
        with_reducible refine (encoding_ZzSecondtimeOf.calls t321 t322 t330 _ A26.out).mono ?_
        rintro e w31 ⟨rfl, hb⟩
        refine ⟨_, rfl, ?_⟩
        have n0_ := Aside0.mk (blk_below (g := gb320) (o := .cells #[.int .i64 a0_0, .int .i64 a0_1, .int .i64 a0_2, .int .i64 a0_3, .int .i64 a0_4, .int .i64 a0_5, .int .i64 a0_6] 23 (0, 0)) (by (with_reducible repeat (first | refine blk_drewN ?_ _ | refine blk_drew ?_ | refine blk_alloc ?_ _)); exact BK320.out) hb)
        have n1_ := Aside0.mk (blk_below (g := gb324) (o := .cells #[.int .i64 t321, .int .i64 t322] 42 (0, 0)) (by (with_reducible repeat (first | refine blk_drewN ?_ _ | refine blk_drew ?_ | refine blk_alloc ?_ _)); exact BK324.out) hb)
        have n2_ := Aside0.mk (below_step (by repeat (first | (with_reducible first | exact HB.out | apply below_alloc | apply pw_below_drewN | apply below_drew1 | refine below_set ?_ GE320.out | refine below_set ?_ GE324.out) | exact HB.out)) hb)
        clear BK320
        clear BK324
        clear HB
        have BK320 := n0_
        have BK324 := n1_
        have HB := n2_
        clear n0_ n1_ n2_
        (try clear hb)
        (try clear hb2)
        (try clear hk)
        (try clear hi)
        refine hK.out _ _ ⟨(blk_cell BK324.out 0).trans rfl, (blk_cell BK324.out 1).trans rfl⟩ (fun hHeld => ?_)
        clear hK K
        refine norm_ (a' := ?_) ?_ ?_
        rotate_left
        · show Act.put _ (some 33) _ = _
          simp only [Act.put, List.setIfInBounds_toArray, List.set_cons_zero, List.set_cons_succ, i64_w, i32_w]
          rfl
        refine pure_ (i := 8) (N := some 2) (v := ?_) (a' := ?_) #[true, true, true, true, true, true, true, true, true, false, false, false, false] rfl rfl (any_of HT_.out (by kernel_rfl)) (fun _ _ _ h => h) (Or.inl ⟨by rfl, ?_⟩) ?_ ?_
        rotate_left
        · intro w'
          go_simp
          with_reducible rfl
        rotate_left
        · simp only [Act.put, List.setIfInBounds_toArray, List.set_cons_zero, List.set_cons_succ, i64_w, i32_w]
          rfl
        refine pure_ (i := 9) (N := some 3) (v := ?_) (a' := ?_) #[true, true, true, true, true, true, true, true, true, true, false, false, false] rfl rfl (any_of HT_.out (by kernel_rfl)) (fun _ _ _ h => h) (Or.inl ⟨by rfl, ?_⟩) ?_ ?_
        rotate_left
        · intro w'
          go_simp
          with_reducible rfl
        rotate_left
        · simp only [Act.put, List.setIfInBounds_toArray, List.set_cons_zero, List.set_cons_succ, i64_w, i32_w]
          rfl
        refine pure_ (i := 10) (N := some 4) (v := ?_) (a' := ?_) #[true, true, true, true, true, true, true, true, true, true, true, false, false] rfl rfl (any_of HT_.out (by kernel_rfl)) (fun _ _ _ h => h) (Or.inl ⟨by rfl, ?_⟩) ?_ ?_
        rotate_left
        · intro w'
          go_simp
          with_reducible rfl
        rotate_left
        · simp only [Act.put, List.setIfInBounds_toArray, List.set_cons_zero, List.set_cons_succ, i64_w, i32_w]
          rfl
        refine pure_ (i := 11) (N := some 5) (v := ?_) (a' := ?_) #[true, true, true, true, true, true, true, true, true, true, true, true, false] rfl rfl (any_of HT_.out (by kernel_rfl)) (fun _ _ _ h => h) (Or.inl ⟨by rfl, ?_⟩) ?_ ?_
        rotate_left
        · intro w'
          go_simp
          with_reducible rfl
        rotate_left
        · simp only [Act.put, List.setIfInBounds_toArray, List.set_cons_zero, List.set_cons_succ, i64_w, i32_w]
          rfl
        refine pure_ (i := 12) (N := some 6) (v := ?_) (a' := ?_) #[true, true, true, true, true, true, true, true, true, true, true, true, true] rfl rfl (any_of HT_.out (by kernel_rfl)) (fun _ _ _ h => h) (Or.inl ⟨by rfl, ?_⟩) ?_ ?_
        rotate_left
        · intro w'
          go_simp
          with_reducible rfl
        rotate_left
        · simp only [Act.put, List.setIfInBounds_toArray, List.set_cons_zero, List.set_cons_succ, i64_w, i32_w]
          rfl
        refine done_ (done_of HT_.out (by kernel_rfl)) ?_
        try go_wp2
        refine bodyPost_ret (results_list (rs := [.tmp 2, .tmp 3, .tmp 4, .tmp 5, .tmp 6]) rfl (by simp) (.tmp (.tmp (.tmp (.tmp (.tmp .nil)))))) rfl ?_
        exact ⟨by first | rfl | (simp [errW_none, errW_some] <;> rfl) | (simp [*, errW_none, errW_some] <;> rfl), by repeat (first | (with_reducible first | exact HB.out | apply below_alloc | apply pw_below_drewN | apply below_drew1 | refine below_set ?_ GE320.out | refine below_set ?_ GE324.out) | exact HB.out)⟩

end Go.Proofs.Ytbblgpgjgkmcbaa.PJal
