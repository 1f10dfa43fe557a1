/- Written by a program (print.py, called by prints.sh) for this claim: Go functions as plain Lean functions, and that the code comes to their answers. -/
import Derived.Test.YtbblgpgjgkmcbaaPJalx0
import Derived.Test.YtbblgpgjgkmcbaaPJalx1
import Derived.Test.YtbblgpgjgkmcbaaPJalx2
import Derived.Test.YtbblgpgjgkmcbaaPJalx3
import Derived.Test.YtbblgpgjgkmcbaaPJalx4
namespace Go.Proofs.Ytbblgpgjgkmcbaa.PJal
open Go.RowKit Go.Proofs.YtbblgpgjgkmcbaaW.PrintWords Go.Proofs.YtbblgpgjgkmcbaaW.PrintLast Go.Proofs.YtbblgpgjgkmcbaaW.PrintMore
attribute [local go_sem] max2_int min2_int max_two min_two max_three min_three max_four min_four   -- for this text's walks alone
set_option linter.unusedVariables false
set_option linter.unusedSimpArgs false

attribute [local go_sem high] eqA23
/-! ### laws_FnMadeTime: function 3 -/
def laws_FnMadeTime.f (k : Nat) (a0_0 : Int) (a0_1 : Int) (a0_2 : Int) (a0_3 : Int) (a0_4 : Int) (a0_5 : Int) (a0_6 : Int) : Option (Bool) := (laws_juTime.f a0_0 a0_1 a0_2 a0_3 a0_4 a0_5 a0_6).bind fun bt172 => ((impl_MadeTime.f bt172.1 bt172.2.1 bt172.2.2.1 bt172.2.2.2.1 bt172.2.2.2.2.1 bt172.2.2.2.2.2.1 bt172.2.2.2.2.2.2).bind fun bt179 => (if bt179.2.2.2.2.2.2.2 = 0 then ((spec_JuMade.f k bt172.1 bt172.2.1 bt172.2.2.1 bt172.2.2.2.1 bt172.2.2.2.2.1 bt172.2.2.2.2.2.1 bt172.2.2.2.2.2.2).bind fun bt188 => (some (bt179.1 == bt188.1 && (bt179.2.1 == bt188.2.1 && (bt179.2.2.1 == bt188.2.2.1 && (bt179.2.2.2.1 == bt188.2.2.2.1 && (bt179.2.2.2.2.1 == bt188.2.2.2.2.1 && (bt179.2.2.2.2.2.1 == bt188.2.2.2.2.2.1 && (bt179.2.2.2.2.2.2.1 == bt188.2.2.2.2.2.2))))))))) else (some false)))
theorem laws_FnMadeTime.mono : ∀ a0 a1 a2 a3 a4 a5 a6 k, LeO (laws_FnMadeTime.f k a0 a1 a2 a3 a4 a5 a6) (laws_FnMadeTime.f (k + 1) a0 a1 a2 a3 a4 a5 a6) := by
  intro a0 a1 a2 a3 a4 a5 a6 k
  unfold laws_FnMadeTime.f
  repeat' first
      | (with_reducible exact spec_JuMade.mono _ _ _ _ _ _ _ _)
      | (with_reducible exact LeO.refl _)
      | (with_reducible exact LeO.none _)
      | (with_reducible refine LeO.ite ?_ ?_)
      | (with_reducible refine LeO.bind ?_ (fun _ => ?_))
      | exact spec_JuMade.mono _ _ _ _ _ _ _ _
      | exact LeO.none _
      | refine LeO.ite ?_ ?_
      | refine LeO.bind ?_ (fun _ => ?_)
def laws_FnMadeTime.T3 : Bool × List (List Nat × List Nat) := (true, [([], []), ([0], [0]), ([1], [1]), ([2], [2]), ([2], [2]), ([4, 2, 2], [2, 4]), ([3, 5, 2], [2, 3, 5]), ([2, 6], [2, 6]), ([7, 5, 0, 1, 2, 3, 4, 5, 6, 7], [7])])
def laws_FnMadeTime.B3 : List Nat := [0, 1, 3, 7, 7, 23, 63, 127, 255]
theorem laws_FnMadeTime.tab3 : rtab .any (opsOf Try.f3 3) = laws_FnMadeTime.T3 := by kernel_rfl
theorem laws_FnMadeTime.bits3 : waitsOk laws_FnMadeTime.T3.2 laws_FnMadeTime.B3 = true := by kernel_rfl
set_option maxHeartbeats 8000000 in
set_option maxRecDepth 100000 in
theorem laws_FnMadeTime.calls (k : Nat) (a0_0 : Int) (a0_1 : Int) (a0_2 : Int) (a0_3 : Int) (a0_4 : Int) (a0_5 : Int) (a0_6 : Int) (r : Bool) (w : World) (h : laws_FnMadeTime.f k a0_0 a0_1 a0_2 a0_3 a0_4 a0_5 a0_6 = some r) :
    Calls Try.prog 3 #[.agg #[.int .i64 a0_0, .int .i64 a0_1, .int .i64 a0_2, .int .i64 a0_3, .int .i64 a0_4, .int .i64 a0_5, .int .i64 a0_6]] w fun e w' => e = .returned (.bool r) ∧ Below w.heap.size w w' := by
  have hu23 := Try.underlying23
  have HB := Aside0.mk (Below.refl w.heap.size w)
  have H : ((laws_juTime.f a0_0 a0_1 a0_2 a0_3 a0_4 a0_5 a0_6).bind fun bt172 => ((impl_MadeTime.f bt172.1 bt172.2.1 bt172.2.2.1 bt172.2.2.2.1 bt172.2.2.2.2.1 bt172.2.2.2.2.2.1 bt172.2.2.2.2.2.2).bind fun bt179 => (if bt179.2.2.2.2.2.2.2 = 0 then ((spec_JuMade.f k bt172.1 bt172.2.1 bt172.2.2.1 bt172.2.2.2.1 bt172.2.2.2.2.1 bt172.2.2.2.2.2.1 bt172.2.2.2.2.2.2).bind fun bt188 => (some (bt179.1 == bt188.1 && (bt179.2.1 == bt188.2.1 && (bt179.2.2.1 == bt188.2.2.1 && (bt179.2.2.2.1 == bt188.2.2.2.1 && (bt179.2.2.2.2.1 == bt188.2.2.2.2.1 && (bt179.2.2.2.2.2.1 == bt188.2.2.2.2.2.1 && (bt179.2.2.2.2.2.2.1 == bt188.2.2.2.2.2.2))))))))) else (some false)))) = some r := h
  clear h
  replace H := Option.bind_eq_some_iff.mp H
  obtain ⟨⟨t172, t173, t174, t175, t176, t177, t178⟩, A20, H⟩ := H
  replace H : ((impl_MadeTime.f t172 t173 t174 t175 t176 t177 t178).bind fun bt179 => (if bt179.2.2.2.2.2.2.2 = 0 then ((spec_JuMade.f k t172 t173 t174 t175 t176 t177 t178).bind fun bt188 => (some (bt179.1 == bt188.1 && (bt179.2.1 == bt188.2.1 && (bt179.2.2.1 == bt188.2.2.1 && (bt179.2.2.2.1 == bt188.2.2.2.1 && (bt179.2.2.2.2.1 == bt188.2.2.2.2.1 && (bt179.2.2.2.2.2.1 == bt188.2.2.2.2.2.1 && (bt179.2.2.2.2.2.2.1 == bt188.2.2.2.2.2.2))))))))) else (some false))) = some r := H
  have A2 := Aside0.mk A20
  clear A20
  replace H := Option.bind_eq_some_iff.mp H
  obtain ⟨⟨t179, t180, t181, t182, t183, t184, t185, t186⟩, A30, H⟩ := H
  replace H : (if t186 = 0 then ((spec_JuMade.f k t172 t173 t174 t175 t176 t177 t178).bind fun bt188 => (some (t179 == bt188.1 && (t180 == bt188.2.1 && (t181 == bt188.2.2.1 && (t182 == bt188.2.2.2.1 && (t183 == bt188.2.2.2.2.1 && (t184 == bt188.2.2.2.2.2.1 && (t185 == bt188.2.2.2.2.2.2))))))))) else (some false)) = some r := H
  have A3 := Aside0.mk A30
  clear A30
  by_cases c4 : t186 = 0
  · rw [if_pos c4] at H
    have c4b0 : (t186 == 0) = true := beq_iff_eq.mpr c4
    have c4b1 : (t186 != 0) = false := bne_eq_false_iff_eq.mpr c4
    clear c4
    replace H := Option.bind_eq_some_iff.mp H
    obtain ⟨⟨t188, t189, t190, t191, t192, t193, t194⟩, A50, H⟩ := H
    replace H : (some (t179 == t188 && (t180 == t189 && (t181 == t190 && (t182 == t191 && (t183 == t192 && (t184 == t193 && (t185 == t194)))))))) = some r := H
    have A5 := Aside0.mk A50
    clear A50
    obtain rfl := Option.some.inj H
    go_enter Try.func3, Try.ntmps3
    try go_wp2_with (first | ((with_reducible refine gate_dst (N := 1) rfl ?_); refine box_event ?hg (N := 1) ?hd (cs := #[.int .i64 a0_0, .int .i64 a0_1, .int .i64 a0_2, .int .i64 a0_3, .int .i64 a0_4, .int .i64 a0_5, .int .i64 a0_6]) (t := 23) ?hr ?_; (case hd => rfl); (case hg => rfl); (case hr => first | (go_simp; done) | (go_simp; rfl)); intro gb171 hg w6 hbox hb; have n0_ := Aside0.mk (below_step (by repeat (first | (with_reducible first | exact HB.out | apply below_alloc | apply pw_below_drewN | apply below_drew1) | exact HB.out)) hb); have n1_ := Aside0.mk (hbox); have n2_ := Aside0.mk ((by rw [hg]; exact (below_size (by repeat (first | (with_reducible first | exact HB.out | apply below_alloc | apply pw_below_drewN | apply below_drew1) | exact HB.out))) : w.heap.size ≤ gb171)); have n3_ := Aside0.mk ((by rw [hg]; exact (below_size (by repeat (first | (with_reducible first | exact HB.out | apply below_alloc | apply pw_below_drewN | apply below_drew1) | exact HB.out))) : w.heap.size ≤ gb171)); clear HB; have HB := n0_; have BK171 := n1_; have GW171 := n2_; have GE171 := n3_; clear n0_ n1_ n2_ n3_; clear hb hbox hg; have hcz7_0 : w6.cell? ⟨gb171, 0, none⟩ = some (.int .i64 a0_0) := (blk_cell BK171.out 0).trans rfl; have hcz7_1 : w6.cell? ⟨gb171, 1, none⟩ = some (.int .i64 a0_1) := (blk_cell BK171.out 1).trans rfl; have hcz7_2 : w6.cell? ⟨gb171, 2, none⟩ = some (.int .i64 a0_2) := (blk_cell BK171.out 2).trans rfl; have hcz7_3 : w6.cell? ⟨gb171, 3, none⟩ = some (.int .i64 a0_3) := (blk_cell BK171.out 3).trans rfl; have hcz7_4 : w6.cell? ⟨gb171, 4, none⟩ = some (.int .i64 a0_4) := (blk_cell BK171.out 4).trans rfl; have hcz7_5 : w6.cell? ⟨gb171, 5, none⟩ = some (.int .i64 a0_5) := (blk_cell BK171.out 5).trans rfl; have hcz7_6 : w6.cell? ⟨gb171, 6, none⟩ = some (.int .i64 a0_6) := (blk_cell BK171.out 6).trans rfl; have hfz7_0 := blk_frozen BK171.out 0; have hfz7_1 := blk_frozen BK171.out 1; have hfz7_2 := blk_frozen BK171.out 2; have hfz7_3 := blk_frozen BK171.out 3; have hfz7_4 := blk_frozen BK171.out 4; have hfz7_5 := blk_frozen BK171.out 5; have hfz7_6 := blk_frozen BK171.out 6) | ((with_reducible refine gate_callee (f := 9) rfl ?_); refine goesL_ (some 6) rfl rfl Try.func9 (by kernel_rfl) rfl #[.agg #[.int .i64 a0_0, .int .i64 a0_1, .int .i64 a0_2, .int .i64 a0_3, .int .i64 a0_4, .int .i64 a0_5, .int .i64 a0_6]] rfl (by (try simp only [List.map_toArray, List.map_cons, List.map_nil]); first | done | rfl | (simp only [List.length_drop, List.length_take]; rfl)) ?_; (with_reducible refine (laws_juTime.calls a0_0 a0_1 a0_2 a0_3 a0_4 a0_5 a0_6 t172 t173 t174 t175 t176 t177 t178 _ A2.out).mono ?_); rintro e w8 ⟨rfl, hb⟩; refine ⟨_, rfl, ?_⟩; have n0_ := Aside0.mk (blk_below (g := gb171) (o := .cells #[.int .i64 a0_0, .int .i64 a0_1, .int .i64 a0_2, .int .i64 a0_3, .int .i64 a0_4, .int .i64 a0_5, .int .i64 a0_6] 23 (0, 0)) (by (with_reducible repeat (first | refine blk_drewN ?_ _ | refine blk_drew ?_ | refine blk_alloc ?_ _)); exact BK171.out) hb); have n1_ := Aside0.mk (below_step (by repeat (first | (with_reducible first | exact HB.out | apply below_alloc | apply pw_below_drewN | apply below_drew1 | refine below_set ?_ GE171.out) | exact HB.out)) hb); clear BK171; clear HB; have BK171 := n0_; have HB := n1_; clear n0_ n1_; (try clear hb); (try clear hb2); (try clear hk); (try clear hi); have hcz9_0 : w8.cell? ⟨gb171, 0, none⟩ = some (.int .i64 a0_0) := (blk_cell BK171.out 0).trans rfl; have hcz9_1 : w8.cell? ⟨gb171, 1, none⟩ = some (.int .i64 a0_1) := (blk_cell BK171.out 1).trans rfl; have hcz9_2 : w8.cell? ⟨gb171, 2, none⟩ = some (.int .i64 a0_2) := (blk_cell BK171.out 2).trans rfl; have hcz9_3 : w8.cell? ⟨gb171, 3, none⟩ = some (.int .i64 a0_3) := (blk_cell BK171.out 3).trans rfl; have hcz9_4 : w8.cell? ⟨gb171, 4, none⟩ = some (.int .i64 a0_4) := (blk_cell BK171.out 4).trans rfl; have hcz9_5 : w8.cell? ⟨gb171, 5, none⟩ = some (.int .i64 a0_5) := (blk_cell BK171.out 5).trans rfl; have hcz9_6 : w8.cell? ⟨gb171, 6, none⟩ = some (.int .i64 a0_6) := (blk_cell BK171.out 6).trans rfl; have hfz9_0 := blk_frozen BK171.out 0; have hfz9_1 := blk_frozen BK171.out 1; have hfz9_2 := blk_frozen BK171.out 2; have hfz9_3 := blk_frozen BK171.out 3; have hfz9_4 := blk_frozen BK171.out 4; have hfz9_5 := blk_frozen BK171.out 5; have hfz9_6 := blk_frozen BK171.out 6) | ((with_reducible refine gate_callee (f := 10) rfl ?_); refine goesL_ (some 9) rfl rfl Try.func10 (by kernel_rfl) rfl #[.agg #[.int .i64 t172, .int .i64 t173, .int .i64 t174, .int .i64 t175, .int .i64 t176, .int .i64 t177, .int .i64 t178]] rfl (by (try simp only [List.map_toArray, List.map_cons, List.map_nil]); first | done | rfl | (simp only [List.length_drop, List.length_take]; rfl)) ?_; (with_reducible refine (impl_MadeTime.calls t172 t173 t174 t175 t176 t177 t178 t179 t180 t181 t182 t183 t184 t185 t186 _ A3.out).mono ?_); rintro e w10 ⟨rfl, hb⟩; refine ⟨_, rfl, ?_⟩; have n0_ := Aside0.mk (blk_below (g := gb171) (o := .cells #[.int .i64 t172, .int .i64 t173, .int .i64 t174, .int .i64 t175, .int .i64 t176, .int .i64 t177, .int .i64 t178] 23 (0, 0)) (by (with_reducible repeat (first | refine blk_drewN ?_ _ | refine blk_drew ?_ | refine blk_alloc ?_ _)); refine blk_put (cs := #[.int .i64 t172, .int .i64 t173, .int .i64 t174, .int .i64 t175, .int .i64 t176, .int .i64 t177, .int .i64 a0_6]) ?_ 6 _ rfl; (with_reducible repeat (first | refine blk_drewN ?_ _ | refine blk_drew ?_ | refine blk_alloc ?_ _)); refine blk_put (cs := #[.int .i64 t172, .int .i64 t173, .int .i64 t174, .int .i64 t175, .int .i64 t176, .int .i64 a0_5, .int .i64 a0_6]) ?_ 5 _ rfl; (with_reducible repeat (first | refine blk_drewN ?_ _ | refine blk_drew ?_ | refine blk_alloc ?_ _)); refine blk_put (cs := #[.int .i64 t172, .int .i64 t173, .int .i64 t174, .int .i64 t175, .int .i64 a0_4, .int .i64 a0_5, .int .i64 a0_6]) ?_ 4 _ rfl; (with_reducible repeat (first | refine blk_drewN ?_ _ | refine blk_drew ?_ | refine blk_alloc ?_ _)); refine blk_put (cs := #[.int .i64 t172, .int .i64 t173, .int .i64 t174, .int .i64 a0_3, .int .i64 a0_4, .int .i64 a0_5, .int .i64 a0_6]) ?_ 3 _ rfl; (with_reducible repeat (first | refine blk_drewN ?_ _ | refine blk_drew ?_ | refine blk_alloc ?_ _)); refine blk_put (cs := #[.int .i64 t172, .int .i64 t173, .int .i64 a0_2, .int .i64 a0_3, .int .i64 a0_4, .int .i64 a0_5, .int .i64 a0_6]) ?_ 2 _ rfl; (with_reducible repeat (first | refine blk_drewN ?_ _ | refine blk_drew ?_ | refine blk_alloc ?_ _)); refine blk_put (cs := #[.int .i64 t172, .int .i64 a0_1, .int .i64 a0_2, .int .i64 a0_3, .int .i64 a0_4, .int .i64 a0_5, .int .i64 a0_6]) ?_ 1 _ rfl; (with_reducible repeat (first | refine blk_drewN ?_ _ | refine blk_drew ?_ | refine blk_alloc ?_ _)); refine blk_put (cs := #[.int .i64 a0_0, .int .i64 a0_1, .int .i64 a0_2, .int .i64 a0_3, .int .i64 a0_4, .int .i64 a0_5, .int .i64 a0_6]) ?_ 0 _ rfl; (with_reducible repeat (first | refine blk_drewN ?_ _ | refine blk_drew ?_ | refine blk_alloc ?_ _)); exact BK171.out) hb); have n1_ := Aside0.mk (below_step (by repeat (first | (with_reducible first | exact HB.out | apply below_alloc | apply pw_below_drewN | apply below_drew1 | refine below_set ?_ GE171.out) | exact HB.out)) hb); clear BK171; clear HB; have BK171 := n0_; have HB := n1_; clear n0_ n1_; (try clear hb); (try clear hb2); (try clear hk); (try clear hi)) | ((with_reducible refine gate_dst (N := 3) rfl ?_); refine box_event ?hg (N := 3) ?hd (cs := #[.int .i64 0, .int .i64 0, .int .i64 0, .int .i64 0, .int .i64 0, .int .i64 0, .int .i64 0]) (t := 23) ?hr ?_; (case hd => rfl); (case hg => rfl); (case hr => first | (go_simp; done) | (go_simp; rfl)); intro gb187 hg w11 hbox hb; have n0_ := Aside0.mk (blk_below (g := gb171) (o := .cells #[.int .i64 t172, .int .i64 t173, .int .i64 t174, .int .i64 t175, .int .i64 t176, .int .i64 t177, .int .i64 t178] 23 (0, 0)) (by (with_reducible repeat (first | refine blk_drewN ?_ _ | refine blk_drew ?_ | refine blk_alloc ?_ _)); exact BK171.out) hb); have n1_ := Aside0.mk (below_step (by repeat (first | (with_reducible first | exact HB.out | apply below_alloc | apply pw_below_drewN | apply below_drew1 | refine below_set ?_ GE171.out) | exact HB.out)) hb); have n2_ := Aside0.mk (hbox); have n3_ := Aside0.mk ((by rw [hg]; exact (below_size (by repeat (first | (with_reducible first | exact HB.out | apply below_alloc | apply pw_below_drewN | apply below_drew1 | refine below_set ?_ GE171.out) | exact HB.out))) : w.heap.size ≤ gb187)); have n4_ := Aside0.mk ((by rw [hg]; exact (below_size (by repeat (first | (with_reducible first | exact HB.out | apply below_alloc | apply pw_below_drewN | apply below_drew1 | refine below_set ?_ GE171.out) | exact HB.out))) : w.heap.size ≤ gb187)); have n5_ := Aside0.mk ((by rw [hg]; exact Nat.ne_of_lt (blk_lt (g := gb171) (o := .cells #[.int .i64 t172, .int .i64 t173, .int .i64 t174, .int .i64 t175, .int .i64 t176, .int .i64 t177, .int .i64 t178] 23 (0, 0)) (by (with_reducible repeat (first | refine blk_drewN ?_ _ | refine blk_drew ?_ | refine blk_alloc ?_ _)); exact BK171.out)) : gb171 ≠ gb187)); have n6_ := Aside0.mk ((by rw [hg]; exact Nat.ne_of_gt (blk_lt (g := gb171) (o := .cells #[.int .i64 t172, .int .i64 t173, .int .i64 t174, .int .i64 t175, .int .i64 t176, .int .i64 t177, .int .i64 t178] 23 (0, 0)) (by (with_reducible repeat (first | refine blk_drewN ?_ _ | refine blk_drew ?_ | refine blk_alloc ?_ _)); exact BK171.out)) : gb187 ≠ gb171)); clear BK171; clear HB; have BK171 := n0_; have HB := n1_; have BK187 := n2_; have GW187 := n3_; have GE187 := n4_; have NB171_187 := n5_; have NB187_171 := n6_; clear n0_ n1_ n2_ n3_ n4_ n5_ n6_; clear hb hbox hg; have hnb12 := NB187_171.out; have hnc12 := NB171_187.out; have hcz13_0 : w11.cell? ⟨gb187, 0, none⟩ = some (.int .i64 0) := (blk_cell BK187.out 0).trans rfl; have hcz13_1 : w11.cell? ⟨gb187, 1, none⟩ = some (.int .i64 0) := (blk_cell BK187.out 1).trans rfl; have hcz13_2 : w11.cell? ⟨gb187, 2, none⟩ = some (.int .i64 0) := (blk_cell BK187.out 2).trans rfl; have hcz13_3 : w11.cell? ⟨gb187, 3, none⟩ = some (.int .i64 0) := (blk_cell BK187.out 3).trans rfl; have hcz13_4 : w11.cell? ⟨gb187, 4, none⟩ = some (.int .i64 0) := (blk_cell BK187.out 4).trans rfl; have hcz13_5 : w11.cell? ⟨gb187, 5, none⟩ = some (.int .i64 0) := (blk_cell BK187.out 5).trans rfl; have hcz13_6 : w11.cell? ⟨gb187, 6, none⟩ = some (.int .i64 0) := (blk_cell BK187.out 6).trans rfl; have hfz13_0 := blk_frozen BK187.out 0; have hfz13_1 := blk_frozen BK187.out 1; have hfz13_2 := blk_frozen BK187.out 2; have hfz13_3 := blk_frozen BK187.out 3; have hfz13_4 := blk_frozen BK187.out 4; have hfz13_5 := blk_frozen BK187.out 5; have hfz13_6 := blk_frozen BK187.out 6))
    have n0_ : Aside0 ((((((((w11.setCell ⟨gb187, 0, none⟩ (.int .i64 t179)).setCell ⟨gb187, 1, none⟩ (.int .i64 t180)).setCell ⟨gb187, 2, none⟩ (.int .i64 t181)).setCell ⟨gb187, 3, none⟩ (.int .i64 t182)).setCell ⟨gb187, 4, none⟩ (.int .i64 t183)).setCell ⟨gb187, 5, none⟩ (.int .i64 t184)).setCell ⟨gb187, 6, none⟩ (.int .i64 t185)).heap[gb171]? = some (.cells #[.int .i64 t172, .int .i64 t173, .int .i64 t174, .int .i64 t175, .int .i64 t176, .int .i64 t177, .int .i64 t178] 23 (0, 0))) := ⟨by (with_reducible repeat (first | refine blk_drewN ?_ _ | refine blk_drew ?_ | refine blk_alloc ?_ _)); refine blk_far ?_ NB171_187.out _; (with_reducible repeat (first | refine blk_drewN ?_ _ | refine blk_drew ?_ | refine blk_alloc ?_ _)); refine blk_far ?_ NB171_187.out _; (with_reducible repeat (first | refine blk_drewN ?_ _ | refine blk_drew ?_ | refine blk_alloc ?_ _)); refine blk_far ?_ NB171_187.out _; (with_reducible repeat (first | refine blk_drewN ?_ _ | refine blk_drew ?_ | refine blk_alloc ?_ _)); refine blk_far ?_ NB171_187.out _; (with_reducible repeat (first | refine blk_drewN ?_ _ | refine blk_drew ?_ | refine blk_alloc ?_ _)); refine blk_far ?_ NB171_187.out _; (with_reducible repeat (first | refine blk_drewN ?_ _ | refine blk_drew ?_ | refine blk_alloc ?_ _)); refine blk_far ?_ NB171_187.out _; (with_reducible repeat (first | refine blk_drewN ?_ _ | refine blk_drew ?_ | refine blk_alloc ?_ _)); refine blk_far ?_ NB171_187.out _; (with_reducible repeat (first | refine blk_drewN ?_ _ | refine blk_drew ?_ | refine blk_alloc ?_ _)); exact BK171.out⟩
    have n1_ : Aside0 ((((((((w11.setCell ⟨gb187, 0, none⟩ (.int .i64 t179)).setCell ⟨gb187, 1, none⟩ (.int .i64 t180)).setCell ⟨gb187, 2, none⟩ (.int .i64 t181)).setCell ⟨gb187, 3, none⟩ (.int .i64 t182)).setCell ⟨gb187, 4, none⟩ (.int .i64 t183)).setCell ⟨gb187, 5, none⟩ (.int .i64 t184)).setCell ⟨gb187, 6, none⟩ (.int .i64 t185)).heap[gb187]? = some (.cells #[.int .i64 t179, .int .i64 t180, .int .i64 t181, .int .i64 t182, .int .i64 t183, .int .i64 t184, .int .i64 t185] 23 (0, 0))) := ⟨by (with_reducible repeat (first | refine blk_drewN ?_ _ | refine blk_drew ?_ | refine blk_alloc ?_ _)); refine blk_put (cs := #[.int .i64 t179, .int .i64 t180, .int .i64 t181, .int .i64 t182, .int .i64 t183, .int .i64 t184, .int .i64 0]) ?_ 6 _ rfl; (with_reducible repeat (first | refine blk_drewN ?_ _ | refine blk_drew ?_ | refine blk_alloc ?_ _)); refine blk_put (cs := #[.int .i64 t179, .int .i64 t180, .int .i64 t181, .int .i64 t182, .int .i64 t183, .int .i64 0, .int .i64 0]) ?_ 5 _ rfl; (with_reducible repeat (first | refine blk_drewN ?_ _ | refine blk_drew ?_ | refine blk_alloc ?_ _)); refine blk_put (cs := #[.int .i64 t179, .int .i64 t180, .int .i64 t181, .int .i64 t182, .int .i64 0, .int .i64 0, .int .i64 0]) ?_ 4 _ rfl; (with_reducible repeat (first | refine blk_drewN ?_ _ | refine blk_drew ?_ | refine blk_alloc ?_ _)); refine blk_put (cs := #[.int .i64 t179, .int .i64 t180, .int .i64 t181, .int .i64 0, .int .i64 0, .int .i64 0, .int .i64 0]) ?_ 3 _ rfl; (with_reducible repeat (first | refine blk_drewN ?_ _ | refine blk_drew ?_ | refine blk_alloc ?_ _)); refine blk_put (cs := #[.int .i64 t179, .int .i64 t180, .int .i64 0, .int .i64 0, .int .i64 0, .int .i64 0, .int .i64 0]) ?_ 2 _ rfl; (with_reducible repeat (first | refine blk_drewN ?_ _ | refine blk_drew ?_ | refine blk_alloc ?_ _)); refine blk_put (cs := #[.int .i64 t179, .int .i64 0, .int .i64 0, .int .i64 0, .int .i64 0, .int .i64 0, .int .i64 0]) ?_ 1 _ rfl; (with_reducible repeat (first | refine blk_drewN ?_ _ | refine blk_drew ?_ | refine blk_alloc ?_ _)); refine blk_put (cs := #[.int .i64 0, .int .i64 0, .int .i64 0, .int .i64 0, .int .i64 0, .int .i64 0, .int .i64 0]) ?_ 0 _ rfl; (with_reducible repeat (first | refine blk_drewN ?_ _ | refine blk_drew ?_ | refine blk_alloc ?_ _)); exact BK187.out⟩
    have n2_ : Aside0 (Below w.heap.size w (((((((w11.setCell ⟨gb187, 0, none⟩ (.int .i64 t179)).setCell ⟨gb187, 1, none⟩ (.int .i64 t180)).setCell ⟨gb187, 2, none⟩ (.int .i64 t181)).setCell ⟨gb187, 3, none⟩ (.int .i64 t182)).setCell ⟨gb187, 4, none⟩ (.int .i64 t183)).setCell ⟨gb187, 5, none⟩ (.int .i64 t184)).setCell ⟨gb187, 6, none⟩ (.int .i64 t185))) := ⟨by repeat (first | (with_reducible first | exact HB.out | apply below_alloc | apply pw_below_drewN | apply below_drew1 | refine below_set ?_ GE171.out | refine below_set ?_ GE187.out) | exact HB.out)⟩
    (try clear BK171)
    (try clear BK187)
    (try clear HB)
    generalize (((((((w11.setCell ⟨gb187, 0, none⟩ (.int .i64 t179)).setCell ⟨gb187, 1, none⟩ (.int .i64 t180)).setCell ⟨gb187, 2, none⟩ (.int .i64 t181)).setCell ⟨gb187, 3, none⟩ (.int .i64 t182)).setCell ⟨gb187, 4, none⟩ (.int .i64 t183)).setCell ⟨gb187, 5, none⟩ (.int .i64 t184)).setCell ⟨gb187, 6, none⟩ (.int .i64 t185)) = w14 at n0_ n1_ n2_ ⊢
    have BK171 := n0_
    have BK187 := n1_
    have HB := n2_
    clear n0_ n1_ n2_
    have n0_ := Aside0.mk (blk_drew BK171.out)
    have n1_ := Aside0.mk (blk_drew BK187.out)
    have n2_ := Aside0.mk (below_drew1 HB.out)
    clear BK171
    clear BK187
    clear HB
    have BK171 := n0_
    have BK187 := n1_
    have HB := n2_
    clear n0_ n1_ n2_
    refine start_ (n := 9) (S := fun w' => w'.cell? ⟨gb187, 0, none⟩ = some (.int .i64 t179) ∧ w'.cell? ⟨gb187, 1, none⟩ = some (.int .i64 t180) ∧ w'.cell? ⟨gb187, 2, none⟩ = some (.int .i64 t181) ∧ w'.cell? ⟨gb187, 3, none⟩ = some (.int .i64 t182) ∧ w'.cell? ⟨gb187, 4, none⟩ = some (.int .i64 t183) ∧ w'.cell? ⟨gb187, 5, none⟩ = some (.int .i64 t184) ∧ w'.cell? ⟨gb187, 6, none⟩ = some (.int .i64 t185) ∧ w'.cell? ⟨gb171, 0, none⟩ = some (.int .i64 t172) ∧ w'.cell? ⟨gb171, 1, none⟩ = some (.int .i64 t173) ∧ w'.cell? ⟨gb171, 2, none⟩ = some (.int .i64 t174) ∧ w'.cell? ⟨gb171, 3, none⟩ = some (.int .i64 t175) ∧ w'.cell? ⟨gb171, 4, none⟩ = some (.int .i64 t176) ∧ w'.cell? ⟨gb171, 5, none⟩ = some (.int .i64 t177) ∧ w'.cell? ⟨gb171, 6, none⟩ = some (.int .i64 t178)) (ds := []) #[false, false, false, false, false, false, false, false, false] (by kernel_rfl) rfl rfl ⟨(blk_cell BK187.out 0).trans rfl, (blk_cell BK187.out 1).trans rfl, (blk_cell BK187.out 2).trans rfl, (blk_cell BK187.out 3).trans rfl, (blk_cell BK187.out 4).trans rfl, (blk_cell BK187.out 5).trans rfl, (blk_cell BK187.out 6).trans rfl, (blk_cell BK171.out 0).trans rfl, (blk_cell BK171.out 1).trans rfl, (blk_cell BK171.out 2).trans rfl, (blk_cell BK171.out 3).trans rfl, (blk_cell BK171.out 4).trans rfl, (blk_cell BK171.out 5).trans rfl, (blk_cell BK171.out 6).trans rfl⟩ (fun hHeld => ?_); refine with_tabW laws_FnMadeTime.tab3 laws_FnMadeTime.bits3 (fun HT_ HW_ => ?_)
    generalize w14.drew = w15 at BK171 BK187 HB hHeld ⊢
    refine pure_ (i := 0) (N := some 12) (v := ?_) (a' := ?_) #[true, false, false, false, false, false, false, false, false] rfl rfl (any_of HT_.out (by kernel_rfl)) (fun _ _ _ h => h) (Or.inl ⟨by rfl, ?_⟩) ?_ ?_
    rotate_left
    · intro w'
      go_simp
      with_reducible rfl
    rotate_left
    · simp only [Act.put, List.setIfInBounds_toArray, List.set_cons_zero, List.set_cons_succ, i64_w, i32_w]
      rfl
    refine pure_ (i := 1) (N := some 13) (v := ?_) (a' := ?_) #[true, true, false, false, false, false, false, false, false] rfl rfl (any_of HT_.out (by kernel_rfl)) (fun _ _ _ h => h) (Or.inl ⟨by rfl, ?_⟩) ?_ ?_
    rotate_left
    · intro w'
      go_simp
      with_reducible rfl
    rotate_left
    · simp only [Act.put, List.setIfInBounds_toArray, List.set_cons_zero, List.set_cons_succ, i64_w, i32_w]
      rfl
    refine pure_ (i := 2) (N := some 14) (v := ?_) (a' := ?_) #[true, true, true, false, false, false, false, false, false] rfl rfl (any_of HT_.out (by kernel_rfl)) (fun _ _ _ h => h) (Or.inl ⟨by rfl, ?_⟩) ?_ ?_
    rotate_left
    · intro w'
      go_simp
      with_reducible rfl
    rotate_left
    · simp only [Act.put, List.setIfInBounds_toArray, List.set_cons_zero, List.set_cons_succ, i64_w, i32_w]
      rfl
    refine take_ (i := 3) (N := some 15) (v := ?_) (a' := ?_) #[true, true, true, true, false, false, false, false, false] rfl rfl (take_ofW HT_.out HW_.out (by kernel_rfl)) (fun _ _ _ h => h) (Or.inl ⟨by rfl, ?_⟩) hHeld ?_ ?_
    rotate_left
    · rintro w' ⟨s0, s1, s2, s3, s4, s5, s6, s7, s8, s9, s10, s11, s12, s13⟩
      go_simp
      with_reducible rfl
    rotate_left
    · simp only [Act.put, List.setIfInBounds_toArray, List.set_cons_zero, List.set_cons_succ, i64_w, i32_w]
      rfl
    refine take_ (i := 4) (N := some 16) (v := ?_) (a' := ?_) #[true, true, true, true, true, false, false, false, false] rfl rfl (take_ofW HT_.out HW_.out (by kernel_rfl)) (fun _ _ _ h => h) (Or.inl ⟨by rfl, ?_⟩) hHeld ?_ ?_
    rotate_left
    · rintro w' ⟨s0, s1, s2, s3, s4, s5, s6, s7, s8, s9, s10, s11, s12, s13⟩
      go_simp
      with_reducible rfl
    rotate_left
    · simp only [Act.put, List.setIfInBounds_toArray, List.set_cons_zero, List.set_cons_succ, i64_w, i32_w]
      rfl
    refine one_ (i := 5) (N := some 17) #[true, true, true, true, true, true, false, false, false] rfl rfl (one_of HT_.out (by kernel_rfl)) (by decide) (fun K hK => ?_)
    refine goes_ Try.func11 (by kernel_rfl) rfl #[.agg #[.int .i64 t172, .int .i64 t173, .int .i64 t174, .int .i64 t175, .int .i64 t176, .int .i64 t177, .int .i64 t178]] (by rfl) rfl rfl (by (try simp only [List.map_toArray, List.map_cons, List.map_nil]); first | done | rfl | (simp only [List.length_drop, List.length_take]; rfl)) ?_
    with_reducible refine (spec_JuMade.calls k t172 t173 t174 t175 t176 t177 t178 t188 t189 t190 t191 t192 t193 t194 _ A5.out).mono ?_
    rintro e w16 ⟨rfl, hb⟩
    refine ⟨_, rfl, ?_⟩
    have n0_ := Aside0.mk (blk_below (g := gb171) (o := .cells #[.int .i64 t172, .int .i64 t173, .int .i64 t174, .int .i64 t175, .int .i64 t176, .int .i64 t177, .int .i64 t178] 23 (0, 0)) (by (with_reducible repeat (first | refine blk_drewN ?_ _ | refine blk_drew ?_ | refine blk_alloc ?_ _)); exact BK171.out) hb)
    have n1_ := Aside0.mk (blk_below (g := gb187) (o := .cells #[.int .i64 t179, .int .i64 t180, .int .i64 t181, .int .i64 t182, .int .i64 t183, .int .i64 t184, .int .i64 t185] 23 (0, 0)) (by (with_reducible repeat (first | refine blk_drewN ?_ _ | refine blk_drew ?_ | refine blk_alloc ?_ _)); exact BK187.out) hb)
    have n2_ := Aside0.mk (below_step (by repeat (first | (with_reducible first | exact HB.out | apply below_alloc | apply pw_below_drewN | apply below_drew1 | refine below_set ?_ GE171.out | refine below_set ?_ GE187.out) | exact HB.out)) hb)
    clear BK171
    clear BK187
    clear HB
    have BK171 := n0_
    have BK187 := n1_
    have HB := n2_
    clear n0_ n1_ n2_
    (try clear hb)
    (try clear hb2)
    (try clear hk)
    (try clear hi)
    refine hK.out _ _ ⟨(blk_cell BK187.out 0).trans rfl, (blk_cell BK187.out 1).trans rfl, (blk_cell BK187.out 2).trans rfl, (blk_cell BK187.out 3).trans rfl, (blk_cell BK187.out 4).trans rfl, (blk_cell BK187.out 5).trans rfl, (blk_cell BK187.out 6).trans rfl, (blk_cell BK171.out 0).trans rfl, (blk_cell BK171.out 1).trans rfl, (blk_cell BK171.out 2).trans rfl, (blk_cell BK171.out 3).trans rfl, (blk_cell BK171.out 4).trans rfl, (blk_cell BK171.out 5).trans rfl, (blk_cell BK171.out 6).trans rfl⟩ (fun hHeld => ?_)
    clear hK K
    refine norm_ (a' := ?_) ?_ ?_
    rotate_left
    · show Act.put _ (some 17) _ = _
      simp only [Act.put, List.setIfInBounds_toArray, List.set_cons_zero, List.set_cons_succ, i64_w, i32_w]
      rfl
    refine pure_ (i := 6) (N := some 18) (v := ?_) (a' := ?_) #[true, true, true, true, true, true, true, false, false] rfl rfl (any_of HT_.out (by kernel_rfl)) (fun _ _ _ h => h) (Or.inl ⟨by rfl, ?_⟩) ?_ ?_
    rotate_left
    · intro w'
      go_simp
      with_reducible rfl
    rotate_left
    · simp only [Act.put, List.setIfInBounds_toArray, List.set_cons_zero, List.set_cons_succ, i64_w, i32_w]
      rfl
    refine pure_ (i := 7) (N := some 19) (v := ?_) (a' := ?_) #[true, true, true, true, true, true, true, true, false] rfl rfl (any_of HT_.out (by kernel_rfl)) (fun _ _ _ h => h) (Or.inl ⟨by rfl, ?_⟩) ?_ ?_
    rotate_left
    · intro w'
      go_simp
      with_reducible rfl
    rotate_left
    · simp only [Act.put, List.setIfInBounds_toArray, List.set_cons_zero, List.set_cons_succ, i64_w, i32_w]
      rfl
    refine pure_ (i := 8) (N := some 2) (v := ?_) (a' := ?_) #[true, true, true, true, true, true, true, true, true] rfl rfl (any_of HT_.out (by kernel_rfl)) (fun _ _ _ h => h) (Or.inl ⟨by rfl, ?_⟩) ?_ ?_
    rotate_left
    · intro w'
      go_simp
      with_reducible rfl
    rotate_left
    · simp only [Act.put, List.setIfInBounds_toArray, List.set_cons_zero, List.set_cons_succ, i64_w, i32_w]
      rfl
    refine done_ (done_of HT_.out (by kernel_rfl)) ?_
    try go_wp2
    go_ret
    exact ⟨by first | rfl | (simp [errW_none, errW_some] <;> rfl) | (simp [*, errW_none, errW_some] <;> rfl), by repeat (first | (with_reducible first | exact HB.out | apply below_alloc | apply pw_below_drewN | apply below_drew1 | refine below_set ?_ GE171.out | refine below_set ?_ GE187.out) | exact HB.out)⟩
  · rw [if_neg c4] at H
    have c4b0 : (t186 == 0) = false := beq_eq_false_iff_ne.mpr c4
    have c4b1 : (t186 != 0) = true := bne_iff_ne.mpr c4
    obtain rfl := Option.some.inj H
    go_enter Try.func3, Try.ntmps3
    try go_wp2_with (first | ((with_reducible refine gate_dst (N := 1) rfl ?_); refine box_event ?hg (N := 1) ?hd (cs := #[.int .i64 a0_0, .int .i64 a0_1, .int .i64 a0_2, .int .i64 a0_3, .int .i64 a0_4, .int .i64 a0_5, .int .i64 a0_6]) (t := 23) ?hr ?_; (case hd => rfl); (case hg => rfl); (case hr => first | (go_simp; done) | (go_simp; rfl)); intro gb171 hg w17 hbox hb; have n0_ := Aside0.mk (below_step (by repeat (first | (with_reducible first | exact HB.out | apply below_alloc | apply pw_below_drewN | apply below_drew1) | exact HB.out)) hb); have n1_ := Aside0.mk (hbox); have n2_ := Aside0.mk ((by rw [hg]; exact (below_size (by repeat (first | (with_reducible first | exact HB.out | apply below_alloc | apply pw_below_drewN | apply below_drew1) | exact HB.out))) : w.heap.size ≤ gb171)); have n3_ := Aside0.mk ((by rw [hg]; exact (below_size (by repeat (first | (with_reducible first | exact HB.out | apply below_alloc | apply pw_below_drewN | apply below_drew1) | exact HB.out))) : w.heap.size ≤ gb171)); clear HB; have HB := n0_; have BK171 := n1_; have GW171 := n2_; have GE171 := n3_; clear n0_ n1_ n2_ n3_; clear hb hbox hg; have hcz18_0 : w17.cell? ⟨gb171, 0, none⟩ = some (.int .i64 a0_0) := (blk_cell BK171.out 0).trans rfl; have hcz18_1 : w17.cell? ⟨gb171, 1, none⟩ = some (.int .i64 a0_1) := (blk_cell BK171.out 1).trans rfl; have hcz18_2 : w17.cell? ⟨gb171, 2, none⟩ = some (.int .i64 a0_2) := (blk_cell BK171.out 2).trans rfl; have hcz18_3 : w17.cell? ⟨gb171, 3, none⟩ = some (.int .i64 a0_3) := (blk_cell BK171.out 3).trans rfl; have hcz18_4 : w17.cell? ⟨gb171, 4, none⟩ = some (.int .i64 a0_4) := (blk_cell BK171.out 4).trans rfl; have hcz18_5 : w17.cell? ⟨gb171, 5, none⟩ = some (.int .i64 a0_5) := (blk_cell BK171.out 5).trans rfl; have hcz18_6 : w17.cell? ⟨gb171, 6, none⟩ = some (.int .i64 a0_6) := (blk_cell BK171.out 6).trans rfl; have hfz18_0 := blk_frozen BK171.out 0; have hfz18_1 := blk_frozen BK171.out 1; have hfz18_2 := blk_frozen BK171.out 2; have hfz18_3 := blk_frozen BK171.out 3; have hfz18_4 := blk_frozen BK171.out 4; have hfz18_5 := blk_frozen BK171.out 5; have hfz18_6 := blk_frozen BK171.out 6) | ((with_reducible refine gate_callee (f := 9) rfl ?_); refine goesL_ (some 6) rfl rfl Try.func9 (by kernel_rfl) rfl #[.agg #[.int .i64 a0_0, .int .i64 a0_1, .int .i64 a0_2, .int .i64 a0_3, .int .i64 a0_4, .int .i64 a0_5, .int .i64 a0_6]] rfl (by (try simp only [List.map_toArray, List.map_cons, List.map_nil]); first | done | rfl | (simp only [List.length_drop, List.length_take]; rfl)) ?_; (with_reducible refine (laws_juTime.calls a0_0 a0_1 a0_2 a0_3 a0_4 a0_5 a0_6 t172 t173 t174 t175 t176 t177 t178 _ A2.out).mono ?_); rintro e w19 ⟨rfl, hb⟩; refine ⟨_, rfl, ?_⟩; have n0_ := Aside0.mk (blk_below (g := gb171) (o := .cells #[.int .i64 a0_0, .int .i64 a0_1, .int .i64 a0_2, .int .i64 a0_3, .int .i64 a0_4, .int .i64 a0_5, .int .i64 a0_6] 23 (0, 0)) (by (with_reducible repeat (first | refine blk_drewN ?_ _ | refine blk_drew ?_ | refine blk_alloc ?_ _)); exact BK171.out) hb); have n1_ := Aside0.mk (below_step (by repeat (first | (with_reducible first | exact HB.out | apply below_alloc | apply pw_below_drewN | apply below_drew1 | refine below_set ?_ GE171.out) | exact HB.out)) hb); clear BK171; clear HB; have BK171 := n0_; have HB := n1_; clear n0_ n1_; (try clear hb); (try clear hb2); (try clear hk); (try clear hi); have hcz20_0 : w19.cell? ⟨gb171, 0, none⟩ = some (.int .i64 a0_0) := (blk_cell BK171.out 0).trans rfl; have hcz20_1 : w19.cell? ⟨gb171, 1, none⟩ = some (.int .i64 a0_1) := (blk_cell BK171.out 1).trans rfl; have hcz20_2 : w19.cell? ⟨gb171, 2, none⟩ = some (.int .i64 a0_2) := (blk_cell BK171.out 2).trans rfl; have hcz20_3 : w19.cell? ⟨gb171, 3, none⟩ = some (.int .i64 a0_3) := (blk_cell BK171.out 3).trans rfl; have hcz20_4 : w19.cell? ⟨gb171, 4, none⟩ = some (.int .i64 a0_4) := (blk_cell BK171.out 4).trans rfl; have hcz20_5 : w19.cell? ⟨gb171, 5, none⟩ = some (.int .i64 a0_5) := (blk_cell BK171.out 5).trans rfl; have hcz20_6 : w19.cell? ⟨gb171, 6, none⟩ = some (.int .i64 a0_6) := (blk_cell BK171.out 6).trans rfl; have hfz20_0 := blk_frozen BK171.out 0; have hfz20_1 := blk_frozen BK171.out 1; have hfz20_2 := blk_frozen BK171.out 2; have hfz20_3 := blk_frozen BK171.out 3; have hfz20_4 := blk_frozen BK171.out 4; have hfz20_5 := blk_frozen BK171.out 5; have hfz20_6 := blk_frozen BK171.out 6) | ((with_reducible refine gate_callee (f := 10) rfl ?_); refine goesL_ (some 9) rfl rfl Try.func10 (by kernel_rfl) rfl #[.agg #[.int .i64 t172, .int .i64 t173, .int .i64 t174, .int .i64 t175, .int .i64 t176, .int .i64 t177, .int .i64 t178]] rfl (by (try simp only [List.map_toArray, List.map_cons, List.map_nil]); first | done | rfl | (simp only [List.length_drop, List.length_take]; rfl)) ?_; (with_reducible refine (impl_MadeTime.calls t172 t173 t174 t175 t176 t177 t178 t179 t180 t181 t182 t183 t184 t185 t186 _ A3.out).mono ?_); rintro e w21 ⟨rfl, hb⟩; refine ⟨_, rfl, ?_⟩; have n0_ := Aside0.mk (blk_below (g := gb171) (o := .cells #[.int .i64 t172, .int .i64 t173, .int .i64 t174, .int .i64 t175, .int .i64 t176, .int .i64 t177, .int .i64 t178] 23 (0, 0)) (by (with_reducible repeat (first | refine blk_drewN ?_ _ | refine blk_drew ?_ | refine blk_alloc ?_ _)); refine blk_put (cs := #[.int .i64 t172, .int .i64 t173, .int .i64 t174, .int .i64 t175, .int .i64 t176, .int .i64 t177, .int .i64 a0_6]) ?_ 6 _ rfl; (with_reducible repeat (first | refine blk_drewN ?_ _ | refine blk_drew ?_ | refine blk_alloc ?_ _)); refine blk_put (cs := #[.int .i64 t172, .int .i64 t173, .int .i64 t174, .int .i64 t175, .int .i64 t176, .int .i64 a0_5, .int .i64 a0_6]) ?_ 5 _ rfl; (with_reducible repeat (first | refine blk_drewN ?_ _ | refine blk_drew ?_ | refine blk_alloc ?_ _)); refine blk_put (cs := #[.int .i64 t172, .int .i64 t173, .int .i64 t174, .int .i64 t175, .int .i64 a0_4, .int .i64 a0_5, .int .i64 a0_6]) ?_ 4 _ rfl; (with_reducible repeat (first | refine blk_drewN ?_ _ | refine blk_drew ?_ | refine blk_alloc ?_ _)); refine blk_put (cs := #[.int .i64 t172, .int .i64 t173, .int .i64 t174, .int .i64 a0_3, .int .i64 a0_4, .int .i64 a0_5, .int .i64 a0_6]) ?_ 3 _ rfl; (with_reducible repeat (first | refine blk_drewN ?_ _ | refine blk_drew ?_ | refine blk_alloc ?_ _)); refine blk_put (cs := #[.int .i64 t172, .int .i64 t173, .int .i64 a0_2, .int .i64 a0_3, .int .i64 a0_4, .int .i64 a0_5, .int .i64 a0_6]) ?_ 2 _ rfl; (with_reducible repeat (first | refine blk_drewN ?_ _ | refine blk_drew ?_ | refine blk_alloc ?_ _)); refine blk_put (cs := #[.int .i64 t172, .int .i64 a0_1, .int .i64 a0_2, .int .i64 a0_3, .int .i64 a0_4, .int .i64 a0_5, .int .i64 a0_6]) ?_ 1 _ rfl; (with_reducible repeat (first | refine blk_drewN ?_ _ | refine blk_drew ?_ | refine blk_alloc ?_ _)); refine blk_put (cs := #[.int .i64 a0_0, .int .i64 a0_1, .int .i64 a0_2, .int .i64 a0_3, .int .i64 a0_4, .int .i64 a0_5, .int .i64 a0_6]) ?_ 0 _ rfl; (with_reducible repeat (first | refine blk_drewN ?_ _ | refine blk_drew ?_ | refine blk_alloc ?_ _)); exact BK171.out) hb); have n1_ := Aside0.mk (below_step (by repeat (first | (with_reducible first | exact HB.out | apply below_alloc | apply pw_below_drewN | apply below_drew1 | refine below_set ?_ GE171.out) | exact HB.out)) hb); clear BK171; clear HB; have BK171 := n0_; have HB := n1_; clear n0_ n1_; (try clear hb); (try clear hb2); (try clear hk); (try clear hi)) | ((with_reducible refine gate_dst (N := 3) rfl ?_); refine box_event ?hg (N := 3) ?hd (cs := #[.int .i64 0, .int .i64 0, .int .i64 0, .int .i64 0, .int .i64 0, .int .i64 0, .int .i64 0]) (t := 23) ?hr ?_; (case hd => rfl); (case hg => rfl); (case hr => first | (go_simp; done) | (go_simp; rfl)); intro gb187 hg w22 hbox hb; have n0_ := Aside0.mk (blk_below (g := gb171) (o := .cells #[.int .i64 t172, .int .i64 t173, .int .i64 t174, .int .i64 t175, .int .i64 t176, .int .i64 t177, .int .i64 t178] 23 (0, 0)) (by (with_reducible repeat (first | refine blk_drewN ?_ _ | refine blk_drew ?_ | refine blk_alloc ?_ _)); exact BK171.out) hb); have n1_ := Aside0.mk (below_step (by repeat (first | (with_reducible first | exact HB.out | apply below_alloc | apply pw_below_drewN | apply below_drew1 | refine below_set ?_ GE171.out) | exact HB.out)) hb); have n2_ := Aside0.mk (hbox); have n3_ := Aside0.mk ((by rw [hg]; exact (below_size (by repeat (first | (with_reducible first | exact HB.out | apply below_alloc | apply pw_below_drewN | apply below_drew1 | refine below_set ?_ GE171.out) | exact HB.out))) : w.heap.size ≤ gb187)); have n4_ := Aside0.mk ((by rw [hg]; exact (below_size (by repeat (first | (with_reducible first | exact HB.out | apply below_alloc | apply pw_below_drewN | apply below_drew1 | refine below_set ?_ GE171.out) | exact HB.out))) : w.heap.size ≤ gb187)); have n5_ := Aside0.mk ((by rw [hg]; exact Nat.ne_of_lt (blk_lt (g := gb171) (o := .cells #[.int .i64 t172, .int .i64 t173, .int .i64 t174, .int .i64 t175, .int .i64 t176, .int .i64 t177, .int .i64 t178] 23 (0, 0)) (by (with_reducible repeat (first | refine blk_drewN ?_ _ | refine blk_drew ?_ | refine blk_alloc ?_ _)); exact BK171.out)) : gb171 ≠ gb187)); have n6_ := Aside0.mk ((by rw [hg]; exact Nat.ne_of_gt (blk_lt (g := gb171) (o := .cells #[.int .i64 t172, .int .i64 t173, .int .i64 t174, .int .i64 t175, .int .i64 t176, .int .i64 t177, .int .i64 t178] 23 (0, 0)) (by (with_reducible repeat (first | refine blk_drewN ?_ _ | refine blk_drew ?_ | refine blk_alloc ?_ _)); exact BK171.out)) : gb187 ≠ gb171)); clear BK171; clear HB; have BK171 := n0_; have HB := n1_; have BK187 := n2_; have GW187 := n3_; have GE187 := n4_; have NB171_187 := n5_; have NB187_171 := n6_; clear n0_ n1_ n2_ n3_ n4_ n5_ n6_; clear hb hbox hg; have hnb23 := NB187_171.out; have hnc23 := NB171_187.out; have hcz24_0 : w22.cell? ⟨gb187, 0, none⟩ = some (.int .i64 0) := (blk_cell BK187.out 0).trans rfl; have hcz24_1 : w22.cell? ⟨gb187, 1, none⟩ = some (.int .i64 0) := (blk_cell BK187.out 1).trans rfl; have hcz24_2 : w22.cell? ⟨gb187, 2, none⟩ = some (.int .i64 0) := (blk_cell BK187.out 2).trans rfl; have hcz24_3 : w22.cell? ⟨gb187, 3, none⟩ = some (.int .i64 0) := (blk_cell BK187.out 3).trans rfl; have hcz24_4 : w22.cell? ⟨gb187, 4, none⟩ = some (.int .i64 0) := (blk_cell BK187.out 4).trans rfl; have hcz24_5 : w22.cell? ⟨gb187, 5, none⟩ = some (.int .i64 0) := (blk_cell BK187.out 5).trans rfl; have hcz24_6 : w22.cell? ⟨gb187, 6, none⟩ = some (.int .i64 0) := (blk_cell BK187.out 6).trans rfl; have hfz24_0 := blk_frozen BK187.out 0; have hfz24_1 := blk_frozen BK187.out 1; have hfz24_2 := blk_frozen BK187.out 2; have hfz24_3 := blk_frozen BK187.out 3; have hfz24_4 := blk_frozen BK187.out 4; have hfz24_5 := blk_frozen BK187.out 5; have hfz24_6 := blk_frozen BK187.out 6))
    have n0_ : Aside0 ((((((((w22.setCell ⟨gb187, 0, none⟩ (.int .i64 t179)).setCell ⟨gb187, 1, none⟩ (.int .i64 t180)).setCell ⟨gb187, 2, none⟩ (.int .i64 t181)).setCell ⟨gb187, 3, none⟩ (.int .i64 t182)).setCell ⟨gb187, 4, none⟩ (.int .i64 t183)).setCell ⟨gb187, 5, none⟩ (.int .i64 t184)).setCell ⟨gb187, 6, none⟩ (.int .i64 t185)).heap[gb171]? = some (.cells #[.int .i64 t172, .int .i64 t173, .int .i64 t174, .int .i64 t175, .int .i64 t176, .int .i64 t177, .int .i64 t178] 23 (0, 0))) := ⟨by (with_reducible repeat (first | refine blk_drewN ?_ _ | refine blk_drew ?_ | refine blk_alloc ?_ _)); refine blk_far ?_ NB171_187.out _; (with_reducible repeat (first | refine blk_drewN ?_ _ | refine blk_drew ?_ | refine blk_alloc ?_ _)); refine blk_far ?_ NB171_187.out _; (with_reducible repeat (first | refine blk_drewN ?_ _ | refine blk_drew ?_ | refine blk_alloc ?_ _)); refine blk_far ?_ NB171_187.out _; (with_reducible repeat (first | refine blk_drewN ?_ _ | refine blk_drew ?_ | refine blk_alloc ?_ _)); refine blk_far ?_ NB171_187.out _; (with_reducible repeat (first | refine blk_drewN ?_ _ | refine blk_drew ?_ | refine blk_alloc ?_ _)); refine blk_far ?_ NB171_187.out _; (with_reducible repeat (first | refine blk_drewN ?_ _ | refine blk_drew ?_ | refine blk_alloc ?_ _)); refine blk_far ?_ NB171_187.out _; (with_reducible repeat (first | refine blk_drewN ?_ _ | refine blk_drew ?_ | refine blk_alloc ?_ _)); refine blk_far ?_ NB171_187.out _; (with_reducible repeat (first | refine blk_drewN ?_ _ | refine blk_drew ?_ | refine blk_alloc ?_ _)); exact BK171.out⟩
    have n1_ : Aside0 ((((((((w22.setCell ⟨gb187, 0, none⟩ (.int .i64 t179)).setCell ⟨gb187, 1, none⟩ (.int .i64 t180)).setCell ⟨gb187, 2, none⟩ (.int .i64 t181)).setCell ⟨gb187, 3, none⟩ (.int .i64 t182)).setCell ⟨gb187, 4, none⟩ (.int .i64 t183)).setCell ⟨gb187, 5, none⟩ (.int .i64 t184)).setCell ⟨gb187, 6, none⟩ (.int .i64 t185)).heap[gb187]? = some (.cells #[.int .i64 t179, .int .i64 t180, .int .i64 t181, .int .i64 t182, .int .i64 t183, .int .i64 t184, .int .i64 t185] 23 (0, 0))) := ⟨by (with_reducible repeat (first | refine blk_drewN ?_ _ | refine blk_drew ?_ | refine blk_alloc ?_ _)); refine blk_put (cs := #[.int .i64 t179, .int .i64 t180, .int .i64 t181, .int .i64 t182, .int .i64 t183, .int .i64 t184, .int .i64 0]) ?_ 6 _ rfl; (with_reducible repeat (first | refine blk_drewN ?_ _ | refine blk_drew ?_ | refine blk_alloc ?_ _)); refine blk_put (cs := #[.int .i64 t179, .int .i64 t180, .int .i64 t181, .int .i64 t182, .int .i64 t183, .int .i64 0, .int .i64 0]) ?_ 5 _ rfl; (with_reducible repeat (first | refine blk_drewN ?_ _ | refine blk_drew ?_ | refine blk_alloc ?_ _)); refine blk_put (cs := #[.int .i64 t179, .int .i64 t180, .int .i64 t181, .int .i64 t182, .int .i64 0, .int .i64 0, .int .i64 0]) ?_ 4 _ rfl; (with_reducible repeat (first | refine blk_drewN ?_ _ | refine blk_drew ?_ | refine blk_alloc ?_ _)); refine blk_put (cs := #[.int .i64 t179, .int .i64 t180, .int .i64 t181, .int .i64 0, .int .i64 0, .int .i64 0, .int .i64 0]) ?_ 3 _ rfl; (with_reducible repeat (first | refine blk_drewN ?_ _ | refine blk_drew ?_ | refine blk_alloc ?_ _)); refine blk_put (cs := #[.int .i64 t179, .int .i64 t180, .int .i64 0, .int .i64 0, .int .i64 0, .int .i64 0, .int .i64 0]) ?_ 2 _ rfl; (with_reducible repeat (first | refine blk_drewN ?_ _ | refine blk_drew ?_ | refine blk_alloc ?_ _)); refine blk_put (cs := #[.int .i64 t179, .int .i64 0, .int .i64 0, .int .i64 0, .int .i64 0, .int .i64 0, .int .i64 0]) ?_ 1 _ rfl; (with_reducible repeat (first | refine blk_drewN ?_ _ | refine blk_drew ?_ | refine blk_alloc ?_ _)); refine blk_put (cs := #[.int .i64 0, .int .i64 0, .int .i64 0, .int .i64 0, .int .i64 0, .int .i64 0, .int .i64 0]) ?_ 0 _ rfl; (with_reducible repeat (first | refine blk_drewN ?_ _ | refine blk_drew ?_ | refine blk_alloc ?_ _)); exact BK187.out⟩
    have n2_ : Aside0 (Below w.heap.size w (((((((w22.setCell ⟨gb187, 0, none⟩ (.int .i64 t179)).setCell ⟨gb187, 1, none⟩ (.int .i64 t180)).setCell ⟨gb187, 2, none⟩ (.int .i64 t181)).setCell ⟨gb187, 3, none⟩ (.int .i64 t182)).setCell ⟨gb187, 4, none⟩ (.int .i64 t183)).setCell ⟨gb187, 5, none⟩ (.int .i64 t184)).setCell ⟨gb187, 6, none⟩ (.int .i64 t185))) := ⟨by repeat (first | (with_reducible first | exact HB.out | apply below_alloc | apply pw_below_drewN | apply below_drew1 | refine below_set ?_ GE171.out | refine below_set ?_ GE187.out) | exact HB.out)⟩
    (try clear BK171)
    (try clear BK187)
    (try clear HB)
    generalize (((((((w22.setCell ⟨gb187, 0, none⟩ (.int .i64 t179)).setCell ⟨gb187, 1, none⟩ (.int .i64 t180)).setCell ⟨gb187, 2, none⟩ (.int .i64 t181)).setCell ⟨gb187, 3, none⟩ (.int .i64 t182)).setCell ⟨gb187, 4, none⟩ (.int .i64 t183)).setCell ⟨gb187, 5, none⟩ (.int .i64 t184)).setCell ⟨gb187, 6, none⟩ (.int .i64 t185)) = w25 at n0_ n1_ n2_ ⊢
    have BK171 := n0_
    have BK187 := n1_
    have HB := n2_
    clear n0_ n1_ n2_
    have n0_ := Aside0.mk (blk_drew BK171.out)
    have n1_ := Aside0.mk (blk_drew BK187.out)
    have n2_ := Aside0.mk (below_drew1 HB.out)
    clear BK171
    clear BK187
    clear HB
    have BK171 := n0_
    have BK187 := n1_
    have HB := n2_
    clear n0_ n1_ n2_
    refine start_ (n := 9) (S := fun w' => True) (ds := []) #[false, false, false, false, false, false, false, false, false] (by kernel_rfl) rfl rfl trivial (fun hHeld => ?_); refine with_tabW laws_FnMadeTime.tab3 laws_FnMadeTime.bits3 (fun HT_ HW_ => ?_)
    generalize w25.drew = w26 at BK171 BK187 HB hHeld ⊢
    refine pure_ (i := 0) (N := some 12) (v := ?_) (a' := ?_) #[true, false, false, false, false, false, false, false, false] rfl rfl (any_of HT_.out (by kernel_rfl)) (fun _ _ _ h => h) (Or.inl ⟨by rfl, ?_⟩) ?_ ?_
    rotate_left
    · intro w'
      go_simp
      with_reducible rfl
    rotate_left
    · simp only [Act.put, List.setIfInBounds_toArray, List.set_cons_zero, List.set_cons_succ, i64_w, i32_w]
      rfl
    refine pure_ (i := 1) (N := some 13) (v := ?_) (a' := ?_) #[true, true, false, false, false, false, false, false, false] rfl rfl (any_of HT_.out (by kernel_rfl)) (fun _ _ _ h => h) (Or.inl ⟨by rfl, ?_⟩) ?_ ?_
    rotate_left
    · intro w'
      go_simp
      with_reducible rfl
    rotate_left
    · simp only [Act.put, List.setIfInBounds_toArray, List.set_cons_zero, List.set_cons_succ, i64_w, i32_w]
      rfl
    refine pure_ (i := 2) (N := some 14) (v := ?_) (a' := ?_) #[true, true, true, false, false, false, false, false, false] rfl rfl (any_of HT_.out (by kernel_rfl)) (fun _ _ _ h => h) (Or.inl ⟨by rfl, ?_⟩) ?_ ?_
    rotate_left
    · intro w'
      go_simp
      with_reducible rfl
    rotate_left
    · simp only [Act.put, List.setIfInBounds_toArray, List.set_cons_zero, List.set_cons_succ, i64_w, i32_w]
      rfl
    refine pure_ (i := 3) (N := some 15) (v := undef) (a' := ?_) #[true, true, true, true, false, false, false, false, false] rfl rfl (any_of HT_.out (by kernel_rfl)) (fun _ _ _ h => h) (Or.inr ⟨by rfl, rfl⟩) ?_ ?_
    rotate_left
    · simp only [Act.put, List.setIfInBounds_toArray, List.set_cons_zero, List.set_cons_succ, i64_w, i32_w]
      rfl
    refine pure_ (i := 4) (N := some 16) (v := undef) (a' := ?_) #[true, true, true, true, true, false, false, false, false] rfl rfl (any_of HT_.out (by kernel_rfl)) (fun _ _ _ h => h) (Or.inr ⟨by rfl, rfl⟩) ?_ ?_
    rotate_left
    · simp only [Act.put, List.setIfInBounds_toArray, List.set_cons_zero, List.set_cons_succ, i64_w, i32_w]
      rfl
    refine pure_ (i := 5) (N := some 17) (v := undef) (a' := ?_) #[true, true, true, true, true, true, false, false, false] rfl rfl (any_of HT_.out (by kernel_rfl)) (fun _ _ _ h => h) (Or.inr ⟨by rfl, rfl⟩) ?_ ?_
    rotate_left
    · simp only [Act.put, List.setIfInBounds_toArray, List.set_cons_zero, List.set_cons_succ, i64_w, i32_w]
      rfl
    refine pure_ (i := 6) (N := some 18) (v := undef) (a' := ?_) #[true, true, true, true, true, true, true, false, false] rfl rfl (any_of HT_.out (by kernel_rfl)) (fun _ _ _ h => h) (Or.inr ⟨by rfl, rfl⟩) ?_ ?_
    rotate_left
    · simp only [Act.put, List.setIfInBounds_toArray, List.set_cons_zero, List.set_cons_succ, i64_w, i32_w]
      rfl
    refine pure_ (i := 7) (N := some 19) (v := ?_) (a' := ?_) #[true, true, true, true, true, true, true, true, false] rfl rfl (any_of HT_.out (by kernel_rfl)) (fun _ _ _ h => h) (Or.inl ⟨by rfl, ?_⟩) ?_ ?_
    rotate_left
    · intro w'
      go_simp
      with_reducible rfl
    rotate_left
    · simp only [Act.put, List.setIfInBounds_toArray, List.set_cons_zero, List.set_cons_succ, i64_w, i32_w]
      rfl
    refine pure_ (i := 8) (N := some 2) (v := ?_) (a' := ?_) #[true, true, true, true, true, true, true, true, true] rfl rfl (any_of HT_.out (by kernel_rfl)) (fun _ _ _ h => h) (Or.inl ⟨by rfl, ?_⟩) ?_ ?_
    rotate_left
    · intro w'
      go_simp
      with_reducible rfl
    rotate_left
    · simp only [Act.put, List.setIfInBounds_toArray, List.set_cons_zero, List.set_cons_succ, i64_w, i32_w]
      rfl
    refine done_ (done_of HT_.out (by kernel_rfl)) ?_
    try go_wp2
    go_ret
    exact ⟨by first | rfl | (simp [errW_none, errW_some] <;> rfl) | (simp [*, errW_none, errW_some] <;> rfl), by repeat (first | (with_reducible first | exact HB.out | apply below_alloc | apply pw_below_drewN | apply below_drew1 | refine below_set ?_ GE171.out | refine below_set ?_ GE187.out) | exact HB.out)⟩

/-! ### julian_DayToTime: function 28 -/
def julian_DayToTime.f (a0 : Int) : Option (Int × Int) := if a0 < 2299161 then ((zztime_Date.f (wrap64 ((wrap64 ((wrap64 (Int.tdiv (wrap64 ((wrap64 (4 * (wrap64 (a0 + 1401)))) + 3)) 1461)) - 4716)) + (wrap64 (Int.tdiv (wrap64 (14 - (wrap64 ((Int.tmod (wrap64 ((wrap64 (Int.tdiv (wrap64 ((wrap64 (5 * (wrap64 (Int.tdiv (Int.tmod (wrap64 ((wrap64 (4 * (wrap64 (a0 + 1401)))) + 3)) 1461) 4)))) + 2)) 153)) + 2)) 12) + 1)))) 12)))) (wrap64 ((Int.tmod (wrap64 ((wrap64 (Int.tdiv (wrap64 ((wrap64 (5 * (wrap64 (Int.tdiv (Int.tmod (wrap64 ((wrap64 (4 * (wrap64 (a0 + 1401)))) + 3)) 1461) 4)))) + 2)) 153)) + 2)) 12) + 1)) (wrap64 ((wrap64 (Int.tdiv (Int.tmod (wrap64 ((wrap64 (5 * (wrap64 (Int.tdiv (Int.tmod (wrap64 ((wrap64 (4 * (wrap64 (a0 + 1401)))) + 3)) 1461) 4)))) + 2)) 153) 5)) + 1)) 0 0 0 0 0).bind fun bt196 => (some (bt196.1, bt196.2))) else ((zztime_Date.f (wrap64 ((wrap64 ((wrap64 (Int.tdiv (wrap64 ((wrap64 (4 * (wrap64 ((wrap64 ((wrap64 (a0 + 1401)) + (wrap64 (Int.tdiv (wrap64 ((wrap64 (Int.tdiv (wrap64 ((wrap64 (4 * a0)) + 274277)) 146097)) * 3)) 4)))) - 38)))) + 3)) 1461)) - 4716)) + (wrap64 (Int.tdiv (wrap64 (14 - (wrap64 ((Int.tmod (wrap64 ((wrap64 (Int.tdiv (wrap64 ((wrap64 (5 * (wrap64 (Int.tdiv (Int.tmod (wrap64 ((wrap64 (4 * (wrap64 ((wrap64 ((wrap64 (a0 + 1401)) + (wrap64 (Int.tdiv (wrap64 ((wrap64 (Int.tdiv (wrap64 ((wrap64 (4 * a0)) + 274277)) 146097)) * 3)) 4)))) - 38)))) + 3)) 1461) 4)))) + 2)) 153)) + 2)) 12) + 1)))) 12)))) (wrap64 ((Int.tmod (wrap64 ((wrap64 (Int.tdiv (wrap64 ((wrap64 (5 * (wrap64 (Int.tdiv (Int.tmod (wrap64 ((wrap64 (4 * (wrap64 ((wrap64 ((wrap64 (a0 + 1401)) + (wrap64 (Int.tdiv (wrap64 ((wrap64 (Int.tdiv (wrap64 ((wrap64 (4 * a0)) + 274277)) 146097)) * 3)) 4)))) - 38)))) + 3)) 1461) 4)))) + 2)) 153)) + 2)) 12) + 1)) (wrap64 ((wrap64 (Int.tdiv (Int.tmod (wrap64 ((wrap64 (5 * (wrap64 (Int.tdiv (Int.tmod (wrap64 ((wrap64 (4 * (wrap64 ((wrap64 ((wrap64 (a0 + 1401)) + (wrap64 (Int.tdiv (wrap64 ((wrap64 (Int.tdiv (wrap64 ((wrap64 (4 * a0)) + 274277)) 146097)) * 3)) 4)))) - 38)))) + 3)) 1461) 4)))) + 2)) 153) 5)) + 1)) 0 0 0 0 0).bind fun bt198 => (some (bt198.1, bt198.2)))
set_option maxHeartbeats 8000000 in
set_option maxRecDepth 100000 in
theorem julian_DayToTime.calls (a0 : Int) (r1 : Int) (r2 : Int) (w : World) (h : julian_DayToTime.f a0 = some (r1, r2)) :
    Calls Try.prog 28 #[.int .i64 a0] w fun e w' => e = .returned (.agg #[.int .i64 r1, .int .i64 r2]) ∧ Below w.heap.size w w' := by
  have hu42 := Try.underlying42
  have HB := Aside0.mk (Below.refl w.heap.size w)
  have H : (if a0 < 2299161 then ((zztime_Date.f (wrap64 ((wrap64 ((wrap64 (Int.tdiv (wrap64 ((wrap64 (4 * (wrap64 (a0 + 1401)))) + 3)) 1461)) - 4716)) + (wrap64 (Int.tdiv (wrap64 (14 - (wrap64 ((Int.tmod (wrap64 ((wrap64 (Int.tdiv (wrap64 ((wrap64 (5 * (wrap64 (Int.tdiv (Int.tmod (wrap64 ((wrap64 (4 * (wrap64 (a0 + 1401)))) + 3)) 1461) 4)))) + 2)) 153)) + 2)) 12) + 1)))) 12)))) (wrap64 ((Int.tmod (wrap64 ((wrap64 (Int.tdiv (wrap64 ((wrap64 (5 * (wrap64 (Int.tdiv (Int.tmod (wrap64 ((wrap64 (4 * (wrap64 (a0 + 1401)))) + 3)) 1461) 4)))) + 2)) 153)) + 2)) 12) + 1)) (wrap64 ((wrap64 (Int.tdiv (Int.tmod (wrap64 ((wrap64 (5 * (wrap64 (Int.tdiv (Int.tmod (wrap64 ((wrap64 (4 * (wrap64 (a0 + 1401)))) + 3)) 1461) 4)))) + 2)) 153) 5)) + 1)) 0 0 0 0 0).bind fun bt196 => (some (bt196.1, bt196.2))) else ((zztime_Date.f (wrap64 ((wrap64 ((wrap64 (Int.tdiv (wrap64 ((wrap64 (4 * (wrap64 ((wrap64 ((wrap64 (a0 + 1401)) + (wrap64 (Int.tdiv (wrap64 ((wrap64 (Int.tdiv (wrap64 ((wrap64 (4 * a0)) + 274277)) 146097)) * 3)) 4)))) - 38)))) + 3)) 1461)) - 4716)) + (wrap64 (Int.tdiv (wrap64 (14 - (wrap64 ((Int.tmod (wrap64 ((wrap64 (Int.tdiv (wrap64 ((wrap64 (5 * (wrap64 (Int.tdiv (Int.tmod (wrap64 ((wrap64 (4 * (wrap64 ((wrap64 ((wrap64 (a0 + 1401)) + (wrap64 (Int.tdiv (wrap64 ((wrap64 (Int.tdiv (wrap64 ((wrap64 (4 * a0)) + 274277)) 146097)) * 3)) 4)))) - 38)))) + 3)) 1461) 4)))) + 2)) 153)) + 2)) 12) + 1)))) 12)))) (wrap64 ((Int.tmod (wrap64 ((wrap64 (Int.tdiv (wrap64 ((wrap64 (5 * (wrap64 (Int.tdiv (Int.tmod (wrap64 ((wrap64 (4 * (wrap64 ((wrap64 ((wrap64 (a0 + 1401)) + (wrap64 (Int.tdiv (wrap64 ((wrap64 (Int.tdiv (wrap64 ((wrap64 (4 * a0)) + 274277)) 146097)) * 3)) 4)))) - 38)))) + 3)) 1461) 4)))) + 2)) 153)) + 2)) 12) + 1)) (wrap64 ((wrap64 (Int.tdiv (Int.tmod (wrap64 ((wrap64 (5 * (wrap64 (Int.tdiv (Int.tmod (wrap64 ((wrap64 (4 * (wrap64 ((wrap64 ((wrap64 (a0 + 1401)) + (wrap64 (Int.tdiv (wrap64 ((wrap64 (Int.tdiv (wrap64 ((wrap64 (4 * a0)) + 274277)) 146097)) * 3)) 4)))) - 38)))) + 3)) 1461) 4)))) + 2)) 153) 5)) + 1)) 0 0 0 0 0).bind fun bt198 => (some (bt198.1, bt198.2)))) = some (r1, r2) := h
  clear h
  by_cases c2 : a0 < 2299161
  · rw [if_pos c2] at H
    have c2b0 : decide (a0 < 2299161) = true := decide_eq_true c2
    clear c2
    replace H := Option.bind_eq_some_iff.mp H
    obtain ⟨⟨t196, t197⟩, A30, H⟩ := H
    replace H : (some (t196, t197)) = some (r1, r2) := H
    have A3 := Aside0.mk A30
    clear A30
    simp only [Option.some.injEq, Prod.mk.injEq] at H
    obtain ⟨rfl, rfl⟩ := H
    go_enter Try.func28, Try.ntmps28
    go_wp2_with (first | ((with_reducible refine gate_dst (N := 2) rfl ?_); refine box_event ?hg (N := 2) ?hd (cs := #[.int .i64 0, .int .i64 0]) (t := 42) ?hr ?_; (case hd => rfl); (case hg => rfl); (case hr => first | (go_simp; done) | (go_simp; rfl)); intro gb195 hg w4 hbox hb; have n0_ := Aside0.mk (below_step (by repeat (first | (with_reducible first | exact HB.out | apply below_alloc | apply pw_below_drewN | apply below_drew1) | exact HB.out)) hb); have n1_ := Aside0.mk (hbox); have n2_ := Aside0.mk ((by rw [hg]; exact (below_size (by repeat (first | (with_reducible first | exact HB.out | apply below_alloc | apply pw_below_drewN | apply below_drew1) | exact HB.out))) : w.heap.size ≤ gb195)); have n3_ := Aside0.mk ((by rw [hg]; exact (below_size (by repeat (first | (with_reducible first | exact HB.out | apply below_alloc | apply pw_below_drewN | apply below_drew1) | exact HB.out))) : w.heap.size ≤ gb195)); clear HB; have HB := n0_; have BK195 := n1_; have GW195 := n2_; have GE195 := n3_; clear n0_ n1_ n2_ n3_; clear hb hbox hg) | ((with_reducible refine gate_callee (f := 40) rfl ?_); refine goesL_ (some 52) rfl rfl Try.func40 (by kernel_rfl) rfl #[.int .i64 (wrap64 ((wrap64 ((wrap64 (Int.tdiv (wrap64 ((wrap64 (4 * (wrap64 (a0 + 1401)))) + 3)) 1461)) - 4716)) + (wrap64 (Int.tdiv (wrap64 (14 - (wrap64 ((Int.tmod (wrap64 ((wrap64 (Int.tdiv (wrap64 ((wrap64 (5 * (wrap64 (Int.tdiv (Int.tmod (wrap64 ((wrap64 (4 * (wrap64 (a0 + 1401)))) + 3)) 1461) 4)))) + 2)) 153)) + 2)) 12) + 1)))) 12)))), .int .i64 (wrap64 ((Int.tmod (wrap64 ((wrap64 (Int.tdiv (wrap64 ((wrap64 (5 * (wrap64 (Int.tdiv (Int.tmod (wrap64 ((wrap64 (4 * (wrap64 (a0 + 1401)))) + 3)) 1461) 4)))) + 2)) 153)) + 2)) 12) + 1)), .int .i64 (wrap64 ((wrap64 (Int.tdiv (Int.tmod (wrap64 ((wrap64 (5 * (wrap64 (Int.tdiv (Int.tmod (wrap64 ((wrap64 (4 * (wrap64 (a0 + 1401)))) + 3)) 1461) 4)))) + 2)) 153) 5)) + 1)), .int .i64 0, .int .i64 0, .int .i64 0, .int .i64 0, .int .i64 0] rfl (by (try simp only [List.map_toArray, List.map_cons, List.map_nil]); first | done | rfl | (simp only [List.length_drop, List.length_take]; rfl)) ?_; (with_reducible refine (zztime_Date.calls (wrap64 ((wrap64 ((wrap64 (Int.tdiv (wrap64 ((wrap64 (4 * (wrap64 (a0 + 1401)))) + 3)) 1461)) - 4716)) + (wrap64 (Int.tdiv (wrap64 (14 - (wrap64 ((Int.tmod (wrap64 ((wrap64 (Int.tdiv (wrap64 ((wrap64 (5 * (wrap64 (Int.tdiv (Int.tmod (wrap64 ((wrap64 (4 * (wrap64 (a0 + 1401)))) + 3)) 1461) 4)))) + 2)) 153)) + 2)) 12) + 1)))) 12)))) (wrap64 ((Int.tmod (wrap64 ((wrap64 (Int.tdiv (wrap64 ((wrap64 (5 * (wrap64 (Int.tdiv (Int.tmod (wrap64 ((wrap64 (4 * (wrap64 (a0 + 1401)))) + 3)) 1461) 4)))) + 2)) 153)) + 2)) 12) + 1)) (wrap64 ((wrap64 (Int.tdiv (Int.tmod (wrap64 ((wrap64 (5 * (wrap64 (Int.tdiv (Int.tmod (wrap64 ((wrap64 (4 * (wrap64 (a0 + 1401)))) + 3)) 1461) 4)))) + 2)) 153) 5)) + 1)) 0 0 0 0 0 t196 t197 _ A3.out).mono ?_); rintro e w5 ⟨rfl, hb⟩; refine ⟨_, rfl, ?_⟩; have n0_ := Aside0.mk (blk_below (g := gb195) (o := .cells #[.int .i64 0, .int .i64 0] 42 (0, 0)) (by (with_reducible repeat (first | refine blk_drewN ?_ _ | refine blk_drew ?_ | refine blk_alloc ?_ _)); exact BK195.out) hb); have n1_ := Aside0.mk (below_step (by repeat (first | (with_reducible first | exact HB.out | apply below_alloc | apply pw_below_drewN | apply below_drew1 | refine below_set ?_ GE195.out) | exact HB.out)) hb); clear BK195; clear HB; have BK195 := n0_; have HB := n1_; clear n0_ n1_; (try clear hb); (try clear hb2); (try clear hk); (try clear hi); have hcz6_0 : w5.cell? ⟨gb195, 0, none⟩ = some (.int .i64 0) := (blk_cell BK195.out 0).trans rfl; have hcz6_1 : w5.cell? ⟨gb195, 1, none⟩ = some (.int .i64 0) := (blk_cell BK195.out 1).trans rfl; have hfz6_0 := blk_frozen BK195.out 0; have hfz6_1 := blk_frozen BK195.out 1))
    refine bodyPost_ret (results_cell_row rfl _ _ gb195 42 #[.int .i64 t196, .int .i64 t197] (0, 0) _ rfl (by (with_reducible repeat (first | refine blk_drewN ?_ _ | refine blk_drew ?_ | refine blk_alloc ?_ _)); refine blk_put (cs := #[.int .i64 t196, .int .i64 0]) ?_ 1 _ rfl; (with_reducible repeat (first | refine blk_drewN ?_ _ | refine blk_drew ?_ | refine blk_alloc ?_ _)); refine blk_put (cs := #[.int .i64 0, .int .i64 0]) ?_ 0 _ rfl; (with_reducible repeat (first | refine blk_drewN ?_ _ | refine blk_drew ?_ | refine blk_alloc ?_ _)); exact BK195.out) Try.underlying42 rfl (by kernel_rfl)) rfl ?_
    exact ⟨by first | rfl | (simp [errW_none, errW_some] <;> rfl) | (simp [*, errW_none, errW_some] <;> rfl), by repeat (first | (with_reducible first | exact HB.out | apply below_alloc | apply pw_below_drewN | apply below_drew1 | refine below_set ?_ GE195.out) | exact HB.out)⟩
  · rw [if_neg c2] at H
    have c2b0 : decide (a0 < 2299161) = false := decide_eq_false c2
    clear c2
    replace H := Option.bind_eq_some_iff.mp H
    obtain ⟨⟨t198, t199⟩, A70, H⟩ := H
    replace H : (some (t198, t199)) = some (r1, r2) := H
    have A7 := Aside0.mk A70
    clear A70
    simp only [Option.some.injEq, Prod.mk.injEq] at H
    obtain ⟨rfl, rfl⟩ := H
    go_enter Try.func28, Try.ntmps28
    go_wp2_with (first | ((with_reducible refine gate_dst (N := 2) rfl ?_); refine box_event ?hg (N := 2) ?hd (cs := #[.int .i64 0, .int .i64 0]) (t := 42) ?hr ?_; (case hd => rfl); (case hg => rfl); (case hr => first | (go_simp; done) | (go_simp; rfl)); intro gb195 hg w8 hbox hb; have n0_ := Aside0.mk (below_step (by repeat (first | (with_reducible first | exact HB.out | apply below_alloc | apply pw_below_drewN | apply below_drew1) | exact HB.out)) hb); have n1_ := Aside0.mk (hbox); have n2_ := Aside0.mk ((by rw [hg]; exact (below_size (by repeat (first | (with_reducible first | exact HB.out | apply below_alloc | apply pw_below_drewN | apply below_drew1) | exact HB.out))) : w.heap.size ≤ gb195)); have n3_ := Aside0.mk ((by rw [hg]; exact (below_size (by repeat (first | (with_reducible first | exact HB.out | apply below_alloc | apply pw_below_drewN | apply below_drew1) | exact HB.out))) : w.heap.size ≤ gb195)); clear HB; have HB := n0_; have BK195 := n1_; have GW195 := n2_; have GE195 := n3_; clear n0_ n1_ n2_ n3_; clear hb hbox hg) | ((with_reducible refine gate_callee (f := 40) rfl ?_); refine goesL_ (some 52) rfl rfl Try.func40 (by kernel_rfl) rfl #[.int .i64 (wrap64 ((wrap64 ((wrap64 (Int.tdiv (wrap64 ((wrap64 (4 * (wrap64 ((wrap64 ((wrap64 (a0 + 1401)) + (wrap64 (Int.tdiv (wrap64 ((wrap64 (Int.tdiv (wrap64 ((wrap64 (4 * a0)) + 274277)) 146097)) * 3)) 4)))) - 38)))) + 3)) 1461)) - 4716)) + (wrap64 (Int.tdiv (wrap64 (14 - (wrap64 ((Int.tmod (wrap64 ((wrap64 (Int.tdiv (wrap64 ((wrap64 (5 * (wrap64 (Int.tdiv (Int.tmod (wrap64 ((wrap64 (4 * (wrap64 ((wrap64 ((wrap64 (a0 + 1401)) + (wrap64 (Int.tdiv (wrap64 ((wrap64 (Int.tdiv (wrap64 ((wrap64 (4 * a0)) + 274277)) 146097)) * 3)) 4)))) - 38)))) + 3)) 1461) 4)))) + 2)) 153)) + 2)) 12) + 1)))) 12)))), .int .i64 (wrap64 ((Int.tmod (wrap64 ((wrap64 (Int.tdiv (wrap64 ((wrap64 (5 * (wrap64 (Int.tdiv (Int.tmod (wrap64 ((wrap64 (4 * (wrap64 ((wrap64 ((wrap64 (a0 + 1401)) + (wrap64 (Int.tdiv (wrap64 ((wrap64 (Int.tdiv (wrap64 ((wrap64 (4 * a0)) + 274277)) 146097)) * 3)) 4)))) - 38)))) + 3)) 1461) 4)))) + 2)) 153)) + 2)) 12) + 1)), .int .i64 (wrap64 ((wrap64 (Int.tdiv (Int.tmod (wrap64 ((wrap64 (5 * (wrap64 (Int.tdiv (Int.tmod (wrap64 ((wrap64 (4 * (wrap64 ((wrap64 ((wrap64 (a0 + 1401)) + (wrap64 (Int.tdiv (wrap64 ((wrap64 (Int.tdiv (wrap64 ((wrap64 (4 * a0)) + 274277)) 146097)) * 3)) 4)))) - 38)))) + 3)) 1461) 4)))) + 2)) 153) 5)) + 1)), .int .i64 0, .int .i64 0, .int .i64 0, .int .i64 0, .int .i64 0] rfl (by (try simp only [List.map_toArray, List.map_cons, List.map_nil]); first | done | rfl | (simp only [List.length_drop, List.length_take]; rfl)) ?_; (with_reducible refine (zztime_Date.calls (wrap64 ((wrap64 ((wrap64 (Int.tdiv (wrap64 ((wrap64 (4 * (wrap64 ((wrap64 ((wrap64 (a0 + 1401)) + (wrap64 (Int.tdiv (wrap64 ((wrap64 (Int.tdiv (wrap64 ((wrap64 (4 * a0)) + 274277)) 146097)) * 3)) 4)))) - 38)))) + 3)) 1461)) - 4716)) + (wrap64 (Int.tdiv (wrap64 (14 - (wrap64 ((Int.tmod (wrap64 ((wrap64 (Int.tdiv (wrap64 ((wrap64 (5 * (wrap64 (Int.tdiv (Int.tmod (wrap64 ((wrap64 (4 * (wrap64 ((wrap64 ((wrap64 (a0 + 1401)) + (wrap64 (Int.tdiv (wrap64 ((wrap64 (Int.tdiv (wrap64 ((wrap64 (4 * a0)) + 274277)) 146097)) * 3)) 4)))) - 38)))) + 3)) 1461) 4)))) + 2)) 153)) + 2)) 12) + 1)))) 12)))) (wrap64 ((Int.tmod (wrap64 ((wrap64 (Int.tdiv (wrap64 ((wrap64 (5 * (wrap64 (Int.tdiv (Int.tmod (wrap64 ((wrap64 (4 * (wrap64 ((wrap64 ((wrap64 (a0 + 1401)) + (wrap64 (Int.tdiv (wrap64 ((wrap64 (Int.tdiv (wrap64 ((wrap64 (4 * a0)) + 274277)) 146097)) * 3)) 4)))) - 38)))) + 3)) 1461) 4)))) + 2)) 153)) + 2)) 12) + 1)) (wrap64 ((wrap64 (Int.tdiv (Int.tmod (wrap64 ((wrap64 (5 * (wrap64 (Int.tdiv (Int.tmod (wrap64 ((wrap64 (4 * (wrap64 ((wrap64 ((wrap64 (a0 + 1401)) + (wrap64 (Int.tdiv (wrap64 ((wrap64 (Int.tdiv (wrap64 ((wrap64 (4 * a0)) + 274277)) 146097)) * 3)) 4)))) - 38)))) + 3)) 1461) 4)))) + 2)) 153) 5)) + 1)) 0 0 0 0 0 t198 t199 _ A7.out).mono ?_); rintro e w9 ⟨rfl, hb⟩; refine ⟨_, rfl, ?_⟩; have n0_ := Aside0.mk (blk_below (g := gb195) (o := .cells #[.int .i64 0, .int .i64 0] 42 (0, 0)) (by (with_reducible repeat (first | refine blk_drewN ?_ _ | refine blk_drew ?_ | refine blk_alloc ?_ _)); exact BK195.out) hb); have n1_ := Aside0.mk (below_step (by repeat (first | (with_reducible first | exact HB.out | apply below_alloc | apply pw_below_drewN | apply below_drew1 | refine below_set ?_ GE195.out) | exact HB.out)) hb); clear BK195; clear HB; have BK195 := n0_; have HB := n1_; clear n0_ n1_; (try clear hb); (try clear hb2); (try clear hk); (try clear hi); have hcz10_0 : w9.cell? ⟨gb195, 0, none⟩ = some (.int .i64 0) := (blk_cell BK195.out 0).trans rfl; have hcz10_1 : w9.cell? ⟨gb195, 1, none⟩ = some (.int .i64 0) := (blk_cell BK195.out 1).trans rfl; have hfz10_0 := blk_frozen BK195.out 0; have hfz10_1 := blk_frozen BK195.out 1))
    refine bodyPost_ret (results_cell_row rfl _ _ gb195 42 #[.int .i64 t198, .int .i64 t199] (0, 0) _ rfl (by (with_reducible repeat (first | refine blk_drewN ?_ _ | refine blk_drew ?_ | refine blk_alloc ?_ _)); refine blk_put (cs := #[.int .i64 t198, .int .i64 0]) ?_ 1 _ rfl; (with_reducible repeat (first | refine blk_drewN ?_ _ | refine blk_drew ?_ | refine blk_alloc ?_ _)); refine blk_put (cs := #[.int .i64 0, .int .i64 0]) ?_ 0 _ rfl; (with_reducible repeat (first | refine blk_drewN ?_ _ | refine blk_drew ?_ | refine blk_alloc ?_ _)); exact BK195.out) Try.underlying42 rfl (by kernel_rfl)) rfl ?_
    exact ⟨by first | rfl | (simp [errW_none, errW_some] <;> rfl) | (simp [*, errW_none, errW_some] <;> rfl), by repeat (first | (with_reducible first | exact HB.out | apply below_alloc | apply pw_below_drewN | apply below_drew1 | refine below_set ?_ GE195.out) | exact HB.out)⟩

/-! ### impl_JulianDate: function 12 -/
def impl_JulianDate.j0 : Nat → Int → Bool → Option (Int × Int × Int × Int × Int × Int × Int × Int)
  | 0, _, _ => none
  | k + 1, x0, x9 => if x9 = true then (some (0, 0, 0, 0, 0, 0, 0, 3)) else ((julian_DayToTime.f x0).bind fun bt201 => ((impl_timeBack.f bt201.1 bt201.2).bind fun bt203 => (some (bt203.1, bt203.2.1, bt203.2.2.1, bt203.2.2.2.1, bt203.2.2.2.2.1, bt203.2.2.2.2.2.1, bt203.2.2.2.2.2.2, 0))))
def impl_JulianDate.f (k : Nat) (a0 : Int) : Option (Int × Int × Int × Int × Int × Int × Int × Int) := if a0 < 0 then (impl_JulianDate.j0 k a0 true) else (impl_JulianDate.j0 k a0 (decide (a0 > 10000000)))
theorem impl_JulianDate.mono_l : ∀ k, (∀ y0 y1, LeO (impl_JulianDate.j0 k y0 y1) (impl_JulianDate.j0 (k + 1) y0 y1))
  | 0 => fun _ _ r h => by simp [impl_JulianDate.j0] at h
  | k + 1 => by
    have ih0 := impl_JulianDate.mono_l k
    · intro y0 y1
      unfold impl_JulianDate.j0
      repeat' first
      | (with_reducible exact ih0 _ _)
      | (with_reducible exact LeO.refl _)
      | (with_reducible exact LeO.none _)
      | (with_reducible refine LeO.ite ?_ ?_)
      | (with_reducible refine LeO.bind ?_ (fun _ => ?_))
      | exact ih0 _ _
      | exact LeO.none _
      | refine LeO.ite ?_ ?_
      | refine LeO.bind ?_ (fun _ => ?_)
theorem impl_JulianDate.mono : ∀ a0 k, LeO (impl_JulianDate.f k a0) (impl_JulianDate.f (k + 1) a0) := by
  intro a0 k
  have ih0 := impl_JulianDate.mono_l k
  unfold impl_JulianDate.f
  repeat' first
      | (with_reducible exact ih0 _ _)
      | (with_reducible exact LeO.refl _)
      | (with_reducible exact LeO.none _)
      | (with_reducible refine LeO.ite ?_ ?_)
      | (with_reducible refine LeO.bind ?_ (fun _ => ?_))
      | exact ih0 _ _
      | exact LeO.none _
      | refine LeO.ite ?_ ?_
      | refine LeO.bind ?_ (fun _ => ?_)
set_option maxHeartbeats 8000000 in
set_option maxRecDepth 100000 in
theorem impl_JulianDate.calls (k : Nat) (a0 : Int) (r1 : Int) (r2 : Int) (r3 : Int) (r4 : Int) (r5 : Int) (r6 : Int) (r7 : Int) (r8 : Int) (w : World) (h : impl_JulianDate.f k a0 = some (r1, r2, r3, r4, r5, r6, r7, r8)) :
    Calls Try.prog 12 #[.int .i64 a0] w fun e w' => e = .returned (.tuple #[.agg #[.int .i64 r1, .int .i64 r2, .int .i64 r3, .int .i64 r4, .int .i64 r5, .int .i64 r6, .int .i64 r7], .int .i64 r8]) ∧ Below w.heap.size w w' := by
  have hu23 := Try.underlying23
  have HB := Aside0.mk (Below.refl w.heap.size w)
  have H : (if a0 < 0 then (impl_JulianDate.j0 k a0 true) else (impl_JulianDate.j0 k a0 (decide (a0 > 10000000)))) = some (r1, r2, r3, r4, r5, r6, r7, r8) := h
  clear h
  have HC2 := Aside0.mk H
  clear H
  go_enter Try.func12, Try.ntmps12
  go_upto_region 1 with (first | ((with_reducible refine gate_dst (N := 2) rfl ?_); refine box_event ?hg (N := 2) ?hd (cs := #[.int .i64 0, .int .i64 0, .int .i64 0, .int .i64 0, .int .i64 0, .int .i64 0, .int .i64 0]) (t := 23) ?hr ?_; (case hd => rfl); (case hg => rfl); (case hr => first | (go_simp; done) | (go_simp; rfl)); intro gb200 hg w3 hbox hb; have n0_ := Aside0.mk (below_step (by repeat (first | (with_reducible first | exact HB.out | apply below_alloc | apply pw_below_drewN | apply below_drew1) | exact HB.out)) hb); have n1_ := Aside0.mk (hbox); have n2_ := Aside0.mk ((by rw [hg]; exact (below_size (by repeat (first | (with_reducible first | exact HB.out | apply below_alloc | apply pw_below_drewN | apply below_drew1) | exact HB.out))) : w.heap.size ≤ gb200)); have n3_ := Aside0.mk ((by rw [hg]; exact (below_size (by repeat (first | (with_reducible first | exact HB.out | apply below_alloc | apply pw_below_drewN | apply below_drew1) | exact HB.out))) : w.heap.size ≤ gb200)); clear HB; have HB := n0_; have BK200 := n1_; have GW200 := n2_; have GE200 := n3_; clear n0_ n1_ n2_ n3_; clear hb hbox hg))
  (try simp only [Act.put, List.setIfInBounds_toArray, List.set_cons_zero, List.set_cons_succ])
  go_cut [9] (fun v9 wc => ∃ (kq : Nat) (x9_1 : Bool), v9 = .bool x9_1 ∧ Aside0 (impl_JulianDate.j0 kq a0 x9_1 = some (r1, r2, r3, r4, r5, r6, r7, r8)) ∧ Aside0 (kq ≤ k) ∧ Aside0 (wc.heap[gb200]? = some (.cells #[.int .i64 0, .int .i64 0, .int .i64 0, .int .i64 0, .int .i64 0, .int .i64 0, .int .i64 0] 23 (0, 0))) ∧ Aside0 (Below w.heap.size w wc))
  case first =>
    have H := HC2.out
    clear HC2
    by_cases c4 : a0 < 0
    · rw [if_pos c4] at H
      have c4b0 : decide (a0 < 0) = true := decide_eq_true c4
      clear c4
      (first | rw [c4b0] | (simp only [i64_w, i32_w]; rw [c4b0]) | skip)
      have H' := Aside0.mk H
      clear H
      go_wp2
      go_meet
      case rel => exact ⟨_, (true), (by first | rfl | (simp; done) | (simp [*]; done)), H', ⟨by first | omega | exact Nat.le_refl _⟩, ⟨by (with_reducible repeat (first | refine blk_drewN ?_ _ | refine blk_drew ?_ | refine blk_alloc ?_ _)); exact BK200.out⟩, ⟨by repeat (first | (with_reducible first | exact HB.out | apply below_alloc | apply pw_below_drewN | apply below_drew1 | refine below_set ?_ GE200.out) | exact HB.out)⟩⟩
    · rw [if_neg c4] at H
      have c4b0 : decide (a0 < 0) = false := decide_eq_false c4
      clear c4
      (first | rw [c4b0] | (simp only [i64_w, i32_w]; rw [c4b0]) | skip)
      have H' := Aside0.mk H
      clear H
      go_wp2
      go_meet
      case rel => exact ⟨_, (decide (a0 > 10000000)), (by first | rfl | (simp; done) | (simp [*]; done)), H', ⟨by first | omega | exact Nat.le_refl _⟩, ⟨by (with_reducible repeat (first | refine blk_drewN ?_ _ | refine blk_drew ?_ | refine blk_alloc ?_ _)); exact BK200.out⟩, ⟨by repeat (first | (with_reducible first | exact HB.out | apply below_alloc | apply pw_below_drewN | apply below_drew1 | refine below_set ?_ GE200.out) | exact HB.out)⟩⟩
  case rest =>
    clear HC2
    try clear c1
    try clear p2
    try clear c4
    try clear c4b0
    obtain ⟨kq, x9_1, rfl, HA, HJ1, BK200, HB⟩ := hcut
    cases kq with
    | zero => exact absurd HA.out (by simp [impl_JulianDate.j0])
    | succ kj1 =>
      have H := HA.out
      clear HA
      simp only [impl_JulianDate.j0] at H
      by_cases c5 : x9_1 = true
      · subst c5
        have H1 : (some (0, 0, 0, 0, 0, 0, 0, 3)) = some (r1, r2, r3, r4, r5, r6, r7, r8) := by rw [if_pos rfl] at H; exact H
        clear H
        have H := H1
        clear H1
        simp only [Option.some.injEq, Prod.mk.injEq] at H
        obtain ⟨rfl, rfl, rfl, rfl, rfl, rfl, rfl, rfl⟩ := H
        have hcz6_0 : wc.cell? ⟨gb200, 0, none⟩ = some (.int .i64 0) := (blk_cell BK200.out 0).trans rfl
        have hcz6_1 : wc.cell? ⟨gb200, 1, none⟩ = some (.int .i64 0) := (blk_cell BK200.out 1).trans rfl
        have hcz6_2 : wc.cell? ⟨gb200, 2, none⟩ = some (.int .i64 0) := (blk_cell BK200.out 2).trans rfl
        have hcz6_3 : wc.cell? ⟨gb200, 3, none⟩ = some (.int .i64 0) := (blk_cell BK200.out 3).trans rfl
        have hcz6_4 : wc.cell? ⟨gb200, 4, none⟩ = some (.int .i64 0) := (blk_cell BK200.out 4).trans rfl
        have hcz6_5 : wc.cell? ⟨gb200, 5, none⟩ = some (.int .i64 0) := (blk_cell BK200.out 5).trans rfl
        have hcz6_6 : wc.cell? ⟨gb200, 6, none⟩ = some (.int .i64 0) := (blk_cell BK200.out 6).trans rfl
        have hfz6_0 := blk_frozen BK200.out 0
        have hfz6_1 := blk_frozen BK200.out 1
        have hfz6_2 := blk_frozen BK200.out 2
        have hfz6_3 := blk_frozen BK200.out 3
        have hfz6_4 := blk_frozen BK200.out 4
        have hfz6_5 := blk_frozen BK200.out 5
        have hfz6_6 := blk_frozen BK200.out 6
        go_wp2
        refine bodyPost_ret (results_ct rfl _ _ gb200 23 #[.int .i64 0, .int .i64 0, .int .i64 0, .int .i64 0, .int .i64 0, .int .i64 0, .int .i64 0] (0, 0) _ rfl (by (with_reducible repeat (first | refine blk_drewN ?_ _ | refine blk_drew ?_ | refine blk_alloc ?_ _)); refine blk_put (cs := #[.int .i64 0, .int .i64 0, .int .i64 0, .int .i64 0, .int .i64 0, .int .i64 0, .int .i64 0]) ?_ 6 _ rfl; (with_reducible repeat (first | refine blk_drewN ?_ _ | refine blk_drew ?_ | refine blk_alloc ?_ _)); refine blk_put (cs := #[.int .i64 0, .int .i64 0, .int .i64 0, .int .i64 0, .int .i64 0, .int .i64 0, .int .i64 0]) ?_ 5 _ rfl; (with_reducible repeat (first | refine blk_drewN ?_ _ | refine blk_drew ?_ | refine blk_alloc ?_ _)); refine blk_put (cs := #[.int .i64 0, .int .i64 0, .int .i64 0, .int .i64 0, .int .i64 0, .int .i64 0, .int .i64 0]) ?_ 4 _ rfl; (with_reducible repeat (first | refine blk_drewN ?_ _ | refine blk_drew ?_ | refine blk_alloc ?_ _)); refine blk_put (cs := #[.int .i64 0, .int .i64 0, .int .i64 0, .int .i64 0, .int .i64 0, .int .i64 0, .int .i64 0]) ?_ 3 _ rfl; (with_reducible repeat (first | refine blk_drewN ?_ _ | refine blk_drew ?_ | refine blk_alloc ?_ _)); refine blk_put (cs := #[.int .i64 0, .int .i64 0, .int .i64 0, .int .i64 0, .int .i64 0, .int .i64 0, .int .i64 0]) ?_ 2 _ rfl; (with_reducible repeat (first | refine blk_drewN ?_ _ | refine blk_drew ?_ | refine blk_alloc ?_ _)); refine blk_put (cs := #[.int .i64 0, .int .i64 0, .int .i64 0, .int .i64 0, .int .i64 0, .int .i64 0, .int .i64 0]) ?_ 1 _ rfl; (with_reducible repeat (first | refine blk_drewN ?_ _ | refine blk_drew ?_ | refine blk_alloc ?_ _)); refine blk_put (cs := #[.int .i64 0, .int .i64 0, .int .i64 0, .int .i64 0, .int .i64 0, .int .i64 0, .int .i64 0]) ?_ 0 _ rfl; (with_reducible repeat (first | refine blk_drewN ?_ _ | refine blk_drew ?_ | refine blk_alloc ?_ _)); exact BK200.out) Try.underlying23 rfl (by kernel_rfl)) rfl ?_
        exact ⟨by first | rfl | (simp [errW_none, errW_some] <;> rfl) | (simp [*, errW_none, errW_some] <;> rfl), by repeat (first | (with_reducible first | exact HB.out | apply below_alloc | apply pw_below_drewN | apply below_drew1 | refine below_set ?_ GE200.out) | exact HB.out)⟩
      · replace c5 := Bool.eq_false_iff.mpr c5
        subst c5
        have H1 : ((julian_DayToTime.f a0).bind fun bt201 => ((impl_timeBack.f bt201.1 bt201.2).bind fun bt203 => (some (bt203.1, bt203.2.1, bt203.2.2.1, bt203.2.2.2.1, bt203.2.2.2.2.1, bt203.2.2.2.2.2.1, bt203.2.2.2.2.2.2, 0)))) = some (r1, r2, r3, r4, r5, r6, r7, r8) := by rw [if_neg (show ¬ (false = true) by decide)] at H; exact H
        clear H
        have H := H1
        clear H1
        replace H := Option.bind_eq_some_iff.mp H
        obtain ⟨⟨t201, t202⟩, A70, H⟩ := H
        replace H : ((impl_timeBack.f t201 t202).bind fun bt203 => (some (bt203.1, bt203.2.1, bt203.2.2.1, bt203.2.2.2.1, bt203.2.2.2.2.1, bt203.2.2.2.2.2.1, bt203.2.2.2.2.2.2, 0))) = some (r1, r2, r3, r4, r5, r6, r7, r8) := H
        have A7 := Aside0.mk A70
        clear A70
        replace H := Option.bind_eq_some_iff.mp H
        obtain ⟨⟨t203, t204, t205, t206, t207, t208, t209⟩, A80, H⟩ := H
        replace H : (some (t203, t204, t205, t206, t207, t208, t209, 0)) = some (r1, r2, r3, r4, r5, r6, r7, r8) := H
        have A8 := Aside0.mk A80
        clear A80
        simp only [Option.some.injEq, Prod.mk.injEq] at H
        obtain ⟨rfl, rfl, rfl, rfl, rfl, rfl, rfl, rfl⟩ := H
        go_wp2_with (first | ((with_reducible refine gate_callee (f := 28) rfl ?_); refine goesL_ (some 12) rfl rfl Try.func28 (by kernel_rfl) rfl #[.int .i64 a0] rfl (by (try simp only [List.map_toArray, List.map_cons, List.map_nil]); first | done | rfl | (simp only [List.length_drop, List.length_take]; rfl)) ?_; (with_reducible refine (julian_DayToTime.calls a0 t201 t202 _ A7.out).mono ?_); rintro e w9 ⟨rfl, hb⟩; refine ⟨_, rfl, ?_⟩; have n0_ := Aside0.mk (blk_below (g := gb200) (o := .cells #[.int .i64 0, .int .i64 0, .int .i64 0, .int .i64 0, .int .i64 0, .int .i64 0, .int .i64 0] 23 (0, 0)) (by (with_reducible repeat (first | refine blk_drewN ?_ _ | refine blk_drew ?_ | refine blk_alloc ?_ _)); exact BK200.out) hb); have n1_ := Aside0.mk (below_step (by repeat (first | (with_reducible first | exact HB.out | apply below_alloc | apply pw_below_drewN | apply below_drew1 | refine below_set ?_ GE200.out) | exact HB.out)) hb); clear BK200; clear HB; have BK200 := n0_; have HB := n1_; clear n0_ n1_; (try clear hb); (try clear hb2); (try clear hk); (try clear hi)) | ((with_reducible refine gate_callee (f := 24) rfl ?_); refine goesL_ (some 13) rfl rfl Try.func24 (by kernel_rfl) rfl #[.agg #[.int .i64 t201, .int .i64 t202]] rfl (by (try simp only [List.map_toArray, List.map_cons, List.map_nil]); first | done | rfl | (simp only [List.length_drop, List.length_take]; rfl)) ?_; (with_reducible refine (impl_timeBack.calls t201 t202 t203 t204 t205 t206 t207 t208 t209 _ A8.out).mono ?_); rintro e w10 ⟨rfl, hb⟩; refine ⟨_, rfl, ?_⟩; have n0_ := Aside0.mk (blk_below (g := gb200) (o := .cells #[.int .i64 0, .int .i64 0, .int .i64 0, .int .i64 0, .int .i64 0, .int .i64 0, .int .i64 0] 23 (0, 0)) (by (with_reducible repeat (first | refine blk_drewN ?_ _ | refine blk_drew ?_ | refine blk_alloc ?_ _)); exact BK200.out) hb); have n1_ := Aside0.mk (below_step (by repeat (first | (with_reducible first | exact HB.out | apply below_alloc | apply pw_below_drewN | apply below_drew1 | refine below_set ?_ GE200.out) | exact HB.out)) hb); clear BK200; clear HB; have BK200 := n0_; have HB := n1_; clear n0_ n1_; (try clear hb); (try clear hb2); (try clear hk); (try clear hi); have hcz11_0 : w10.cell? ⟨gb200, 0, none⟩ = some (.int .i64 0) := (blk_cell BK200.out 0).trans rfl; have hcz11_1 : w10.cell? ⟨gb200, 1, none⟩ = some (.int .i64 0) := (blk_cell BK200.out 1).trans rfl; have hcz11_2 : w10.cell? ⟨gb200, 2, none⟩ = some (.int .i64 0) := (blk_cell BK200.out 2).trans rfl; have hcz11_3 : w10.cell? ⟨gb200, 3, none⟩ = some (.int .i64 0) := (blk_cell BK200.out 3).trans rfl; have hcz11_4 : w10.cell? ⟨gb200, 4, none⟩ = some (.int .i64 0) := (blk_cell BK200.out 4).trans rfl; have hcz11_5 : w10.cell? ⟨gb200, 5, none⟩ = some (.int .i64 0) := (blk_cell BK200.out 5).trans rfl; have hcz11_6 : w10.cell? ⟨gb200, 6, none⟩ = some (.int .i64 0) := (blk_cell BK200.out 6).trans rfl; have hfz11_0 := blk_frozen BK200.out 0; have hfz11_1 := blk_frozen BK200.out 1; have hfz11_2 := blk_frozen BK200.out 2; have hfz11_3 := blk_frozen BK200.out 3; have hfz11_4 := blk_frozen BK200.out 4; have hfz11_5 := blk_frozen BK200.out 5; have hfz11_6 := blk_frozen BK200.out 6))
        refine bodyPost_ret (results_ct rfl _ _ gb200 23 #[.int .i64 t203, .int .i64 t204, .int .i64 t205, .int .i64 t206, .int .i64 t207, .int .i64 t208, .int .i64 t209] (0, 0) _ rfl (by (with_reducible repeat (first | refine blk_drewN ?_ _ | refine blk_drew ?_ | refine blk_alloc ?_ _)); refine blk_put (cs := #[.int .i64 t203, .int .i64 t204, .int .i64 t205, .int .i64 t206, .int .i64 t207, .int .i64 t208, .int .i64 0]) ?_ 6 _ rfl; (with_reducible repeat (first | refine blk_drewN ?_ _ | refine blk_drew ?_ | refine blk_alloc ?_ _)); refine blk_put (cs := #[.int .i64 t203, .int .i64 t204, .int .i64 t205, .int .i64 t206, .int .i64 t207, .int .i64 0, .int .i64 0]) ?_ 5 _ rfl; (with_reducible repeat (first | refine blk_drewN ?_ _ | refine blk_drew ?_ | refine blk_alloc ?_ _)); refine blk_put (cs := #[.int .i64 t203, .int .i64 t204, .int .i64 t205, .int .i64 t206, .int .i64 0, .int .i64 0, .int .i64 0]) ?_ 4 _ rfl; (with_reducible repeat (first | refine blk_drewN ?_ _ | refine blk_drew ?_ | refine blk_alloc ?_ _)); refine blk_put (cs := #[.int .i64 t203, .int .i64 t204, .int .i64 t205, .int .i64 0, .int .i64 0, .int .i64 0, .int .i64 0]) ?_ 3 _ rfl; (with_reducible repeat (first | refine blk_drewN ?_ _ | refine blk_drew ?_ | refine blk_alloc ?_ _)); refine blk_put (cs := #[.int .i64 t203, .int .i64 t204, .int .i64 0, .int .i64 0, .int .i64 0, .int .i64 0, .int .i64 0]) ?_ 2 _ rfl; (with_reducible repeat (first | refine blk_drewN ?_ _ | refine blk_drew ?_ | refine blk_alloc ?_ _)); refine blk_put (cs := #[.int .i64 t203, .int .i64 0, .int .i64 0, .int .i64 0, .int .i64 0, .int .i64 0, .int .i64 0]) ?_ 1 _ rfl; (with_reducible repeat (first | refine blk_drewN ?_ _ | refine blk_drew ?_ | refine blk_alloc ?_ _)); refine blk_put (cs := #[.int .i64 0, .int .i64 0, .int .i64 0, .int .i64 0, .int .i64 0, .int .i64 0, .int .i64 0]) ?_ 0 _ rfl; (with_reducible repeat (first | refine blk_drewN ?_ _ | refine blk_drew ?_ | refine blk_alloc ?_ _)); exact BK200.out) Try.underlying23 rfl (by kernel_rfl)) rfl ?_
        exact ⟨by first | rfl | (simp [errW_none, errW_some] <;> rfl) | (simp [*, errW_none, errW_some] <;> rfl), by repeat (first | (with_reducible first | exact HB.out | apply below_alloc | apply pw_below_drewN | apply below_drew1 | refine below_set ?_ GE200.out) | exact HB.out)⟩

/-! ### spec_JuDateOf: function 13 -/
def spec_JuDateOf.f (k : Nat) (a0 : Int) : Option (Int × Int × Int × Int × Int × Int × Int) := (spec_JuDate.f k a0 (decide (a0 ≥ 2299161))).bind fun bt212 => ((spec_JuMade.f k bt212.1 bt212.2.1 bt212.2.2 0 0 0 0).bind fun bt215 => (some (bt215.1, bt215.2.1, bt215.2.2.1, bt215.2.2.2.1, bt215.2.2.2.2.1, bt215.2.2.2.2.2.1, bt215.2.2.2.2.2.2)))
theorem spec_JuDateOf.mono : ∀ a0 k, LeO (spec_JuDateOf.f k a0) (spec_JuDateOf.f (k + 1) a0) := by
  intro a0 k
  unfold spec_JuDateOf.f
  repeat' first
      | (with_reducible exact spec_JuDate.mono _ _ _)
      | (with_reducible exact spec_JuMade.mono _ _ _ _ _ _ _ _)
      | (with_reducible exact LeO.refl _)
      | (with_reducible exact LeO.none _)
      | (with_reducible refine LeO.ite ?_ ?_)
      | (with_reducible refine LeO.bind ?_ (fun _ => ?_))
      | exact spec_JuDate.mono _ _ _
      | exact spec_JuMade.mono _ _ _ _ _ _ _ _
      | exact LeO.none _
      | refine LeO.ite ?_ ?_
      | refine LeO.bind ?_ (fun _ => ?_)
set_option maxHeartbeats 8000000 in
set_option maxRecDepth 100000 in
theorem spec_JuDateOf.calls (k : Nat) (a0 : Int) (r1 : Int) (r2 : Int) (r3 : Int) (r4 : Int) (r5 : Int) (r6 : Int) (r7 : Int) (w : World) (h : spec_JuDateOf.f k a0 = some (r1, r2, r3, r4, r5, r6, r7)) :
    Calls Try.prog 13 #[.int .i64 a0] w fun e w' => e = .returned (.agg #[.int .i64 r1, .int .i64 r2, .int .i64 r3, .int .i64 r4, .int .i64 r5, .int .i64 r6, .int .i64 r7]) ∧ Below w.heap.size w w' := by
  have hu23 := Try.underlying23
  have HB := Aside0.mk (Below.refl w.heap.size w)
  have H : ((spec_JuDate.f k a0 (decide (a0 ≥ 2299161))).bind fun bt212 => ((spec_JuMade.f k bt212.1 bt212.2.1 bt212.2.2 0 0 0 0).bind fun bt215 => (some (bt215.1, bt215.2.1, bt215.2.2.1, bt215.2.2.2.1, bt215.2.2.2.2.1, bt215.2.2.2.2.2.1, bt215.2.2.2.2.2.2)))) = some (r1, r2, r3, r4, r5, r6, r7) := h
  clear h
  replace H := Option.bind_eq_some_iff.mp H
  obtain ⟨⟨t212, t213, t214⟩, A20, H⟩ := H
  replace H : ((spec_JuMade.f k t212 t213 t214 0 0 0 0).bind fun bt215 => (some (bt215.1, bt215.2.1, bt215.2.2.1, bt215.2.2.2.1, bt215.2.2.2.2.1, bt215.2.2.2.2.2.1, bt215.2.2.2.2.2.2))) = some (r1, r2, r3, r4, r5, r6, r7) := H
  have A2 := Aside0.mk A20
  clear A20
  replace H := Option.bind_eq_some_iff.mp H
  obtain ⟨⟨t215, t216, t217, t218, t219, t220, t221⟩, A30, H⟩ := H
  replace H : (some (t215, t216, t217, t218, t219, t220, t221)) = some (r1, r2, r3, r4, r5, r6, r7) := H
  have A3 := Aside0.mk A30
  clear A30
  simp only [Option.some.injEq, Prod.mk.injEq] at H
  obtain ⟨rfl, rfl, rfl, rfl, rfl, rfl, rfl⟩ := H
  go_enter Try.func13, Try.ntmps13
  go_wp2_with (first | ((with_reducible refine gate_dst (N := 2) rfl ?_); refine box_event ?hg (N := 2) ?hd (cs := #[.int .i64 0, .int .i64 0, .int .i64 0, .int .i64 0, .int .i64 0, .int .i64 0, .int .i64 0]) (t := 23) ?hr ?_; (case hd => rfl); (case hg => rfl); (case hr => first | (go_simp; done) | (go_simp; rfl)); intro gb210 hg w4 hbox hb; have n0_ := Aside0.mk (below_step (by repeat (first | (with_reducible first | exact HB.out | apply below_alloc | apply pw_below_drewN | apply below_drew1) | exact HB.out)) hb); have n1_ := Aside0.mk (hbox); have n2_ := Aside0.mk ((by rw [hg]; exact (below_size (by repeat (first | (with_reducible first | exact HB.out | apply below_alloc | apply pw_below_drewN | apply below_drew1) | exact HB.out))) : w.heap.size ≤ gb210)); have n3_ := Aside0.mk ((by rw [hg]; exact (below_size (by repeat (first | (with_reducible first | exact HB.out | apply below_alloc | apply pw_below_drewN | apply below_drew1) | exact HB.out))) : w.heap.size ≤ gb210)); clear HB; have HB := n0_; have BK210 := n1_; have GW210 := n2_; have GE210 := n3_; clear n0_ n1_ n2_ n3_; clear hb hbox hg) | ((with_reducible refine gate_dst (N := 3) rfl ?_); refine box_event ?hg (N := 3) ?hd (cs := #[.int .i64 0, .int .i64 0, .int .i64 0, .int .i64 0, .int .i64 0, .int .i64 0, .int .i64 0]) (t := 23) ?hr ?_; (case hd => rfl); (case hg => rfl); (case hr => first | (go_simp; done) | (go_simp; rfl)); intro gb211 hg w5 hbox hb; have n0_ := Aside0.mk (blk_below (g := gb210) (o := .cells #[.int .i64 0, .int .i64 0, .int .i64 0, .int .i64 0, .int .i64 0, .int .i64 0, .int .i64 0] 23 (0, 0)) (by (with_reducible repeat (first | refine blk_drewN ?_ _ | refine blk_drew ?_ | refine blk_alloc ?_ _)); exact BK210.out) hb); have n1_ := Aside0.mk (below_step (by repeat (first | (with_reducible first | exact HB.out | apply below_alloc | apply pw_below_drewN | apply below_drew1 | refine below_set ?_ GE210.out) | exact HB.out)) hb); have n2_ := Aside0.mk (hbox); have n3_ := Aside0.mk ((by rw [hg]; exact (below_size (by repeat (first | (with_reducible first | exact HB.out | apply below_alloc | apply pw_below_drewN | apply below_drew1 | refine below_set ?_ GE210.out) | exact HB.out))) : w.heap.size ≤ gb211)); have n4_ := Aside0.mk ((by rw [hg]; exact (below_size (by repeat (first | (with_reducible first | exact HB.out | apply below_alloc | apply pw_below_drewN | apply below_drew1 | refine below_set ?_ GE210.out) | exact HB.out))) : w.heap.size ≤ gb211)); have n5_ := Aside0.mk ((by rw [hg]; exact Nat.ne_of_lt (blk_lt (g := gb210) (o := .cells #[.int .i64 0, .int .i64 0, .int .i64 0, .int .i64 0, .int .i64 0, .int .i64 0, .int .i64 0] 23 (0, 0)) (by (with_reducible repeat (first | refine blk_drewN ?_ _ | refine blk_drew ?_ | refine blk_alloc ?_ _)); exact BK210.out)) : gb210 ≠ gb211)); have n6_ := Aside0.mk ((by rw [hg]; exact Nat.ne_of_gt (blk_lt (g := gb210) (o := .cells #[.int .i64 0, .int .i64 0, .int .i64 0, .int .i64 0, .int .i64 0, .int .i64 0, .int .i64 0] 23 (0, 0)) (by (with_reducible repeat (first | refine blk_drewN ?_ _ | refine blk_drew ?_ | refine blk_alloc ?_ _)); exact BK210.out)) : gb211 ≠ gb210)); clear BK210; clear HB; have BK210 := n0_; have HB := n1_; have BK211 := n2_; have GW211 := n3_; have GE211 := n4_; have NB210_211 := n5_; have NB211_210 := n6_; clear n0_ n1_ n2_ n3_ n4_ n5_ n6_; clear hb hbox hg) | ((with_reducible refine gate_callee (f := 26) rfl ?_); refine goesL_ (some 8) rfl rfl Try.func26 (by kernel_rfl) rfl #[.int .i64 a0, .bool (decide (a0 ≥ 2299161))] rfl (by (try simp only [List.map_toArray, List.map_cons, List.map_nil]); first | done | rfl | (simp only [List.length_drop, List.length_take]; rfl)) ?_; (with_reducible refine (spec_JuDate.calls k a0 (decide (a0 ≥ 2299161)) t212 t213 t214 _ A2.out).mono ?_); rintro e w' ⟨rfl, ⟨nd, rfl⟩⟩; refine ⟨_, rfl, ?_⟩; (try (rw [drewN_self w5]; generalize hq_ : World.drewN w5 _ = w5; have n0_ : Aside0 (w5.heap[gb210]? = some (.cells #[.int .i64 0, .int .i64 0, .int .i64 0, .int .i64 0, .int .i64 0, .int .i64 0, .int .i64 0] 23 (0, 0))) := ⟨by rw [← hq_]; exact (by (with_reducible repeat (first | refine blk_drewN ?_ _ | refine blk_drew ?_ | refine blk_alloc ?_ _)); exact BK210.out)⟩; have n1_ : Aside0 (w5.heap[gb211]? = some (.cells #[.int .i64 0, .int .i64 0, .int .i64 0, .int .i64 0, .int .i64 0, .int .i64 0, .int .i64 0] 23 (0, 0))) := ⟨by rw [← hq_]; exact (by (with_reducible repeat (first | refine blk_drewN ?_ _ | refine blk_drew ?_ | refine blk_alloc ?_ _)); exact BK211.out)⟩; have n2_ : Aside0 (Below w.heap.size w w5) := ⟨by rw [← hq_]; exact (by repeat (first | (with_reducible first | exact HB.out | apply below_alloc | apply pw_below_drewN | apply below_drew1 | refine below_set ?_ GE210.out | refine below_set ?_ GE211.out) | exact HB.out))⟩; clear BK210 BK211 HB hq_; have BK210 := n0_; have BK211 := n1_; have HB := n2_; clear n0_ n1_ n2_)); have hnb6 := NB211_210.out; have hnc6 := NB210_211.out; have hcz7_0 : w5.cell? ⟨gb211, 0, none⟩ = some (.int .i64 0) := (blk_cell BK211.out 0).trans rfl; have hcz7_1 : w5.cell? ⟨gb211, 1, none⟩ = some (.int .i64 0) := (blk_cell BK211.out 1).trans rfl; have hcz7_2 : w5.cell? ⟨gb211, 2, none⟩ = some (.int .i64 0) := (blk_cell BK211.out 2).trans rfl; have hcz7_3 : w5.cell? ⟨gb211, 3, none⟩ = some (.int .i64 0) := (blk_cell BK211.out 3).trans rfl; have hcz7_4 : w5.cell? ⟨gb211, 4, none⟩ = some (.int .i64 0) := (blk_cell BK211.out 4).trans rfl; have hcz7_5 : w5.cell? ⟨gb211, 5, none⟩ = some (.int .i64 0) := (blk_cell BK211.out 5).trans rfl; have hcz7_6 : w5.cell? ⟨gb211, 6, none⟩ = some (.int .i64 0) := (blk_cell BK211.out 6).trans rfl; have hfz7_0 := blk_frozen BK211.out 0; have hfz7_1 := blk_frozen BK211.out 1; have hfz7_2 := blk_frozen BK211.out 2; have hfz7_3 := blk_frozen BK211.out 3; have hfz7_4 := blk_frozen BK211.out 4; have hfz7_5 := blk_frozen BK211.out 5; have hfz7_6 := blk_frozen BK211.out 6) | ((with_reducible refine gate_callee (f := 11) rfl ?_); refine goesL_ (some 16) rfl rfl Try.func11 (by kernel_rfl) rfl #[.agg #[.int .i64 t212, .int .i64 t213, .int .i64 t214, .int .i64 0, .int .i64 0, .int .i64 0, .int .i64 0]] rfl (by (try simp only [List.map_toArray, List.map_cons, List.map_nil]); first | done | rfl | (simp only [List.length_drop, List.length_take]; rfl)) ?_; (with_reducible refine (spec_JuMade.calls k t212 t213 t214 0 0 0 0 t215 t216 t217 t218 t219 t220 t221 _ A3.out).mono ?_); rintro e w8 ⟨rfl, hb⟩; refine ⟨_, rfl, ?_⟩; have n0_ := Aside0.mk (blk_below (g := gb210) (o := .cells #[.int .i64 0, .int .i64 0, .int .i64 0, .int .i64 0, .int .i64 0, .int .i64 0, .int .i64 0] 23 (0, 0)) (by (with_reducible repeat (first | refine blk_drewN ?_ _ | refine blk_drew ?_ | refine blk_alloc ?_ _)); refine blk_far ?_ NB210_211.out _; (with_reducible repeat (first | refine blk_drewN ?_ _ | refine blk_drew ?_ | refine blk_alloc ?_ _)); refine blk_far ?_ NB210_211.out _; (with_reducible repeat (first | refine blk_drewN ?_ _ | refine blk_drew ?_ | refine blk_alloc ?_ _)); refine blk_far ?_ NB210_211.out _; (with_reducible repeat (first | refine blk_drewN ?_ _ | refine blk_drew ?_ | refine blk_alloc ?_ _)); exact BK210.out) hb); have n1_ := Aside0.mk (blk_below (g := gb211) (o := .cells #[.int .i64 t212, .int .i64 t213, .int .i64 t214, .int .i64 0, .int .i64 0, .int .i64 0, .int .i64 0] 23 (0, 0)) (by (with_reducible repeat (first | refine blk_drewN ?_ _ | refine blk_drew ?_ | refine blk_alloc ?_ _)); refine blk_put (cs := #[.int .i64 t212, .int .i64 t213, .int .i64 0, .int .i64 0, .int .i64 0, .int .i64 0, .int .i64 0]) ?_ 2 _ rfl; (with_reducible repeat (first | refine blk_drewN ?_ _ | refine blk_drew ?_ | refine blk_alloc ?_ _)); refine blk_put (cs := #[.int .i64 t212, .int .i64 0, .int .i64 0, .int .i64 0, .int .i64 0, .int .i64 0, .int .i64 0]) ?_ 1 _ rfl; (with_reducible repeat (first | refine blk_drewN ?_ _ | refine blk_drew ?_ | refine blk_alloc ?_ _)); refine blk_put (cs := #[.int .i64 0, .int .i64 0, .int .i64 0, .int .i64 0, .int .i64 0, .int .i64 0, .int .i64 0]) ?_ 0 _ rfl; (with_reducible repeat (first | refine blk_drewN ?_ _ | refine blk_drew ?_ | refine blk_alloc ?_ _)); exact BK211.out) hb); have n2_ := Aside0.mk (below_step (by repeat (first | (with_reducible first | exact HB.out | apply below_alloc | apply pw_below_drewN | apply below_drew1 | refine below_set ?_ GE210.out | refine below_set ?_ GE211.out) | exact HB.out)) hb); clear BK210; clear BK211; clear HB; have BK210 := n0_; have BK211 := n1_; have HB := n2_; clear n0_ n1_ n2_; (try clear hb); (try clear hb2); (try clear hk); (try clear hi); have hcz9_0 : w8.cell? ⟨gb210, 0, none⟩ = some (.int .i64 0) := (blk_cell BK210.out 0).trans rfl; have hcz9_1 : w8.cell? ⟨gb210, 1, none⟩ = some (.int .i64 0) := (blk_cell BK210.out 1).trans rfl; have hcz9_2 : w8.cell? ⟨gb210, 2, none⟩ = some (.int .i64 0) := (blk_cell BK210.out 2).trans rfl; have hcz9_3 : w8.cell? ⟨gb210, 3, none⟩ = some (.int .i64 0) := (blk_cell BK210.out 3).trans rfl; have hcz9_4 : w8.cell? ⟨gb210, 4, none⟩ = some (.int .i64 0) := (blk_cell BK210.out 4).trans rfl; have hcz9_5 : w8.cell? ⟨gb210, 5, none⟩ = some (.int .i64 0) := (blk_cell BK210.out 5).trans rfl; have hcz9_6 : w8.cell? ⟨gb210, 6, none⟩ = some (.int .i64 0) := (blk_cell BK210.out 6).trans rfl; have hfz9_0 := blk_frozen BK210.out 0; have hfz9_1 := blk_frozen BK210.out 1; have hfz9_2 := blk_frozen BK210.out 2; have hfz9_3 := blk_frozen BK210.out 3; have hfz9_4 := blk_frozen BK210.out 4; have hfz9_5 := blk_frozen BK210.out 5; have hfz9_6 := blk_frozen BK210.out 6))
  refine bodyPost_ret (results_cell_row rfl _ _ gb210 23 #[.int .i64 t215, .int .i64 t216, .int .i64 t217, .int .i64 t218, .int .i64 t219, .int .i64 t220, .int .i64 t221] (0, 0) _ rfl (by (with_reducible repeat (first | refine blk_drewN ?_ _ | refine blk_drew ?_ | refine blk_alloc ?_ _)); refine blk_put (cs := #[.int .i64 t215, .int .i64 t216, .int .i64 t217, .int .i64 t218, .int .i64 t219, .int .i64 t220, .int .i64 0]) ?_ 6 _ rfl; (with_reducible repeat (first | refine blk_drewN ?_ _ | refine blk_drew ?_ | refine blk_alloc ?_ _)); refine blk_put (cs := #[.int .i64 t215, .int .i64 t216, .int .i64 t217, .int .i64 t218, .int .i64 t219, .int .i64 0, .int .i64 0]) ?_ 5 _ rfl; (with_reducible repeat (first | refine blk_drewN ?_ _ | refine blk_drew ?_ | refine blk_alloc ?_ _)); refine blk_put (cs := #[.int .i64 t215, .int .i64 t216, .int .i64 t217, .int .i64 t218, .int .i64 0, .int .i64 0, .int .i64 0]) ?_ 4 _ rfl; (with_reducible repeat (first | refine blk_drewN ?_ _ | refine blk_drew ?_ | refine blk_alloc ?_ _)); refine blk_put (cs := #[.int .i64 t215, .int .i64 t216, .int .i64 t217, .int .i64 0, .int .i64 0, .int .i64 0, .int .i64 0]) ?_ 3 _ rfl; (with_reducible repeat (first | refine blk_drewN ?_ _ | refine blk_drew ?_ | refine blk_alloc ?_ _)); refine blk_put (cs := #[.int .i64 t215, .int .i64 t216, .int .i64 0, .int .i64 0, .int .i64 0, .int .i64 0, .int .i64 0]) ?_ 2 _ rfl; (with_reducible repeat (first | refine blk_drewN ?_ _ | refine blk_drew ?_ | refine blk_alloc ?_ _)); refine blk_put (cs := #[.int .i64 t215, .int .i64 0, .int .i64 0, .int .i64 0, .int .i64 0, .int .i64 0, .int .i64 0]) ?_ 1 _ rfl; (with_reducible repeat (first | refine blk_drewN ?_ _ | refine blk_drew ?_ | refine blk_alloc ?_ _)); refine blk_put (cs := #[.int .i64 0, .int .i64 0, .int .i64 0, .int .i64 0, .int .i64 0, .int .i64 0, .int .i64 0]) ?_ 0 _ rfl; (with_reducible repeat (first | refine blk_drewN ?_ _ | refine blk_drew ?_ | refine blk_alloc ?_ _)); exact BK210.out) Try.underlying23 rfl (by kernel_rfl)) rfl ?_
  exact ⟨by first | rfl | (simp [errW_none, errW_some] <;> rfl) | (simp [*, errW_none, errW_some] <;> rfl), by repeat (first | (with_reducible first | exact HB.out | apply below_alloc | apply pw_below_drewN | apply below_drew1 | refine below_set ?_ GE210.out | refine below_set ?_ GE211.out) | exact HB.out)⟩

/-! ### laws_FnJulianDate: function 4 -/
def laws_FnJulianDate.f (k : Nat) (a0 : Int) : Option (Bool) := (impl_JulianDate.f k (wrap64 (Int.tmod (IntKind.u64.wrap (a0)) 10000000))).bind fun bt222 => (if bt222.2.2.2.2.2.2.2 = 0 then ((spec_JuDateOf.f k (wrap64 (Int.tmod (IntKind.u64.wrap (a0)) 10000000))).bind fun bt231 => (some (bt222.1 == bt231.1 && (bt222.2.1 == bt231.2.1 && (bt222.2.2.1 == bt231.2.2.1 && (bt222.2.2.2.1 == bt231.2.2.2.1 && (bt222.2.2.2.2.1 == bt231.2.2.2.2.1 && (bt222.2.2.2.2.2.1 == bt231.2.2.2.2.2.1 && (bt222.2.2.2.2.2.2.1 == bt231.2.2.2.2.2.2))))))))) else (some false))
theorem laws_FnJulianDate.mono : ∀ a0 k, LeO (laws_FnJulianDate.f k a0) (laws_FnJulianDate.f (k + 1) a0) := by
  intro a0 k
  unfold laws_FnJulianDate.f
  repeat' first
      | (with_reducible exact impl_JulianDate.mono _ _)
      | (with_reducible exact spec_JuDateOf.mono _ _)
      | (with_reducible exact LeO.refl _)
      | (with_reducible exact LeO.none _)
      | (with_reducible refine LeO.ite ?_ ?_)
      | (with_reducible refine LeO.bind ?_ (fun _ => ?_))
      | exact impl_JulianDate.mono _ _
      | exact spec_JuDateOf.mono _ _
      | exact LeO.none _
      | refine LeO.ite ?_ ?_
      | refine LeO.bind ?_ (fun _ => ?_)
def laws_FnJulianDate.T3 : Bool × List (List Nat × List Nat) := (true, [([], []), ([0], [0]), ([1], [1]), ([2], [2]), ([2], [2]), ([4, 2, 2], [2, 4]), ([3, 5, 2], [2, 3, 5]), ([2, 6], [2, 6]), ([7, 5, 0, 1, 2, 3, 4, 5, 6, 7], [7])])
def laws_FnJulianDate.B3 : List Nat := [0, 1, 3, 7, 7, 23, 63, 127, 255]
theorem laws_FnJulianDate.tab3 : rtab .any (opsOf Try.f4 3) = laws_FnJulianDate.T3 := by kernel_rfl
theorem laws_FnJulianDate.bits3 : waitsOk laws_FnJulianDate.T3.2 laws_FnJulianDate.B3 = true := by kernel_rfl
set_option maxHeartbeats 8000000 in
set_option maxRecDepth 100000 in
theorem laws_FnJulianDate.calls (k : Nat) (a0 : Int) (r : Bool) (w : World) (h : laws_FnJulianDate.f k a0 = some r) :
    Calls Try.prog 4 #[.int .i64 a0] w fun e w' => e = .returned (.bool r) ∧ Below w.heap.size w w' := by
  have hu23 := Try.underlying23
  have HB := Aside0.mk (Below.refl w.heap.size w)
  have H : ((impl_JulianDate.f k (wrap64 (Int.tmod (IntKind.u64.wrap (a0)) 10000000))).bind fun bt222 => (if bt222.2.2.2.2.2.2.2 = 0 then ((spec_JuDateOf.f k (wrap64 (Int.tmod (IntKind.u64.wrap (a0)) 10000000))).bind fun bt231 => (some (bt222.1 == bt231.1 && (bt222.2.1 == bt231.2.1 && (bt222.2.2.1 == bt231.2.2.1 && (bt222.2.2.2.1 == bt231.2.2.2.1 && (bt222.2.2.2.2.1 == bt231.2.2.2.2.1 && (bt222.2.2.2.2.2.1 == bt231.2.2.2.2.2.1 && (bt222.2.2.2.2.2.2.1 == bt231.2.2.2.2.2.2))))))))) else (some false))) = some r := h
  clear h
  replace H := Option.bind_eq_some_iff.mp H
  obtain ⟨⟨t222, t223, t224, t225, t226, t227, t228, t229⟩, A20, H⟩ := H
  replace H : (if t229 = 0 then ((spec_JuDateOf.f k (wrap64 (Int.tmod (IntKind.u64.wrap (a0)) 10000000))).bind fun bt231 => (some (t222 == bt231.1 && (t223 == bt231.2.1 && (t224 == bt231.2.2.1 && (t225 == bt231.2.2.2.1 && (t226 == bt231.2.2.2.2.1 && (t227 == bt231.2.2.2.2.2.1 && (t228 == bt231.2.2.2.2.2.2))))))))) else (some false)) = some r := H
  have A2 := Aside0.mk A20
  clear A20
  by_cases c3 : t229 = 0
  · rw [if_pos c3] at H
    have c3b0 : (t229 == 0) = true := beq_iff_eq.mpr c3
    have c3b1 : (t229 != 0) = false := bne_eq_false_iff_eq.mpr c3
    clear c3
    replace H := Option.bind_eq_some_iff.mp H
    obtain ⟨⟨t231, t232, t233, t234, t235, t236, t237⟩, A40, H⟩ := H
    replace H : (some (t222 == t231 && (t223 == t232 && (t224 == t233 && (t225 == t234 && (t226 == t235 && (t227 == t236 && (t228 == t237)))))))) = some r := H
    have A4 := Aside0.mk A40
    clear A40
    obtain rfl := Option.some.inj H
    go_enter Try.func4, Try.ntmps4
    try go_wp2_with (first | ((with_reducible refine gate_callee (f := 12) rfl ?_); refine goesL_ (some 11) rfl rfl Try.func12 (by kernel_rfl) rfl #[.int .i64 (wrap64 (Int.tmod (IntKind.u64.wrap (a0)) 10000000))] rfl (by (try simp only [List.map_toArray, List.map_cons, List.map_nil]); first | done | rfl | (simp only [List.length_drop, List.length_take]; rfl)) ?_; (with_reducible refine (impl_JulianDate.calls k (wrap64 (Int.tmod (IntKind.u64.wrap (a0)) 10000000)) t222 t223 t224 t225 t226 t227 t228 t229 _ A2.out).mono ?_); rintro e w5 ⟨rfl, hb⟩; refine ⟨_, rfl, ?_⟩; have n0_ := Aside0.mk (below_step (by repeat (first | (with_reducible first | exact HB.out | apply below_alloc | apply pw_below_drewN | apply below_drew1) | exact HB.out)) hb); clear HB; have HB := n0_; clear n0_; (try clear hb); (try clear hb2); (try clear hk); (try clear hi)) | ((with_reducible refine gate_dst (N := 3) rfl ?_); refine box_event ?hg (N := 3) ?hd (cs := #[.int .i64 0, .int .i64 0, .int .i64 0, .int .i64 0, .int .i64 0, .int .i64 0, .int .i64 0]) (t := 23) ?hr ?_; (case hd => rfl); (case hg => rfl); (case hr => first | (go_simp; done) | (go_simp; rfl)); intro gb230 hg w6 hbox hb; have n0_ := Aside0.mk (below_step (by repeat (first | (with_reducible first | exact HB.out | apply below_alloc | apply pw_below_drewN | apply below_drew1) | exact HB.out)) hb); have n1_ := Aside0.mk (hbox); have n2_ := Aside0.mk ((by rw [hg]; exact (below_size (by repeat (first | (with_reducible first | exact HB.out | apply below_alloc | apply pw_below_drewN | apply below_drew1) | exact HB.out))) : w.heap.size ≤ gb230)); have n3_ := Aside0.mk ((by rw [hg]; exact (below_size (by repeat (first | (with_reducible first | exact HB.out | apply below_alloc | apply pw_below_drewN | apply below_drew1) | exact HB.out))) : w.heap.size ≤ gb230)); clear HB; have HB := n0_; have BK230 := n1_; have GW230 := n2_; have GE230 := n3_; clear n0_ n1_ n2_ n3_; clear hb hbox hg; have hcz7_0 : w6.cell? ⟨gb230, 0, none⟩ = some (.int .i64 0) := (blk_cell BK230.out 0).trans rfl; have hcz7_1 : w6.cell? ⟨gb230, 1, none⟩ = some (.int .i64 0) := (blk_cell BK230.out 1).trans rfl; have hcz7_2 : w6.cell? ⟨gb230, 2, none⟩ = some (.int .i64 0) := (blk_cell BK230.out 2).trans rfl; have hcz7_3 : w6.cell? ⟨gb230, 3, none⟩ = some (.int .i64 0) := (blk_cell BK230.out 3).trans rfl; have hcz7_4 : w6.cell? ⟨gb230, 4, none⟩ = some (.int .i64 0) := (blk_cell BK230.out 4).trans rfl; have hcz7_5 : w6.cell? ⟨gb230, 5, none⟩ = some (.int .i64 0) := (blk_cell BK230.out 5).trans rfl; have hcz7_6 : w6.cell? ⟨gb230, 6, none⟩ = some (.int .i64 0) := (blk_cell BK230.out 6).trans rfl; have hfz7_0 := blk_frozen BK230.out 0; have hfz7_1 := blk_frozen BK230.out 1; have hfz7_2 := blk_frozen BK230.out 2; have hfz7_3 := blk_frozen BK230.out 3; have hfz7_4 := blk_frozen BK230.out 4; have hfz7_5 := blk_frozen BK230.out 5; have hfz7_6 := blk_frozen BK230.out 6))
    have n0_ : Aside0 ((((((((w6.setCell ⟨gb230, 0, none⟩ (.int .i64 t222)).setCell ⟨gb230, 1, none⟩ (.int .i64 t223)).setCell ⟨gb230, 2, none⟩ (.int .i64 t224)).setCell ⟨gb230, 3, none⟩ (.int .i64 t225)).setCell ⟨gb230, 4, none⟩ (.int .i64 t226)).setCell ⟨gb230, 5, none⟩ (.int .i64 t227)).setCell ⟨gb230, 6, none⟩ (.int .i64 t228)).heap[gb230]? = some (.cells #[.int .i64 t222, .int .i64 t223, .int .i64 t224, .int .i64 t225, .int .i64 t226, .int .i64 t227, .int .i64 t228] 23 (0, 0))) := ⟨by (with_reducible repeat (first | refine blk_drewN ?_ _ | refine blk_drew ?_ | refine blk_alloc ?_ _)); refine blk_put (cs := #[.int .i64 t222, .int .i64 t223, .int .i64 t224, .int .i64 t225, .int .i64 t226, .int .i64 t227, .int .i64 0]) ?_ 6 _ rfl; (with_reducible repeat (first | refine blk_drewN ?_ _ | refine blk_drew ?_ | refine blk_alloc ?_ _)); refine blk_put (cs := #[.int .i64 t222, .int .i64 t223, .int .i64 t224, .int .i64 t225, .int .i64 t226, .int .i64 0, .int .i64 0]) ?_ 5 _ rfl; (with_reducible repeat (first | refine blk_drewN ?_ _ | refine blk_drew ?_ | refine blk_alloc ?_ _)); refine blk_put (cs := #[.int .i64 t222, .int .i64 t223, .int .i64 t224, .int .i64 t225, .int .i64 0, .int .i64 0, .int .i64 0]) ?_ 4 _ rfl; (with_reducible repeat (first | refine blk_drewN ?_ _ | refine blk_drew ?_ | refine blk_alloc ?_ _)); refine blk_put (cs := #[.int .i64 t222, .int .i64 t223, .int .i64 t224, .int .i64 0, .int .i64 0, .int .i64 0, .int .i64 0]) ?_ 3 _ rfl; (with_reducible repeat (first | refine blk_drewN ?_ _ | refine blk_drew ?_ | refine blk_alloc ?_ _)); refine blk_put (cs := #[.int .i64 t222, .int .i64 t223, .int .i64 0, .int .i64 0, .int .i64 0, .int .i64 0, .int .i64 0]) ?_ 2 _ rfl; (with_reducible repeat (first | refine blk_drewN ?_ _ | refine blk_drew ?_ | refine blk_alloc ?_ _)); refine blk_put (cs := #[.int .i64 t222, .int .i64 0, .int .i64 0, .int .i64 0, .int .i64 0, .int .i64 0, .int .i64 0]) ?_ 1 _ rfl; (with_reducible repeat (first | refine blk_drewN ?_ _ | refine blk_drew ?_ | refine blk_alloc ?_ _)); refine blk_put (cs := #[.int .i64 0, .int .i64 0, .int .i64 0, .int .i64 0, .int .i64 0, .int .i64 0, .int .i64 0]) ?_ 0 _ rfl; (with_reducible repeat (first | refine blk_drewN ?_ _ | refine blk_drew ?_ | refine blk_alloc ?_ _)); exact BK230.out⟩
    have n1_ : Aside0 (Below w.heap.size w (((((((w6.setCell ⟨gb230, 0, none⟩ (.int .i64 t222)).setCell ⟨gb230, 1, none⟩ (.int .i64 t223)).setCell ⟨gb230, 2, none⟩ (.int .i64 t224)).setCell ⟨gb230, 3, none⟩ (.int .i64 t225)).setCell ⟨gb230, 4, none⟩ (.int .i64 t226)).setCell ⟨gb230, 5, none⟩ (.int .i64 t227)).setCell ⟨gb230, 6, none⟩ (.int .i64 t228))) := ⟨by repeat (first | (with_reducible first | exact HB.out | apply below_alloc | apply pw_below_drewN | apply below_drew1 | refine below_set ?_ GE230.out) | exact HB.out)⟩
    (try clear BK230)
    (try clear HB)
    generalize (((((((w6.setCell ⟨gb230, 0, none⟩ (.int .i64 t222)).setCell ⟨gb230, 1, none⟩ (.int .i64 t223)).setCell ⟨gb230, 2, none⟩ (.int .i64 t224)).setCell ⟨gb230, 3, none⟩ (.int .i64 t225)).setCell ⟨gb230, 4, none⟩ (.int .i64 t226)).setCell ⟨gb230, 5, none⟩ (.int .i64 t227)).setCell ⟨gb230, 6, none⟩ (.int .i64 t228)) = w8 at n0_ n1_ ⊢
    have BK230 := n0_
    have HB := n1_
    clear n0_ n1_
    have n0_ := Aside0.mk (blk_drew BK230.out)
    have n1_ := Aside0.mk (below_drew1 HB.out)
    clear BK230
    clear HB
    have BK230 := n0_
    have HB := n1_
    clear n0_ n1_
    refine start_ (n := 9) (S := fun w' => w'.cell? ⟨gb230, 0, none⟩ = some (.int .i64 t222) ∧ w'.cell? ⟨gb230, 1, none⟩ = some (.int .i64 t223) ∧ w'.cell? ⟨gb230, 2, none⟩ = some (.int .i64 t224) ∧ w'.cell? ⟨gb230, 3, none⟩ = some (.int .i64 t225) ∧ w'.cell? ⟨gb230, 4, none⟩ = some (.int .i64 t226) ∧ w'.cell? ⟨gb230, 5, none⟩ = some (.int .i64 t227) ∧ w'.cell? ⟨gb230, 6, none⟩ = some (.int .i64 t228)) (ds := []) #[false, false, false, false, false, false, false, false, false] (by kernel_rfl) rfl rfl ⟨(blk_cell BK230.out 0).trans rfl, (blk_cell BK230.out 1).trans rfl, (blk_cell BK230.out 2).trans rfl, (blk_cell BK230.out 3).trans rfl, (blk_cell BK230.out 4).trans rfl, (blk_cell BK230.out 5).trans rfl, (blk_cell BK230.out 6).trans rfl⟩ (fun hHeld => ?_); refine with_tabW laws_FnJulianDate.tab3 laws_FnJulianDate.bits3 (fun HT_ HW_ => ?_)
    generalize w8.drew = w9 at BK230 HB hHeld ⊢
    refine pure_ (i := 0) (N := some 14) (v := ?_) (a' := ?_) #[true, false, false, false, false, false, false, false, false] rfl rfl (any_of HT_.out (by kernel_rfl)) (fun _ _ _ h => h) (Or.inl ⟨by rfl, ?_⟩) ?_ ?_
    rotate_left
    · intro w'
      go_simp
      with_reducible rfl
    rotate_left
    · simp only [Act.put, List.setIfInBounds_toArray, List.set_cons_zero, List.set_cons_succ, i64_w, i32_w]
      rfl
    refine pure_ (i := 1) (N := some 15) (v := ?_) (a' := ?_) #[true, true, false, false, false, false, false, false, false] rfl rfl (any_of HT_.out (by kernel_rfl)) (fun _ _ _ h => h) (Or.inl ⟨by rfl, ?_⟩) ?_ ?_
    rotate_left
    · intro w'
      go_simp
      with_reducible rfl
    rotate_left
    · simp only [Act.put, List.setIfInBounds_toArray, List.set_cons_zero, List.set_cons_succ, i64_w, i32_w]
      rfl
    refine pure_ (i := 2) (N := some 16) (v := ?_) (a' := ?_) #[true, true, true, false, false, false, false, false, false] rfl rfl (any_of HT_.out (by kernel_rfl)) (fun _ _ _ h => h) (Or.inl ⟨by rfl, ?_⟩) ?_ ?_
    rotate_left
    · intro w'
      go_simp
      with_reducible rfl
    rotate_left
    · simp only [Act.put, List.setIfInBounds_toArray, List.set_cons_zero, List.set_cons_succ, i64_w, i32_w]
      rfl
    refine pure_ (i := 4) (N := some 18) (v := ?_) (a' := ?_) #[true, true, true, false, true, false, false, false, false] rfl rfl (any_of HT_.out (by kernel_rfl)) (fun _ _ _ h => h) (Or.inl ⟨by rfl, ?_⟩) ?_ ?_
    rotate_left
    · intro w'
      go_simp
      with_reducible rfl
    rotate_left
    · simp only [Act.put, List.setIfInBounds_toArray, List.set_cons_zero, List.set_cons_succ, i64_w, i32_w]
      rfl
    refine take_ (i := 3) (N := some 17) (v := ?_) (a' := ?_) #[true, true, true, true, true, false, false, false, false] rfl rfl (take_ofW HT_.out HW_.out (by kernel_rfl)) (fun _ _ _ h => h) (Or.inl ⟨by rfl, ?_⟩) hHeld ?_ ?_
    rotate_left
    · rintro w' ⟨s0, s1, s2, s3, s4, s5, s6⟩
      go_simp
      with_reducible rfl
    rotate_left
    · simp only [Act.put, List.setIfInBounds_toArray, List.set_cons_zero, List.set_cons_succ, i64_w, i32_w]
      rfl
    refine one_ (i := 5) (N := some 19) #[true, true, true, true, true, true, false, false, false] rfl rfl (one_of HT_.out (by kernel_rfl)) (by decide) (fun K hK => ?_)
    refine goes_ Try.func13 (by kernel_rfl) rfl #[.int .i64 (wrap64 (Int.tmod (IntKind.u64.wrap (a0)) 10000000))] (by rfl) rfl rfl (by (try simp only [List.map_toArray, List.map_cons, List.map_nil]); first | done | rfl | (simp only [List.length_drop, List.length_take]; rfl)) ?_
    with_reducible refine (spec_JuDateOf.calls k (wrap64 (Int.tmod (IntKind.u64.wrap (a0)) 10000000)) t231 t232 t233 t234 t235 t236 t237 _ A4.out).mono ?_
    rintro e w10 ⟨rfl, hb⟩
    refine ⟨_, rfl, ?_⟩
    have n0_ := Aside0.mk (blk_below (g := gb230) (o := .cells #[.int .i64 t222, .int .i64 t223, .int .i64 t224, .int .i64 t225, .int .i64 t226, .int .i64 t227, .int .i64 t228] 23 (0, 0)) (by (with_reducible repeat (first | refine blk_drewN ?_ _ | refine blk_drew ?_ | refine blk_alloc ?_ _)); exact BK230.out) hb)
    have n1_ := Aside0.mk (below_step (by repeat (first | (with_reducible first | exact HB.out | apply below_alloc | apply pw_below_drewN | apply below_drew1 | refine below_set ?_ GE230.out) | exact HB.out)) hb)
    clear BK230
    clear HB
    have BK230 := n0_
    have HB := n1_
    clear n0_ n1_
    (try clear hb)
    (try clear hb2)
    (try clear hk)
    (try clear hi)
    refine hK.out _ _ ⟨(blk_cell BK230.out 0).trans rfl, (blk_cell BK230.out 1).trans rfl, (blk_cell BK230.out 2).trans rfl, (blk_cell BK230.out 3).trans rfl, (blk_cell BK230.out 4).trans rfl, (blk_cell BK230.out 5).trans rfl, (blk_cell BK230.out 6).trans rfl⟩ (fun hHeld => ?_)
    clear hK K
    refine norm_ (a' := ?_) ?_ ?_
    rotate_left
    · show Act.put _ (some 19) _ = _
      simp only [Act.put, List.setIfInBounds_toArray, List.set_cons_zero, List.set_cons_succ, i64_w, i32_w]
      rfl
    refine pure_ (i := 6) (N := some 20) (v := ?_) (a' := ?_) #[true, true, true, true, true, true, true, false, false] rfl rfl (any_of HT_.out (by kernel_rfl)) (fun _ _ _ h => h) (Or.inl ⟨by rfl, ?_⟩) ?_ ?_
    rotate_left
    · intro w'
      go_simp
      with_reducible rfl
    rotate_left
    · simp only [Act.put, List.setIfInBounds_toArray, List.set_cons_zero, List.set_cons_succ, i64_w, i32_w]
      rfl
    refine pure_ (i := 7) (N := some 21) (v := ?_) (a' := ?_) #[true, true, true, true, true, true, true, true, false] rfl rfl (any_of HT_.out (by kernel_rfl)) (fun _ _ _ h => h) (Or.inl ⟨by rfl, ?_⟩) ?_ ?_
    rotate_left
    · intro w'
      go_simp
      with_reducible rfl
    rotate_left
    · simp only [Act.put, List.setIfInBounds_toArray, List.set_cons_zero, List.set_cons_succ, i64_w, i32_w]
      rfl
    refine pure_ (i := 8) (N := some 2) (v := ?_) (a' := ?_) #[true, true, true, true, true, true, true, true, true] rfl rfl (any_of HT_.out (by kernel_rfl)) (fun _ _ _ h => h) (Or.inl ⟨by rfl, ?_⟩) ?_ ?_
    rotate_left
    · intro w'
      go_simp
      with_reducible rfl
    rotate_left
    · simp only [Act.put, List.setIfInBounds_toArray, List.set_cons_zero, List.set_cons_succ, i64_w, i32_w]
      rfl
    refine done_ (done_of HT_.out (by kernel_rfl)) ?_
    try go_wp2
    go_ret
    exact ⟨by first | rfl | (simp [errW_none, errW_some] <;> rfl) | (simp [*, errW_none, errW_some] <;> rfl), by repeat (first | (with_reducible first | exact HB.out | apply below_alloc | apply pw_below_drewN | apply below_drew1 | refine below_set ?_ GE230.out) | exact HB.out)⟩
  · rw [if_neg c3] at H
    have c3b0 : (t229 == 0) = false := beq_eq_false_iff_ne.mpr c3
    have c3b1 : (t229 != 0) = true := bne_iff_ne.mpr c3
    obtain rfl := Option.some.inj H
    go_enter Try.func4, Try.ntmps4
    try go_wp2_with (first | ((with_reducible refine gate_callee (f := 12) rfl ?_); refine goesL_ (some 11) rfl rfl Try.func12 (by kernel_rfl) rfl #[.int .i64 (wrap64 (Int.tmod (IntKind.u64.wrap (a0)) 10000000))] rfl (by (try simp only [List.map_toArray, List.map_cons, List.map_nil]); first | done | rfl | (simp only [List.length_drop, List.length_take]; rfl)) ?_; (with_reducible refine (impl_JulianDate.calls k (wrap64 (Int.tmod (IntKind.u64.wrap (a0)) 10000000)) t222 t223 t224 t225 t226 t227 t228 t229 _ A2.out).mono ?_); rintro e w11 ⟨rfl, hb⟩; refine ⟨_, rfl, ?_⟩; have n0_ := Aside0.mk (below_step (by repeat (first | (with_reducible first | exact HB.out | apply below_alloc | apply pw_below_drewN | apply below_drew1) | exact HB.out)) hb); clear HB; have HB := n0_; clear n0_; (try clear hb); (try clear hb2); (try clear hk); (try clear hi)) | ((with_reducible refine gate_dst (N := 3) rfl ?_); refine box_event ?hg (N := 3) ?hd (cs := #[.int .i64 0, .int .i64 0, .int .i64 0, .int .i64 0, .int .i64 0, .int .i64 0, .int .i64 0]) (t := 23) ?hr ?_; (case hd => rfl); (case hg => rfl); (case hr => first | (go_simp; done) | (go_simp; rfl)); intro gb230 hg w12 hbox hb; have n0_ := Aside0.mk (below_step (by repeat (first | (with_reducible first | exact HB.out | apply below_alloc | apply pw_below_drewN | apply below_drew1) | exact HB.out)) hb); have n1_ := Aside0.mk (hbox); have n2_ := Aside0.mk ((by rw [hg]; exact (below_size (by repeat (first | (with_reducible first | exact HB.out | apply below_alloc | apply pw_below_drewN | apply below_drew1) | exact HB.out))) : w.heap.size ≤ gb230)); have n3_ := Aside0.mk ((by rw [hg]; exact (below_size (by repeat (first | (with_reducible first | exact HB.out | apply below_alloc | apply pw_below_drewN | apply below_drew1) | exact HB.out))) : w.heap.size ≤ gb230)); clear HB; have HB := n0_; have BK230 := n1_; have GW230 := n2_; have GE230 := n3_; clear n0_ n1_ n2_ n3_; clear hb hbox hg; have hcz13_0 : w12.cell? ⟨gb230, 0, none⟩ = some (.int .i64 0) := (blk_cell BK230.out 0).trans rfl; have hcz13_1 : w12.cell? ⟨gb230, 1, none⟩ = some (.int .i64 0) := (blk_cell BK230.out 1).trans rfl; have hcz13_2 : w12.cell? ⟨gb230, 2, none⟩ = some (.int .i64 0) := (blk_cell BK230.out 2).trans rfl; have hcz13_3 : w12.cell? ⟨gb230, 3, none⟩ = some (.int .i64 0) := (blk_cell BK230.out 3).trans rfl; have hcz13_4 : w12.cell? ⟨gb230, 4, none⟩ = some (.int .i64 0) := (blk_cell BK230.out 4).trans rfl; have hcz13_5 : w12.cell? ⟨gb230, 5, none⟩ = some (.int .i64 0) := (blk_cell BK230.out 5).trans rfl; have hcz13_6 : w12.cell? ⟨gb230, 6, none⟩ = some (.int .i64 0) := (blk_cell BK230.out 6).trans rfl; have hfz13_0 := blk_frozen BK230.out 0; have hfz13_1 := blk_frozen BK230.out 1; have hfz13_2 := blk_frozen BK230.out 2; have hfz13_3 := blk_frozen BK230.out 3; have hfz13_4 := blk_frozen BK230.out 4; have hfz13_5 := blk_frozen BK230.out 5; have hfz13_6 := blk_frozen BK230.out 6))
    have n0_ : Aside0 ((((((((w12.setCell ⟨gb230, 0, none⟩ (.int .i64 t222)).setCell ⟨gb230, 1, none⟩ (.int .i64 t223)).setCell ⟨gb230, 2, none⟩ (.int .i64 t224)).setCell ⟨gb230, 3, none⟩ (.int .i64 t225)).setCell ⟨gb230, 4, none⟩ (.int .i64 t226)).setCell ⟨gb230, 5, none⟩ (.int .i64 t227)).setCell ⟨gb230, 6, none⟩ (.int .i64 t228)).heap[gb230]? = some (.cells #[.int .i64 t222, .int .i64 t223, .int .i64 t224, .int .i64 t225, .int .i64 t226, .int .i64 t227, .int .i64 t228] 23 (0, 0))) := ⟨by (with_reducible repeat (first | refine blk_drewN ?_ _ | refine blk_drew ?_ | refine blk_alloc ?_ _)); refine blk_put (cs := #[.int .i64 t222, .int .i64 t223, .int .i64 t224, .int .i64 t225, .int .i64 t226, .int .i64 t227, .int .i64 0]) ?_ 6 _ rfl; (with_reducible repeat (first | refine blk_drewN ?_ _ | refine blk_drew ?_ | refine blk_alloc ?_ _)); refine blk_put (cs := #[.int .i64 t222, .int .i64 t223, .int .i64 t224, .int .i64 t225, .int .i64 t226, .int .i64 0, .int .i64 0]) ?_ 5 _ rfl; (with_reducible repeat (first | refine blk_drewN ?_ _ | refine blk_drew ?_ | refine blk_alloc ?_ _)); refine blk_put (cs := #[.int .i64 t222, .int .i64 t223, .int .i64 t224, .int .i64 t225, .int .i64 0, .int .i64 0, .int .i64 0]) ?_ 4 _ rfl; (with_reducible repeat (first | refine blk_drewN ?_ _ | refine blk_drew ?_ | refine blk_alloc ?_ _)); refine blk_put (cs := #[.int .i64 t222, .int .i64 t223, .int .i64 t224, .int .i64 0, .int .i64 0, .int .i64 0, .int .i64 0]) ?_ 3 _ rfl; (with_reducible repeat (first | refine blk_drewN ?_ _ | refine blk_drew ?_ | refine blk_alloc ?_ _)); refine blk_put (cs := #[.int .i64 t222, .int .i64 t223, .int .i64 0, .int .i64 0, .int .i64 0, .int .i64 0, .int .i64 0]) ?_ 2 _ rfl; (with_reducible repeat (first | refine blk_drewN ?_ _ | refine blk_drew ?_ | refine blk_alloc ?_ _)); refine blk_put (cs := #[.int .i64 t222, .int .i64 0, .int .i64 0, .int .i64 0, .int .i64 0, .int .i64 0, .int .i64 0]) ?_ 1 _ rfl; (with_reducible repeat (first | refine blk_drewN ?_ _ | refine blk_drew ?_ | refine blk_alloc ?_ _)); refine blk_put (cs := #[.int .i64 0, .int .i64 0, .int .i64 0, .int .i64 0, .int .i64 0, .int .i64 0, .int .i64 0]) ?_ 0 _ rfl; (with_reducible repeat (first | refine blk_drewN ?_ _ | refine blk_drew ?_ | refine blk_alloc ?_ _)); exact BK230.out⟩
    have n1_ : Aside0 (Below w.heap.size w (((((((w12.setCell ⟨gb230, 0, none⟩ (.int .i64 t222)).setCell ⟨gb230, 1, none⟩ (.int .i64 t223)).setCell ⟨gb230, 2, none⟩ (.int .i64 t224)).setCell ⟨gb230, 3, none⟩ (.int .i64 t225)).setCell ⟨gb230, 4, none⟩ (.int .i64 t226)).setCell ⟨gb230, 5, none⟩ (.int .i64 t227)).setCell ⟨gb230, 6, none⟩ (.int .i64 t228))) := ⟨by repeat (first | (with_reducible first | exact HB.out | apply below_alloc | apply pw_below_drewN | apply below_drew1 | refine below_set ?_ GE230.out) | exact HB.out)⟩
    (try clear BK230)
    (try clear HB)
    generalize (((((((w12.setCell ⟨gb230, 0, none⟩ (.int .i64 t222)).setCell ⟨gb230, 1, none⟩ (.int .i64 t223)).setCell ⟨gb230, 2, none⟩ (.int .i64 t224)).setCell ⟨gb230, 3, none⟩ (.int .i64 t225)).setCell ⟨gb230, 4, none⟩ (.int .i64 t226)).setCell ⟨gb230, 5, none⟩ (.int .i64 t227)).setCell ⟨gb230, 6, none⟩ (.int .i64 t228)) = w14 at n0_ n1_ ⊢
    have BK230 := n0_
    have HB := n1_
    clear n0_ n1_
    have n0_ := Aside0.mk (blk_drew BK230.out)
    have n1_ := Aside0.mk (below_drew1 HB.out)
    clear BK230
    clear HB
    have BK230 := n0_
    have HB := n1_
    clear n0_ n1_
    refine start_ (n := 9) (S := fun w' => True) (ds := []) #[false, false, false, false, false, false, false, false, false] (by kernel_rfl) rfl rfl trivial (fun hHeld => ?_); refine with_tabW laws_FnJulianDate.tab3 laws_FnJulianDate.bits3 (fun HT_ HW_ => ?_)
    generalize w14.drew = w15 at BK230 HB hHeld ⊢
    refine pure_ (i := 0) (N := some 14) (v := ?_) (a' := ?_) #[true, false, false, false, false, false, false, false, false] rfl rfl (any_of HT_.out (by kernel_rfl)) (fun _ _ _ h => h) (Or.inl ⟨by rfl, ?_⟩) ?_ ?_
    rotate_left
    · intro w'
      go_simp
      with_reducible rfl
    rotate_left
    · simp only [Act.put, List.setIfInBounds_toArray, List.set_cons_zero, List.set_cons_succ, i64_w, i32_w]
      rfl
    refine pure_ (i := 1) (N := some 15) (v := ?_) (a' := ?_) #[true, true, false, false, false, false, false, false, false] rfl rfl (any_of HT_.out (by kernel_rfl)) (fun _ _ _ h => h) (Or.inl ⟨by rfl, ?_⟩) ?_ ?_
    rotate_left
    · intro w'
      go_simp
      with_reducible rfl
    rotate_left
    · simp only [Act.put, List.setIfInBounds_toArray, List.set_cons_zero, List.set_cons_succ, i64_w, i32_w]
      rfl
    refine pure_ (i := 2) (N := some 16) (v := ?_) (a' := ?_) #[true, true, true, false, false, false, false, false, false] rfl rfl (any_of HT_.out (by kernel_rfl)) (fun _ _ _ h => h) (Or.inl ⟨by rfl, ?_⟩) ?_ ?_
    rotate_left
    · intro w'
      go_simp
      with_reducible rfl
    rotate_left
    · simp only [Act.put, List.setIfInBounds_toArray, List.set_cons_zero, List.set_cons_succ, i64_w, i32_w]
      rfl
    refine pure_ (i := 3) (N := some 17) (v := undef) (a' := ?_) #[true, true, true, true, false, false, false, false, false] rfl rfl (any_of HT_.out (by kernel_rfl)) (fun _ _ _ h => h) (Or.inr ⟨by rfl, rfl⟩) ?_ ?_
    rotate_left
    · simp only [Act.put, List.setIfInBounds_toArray, List.set_cons_zero, List.set_cons_succ, i64_w, i32_w]
      rfl
    refine pure_ (i := 4) (N := some 18) (v := undef) (a' := ?_) #[true, true, true, true, true, false, false, false, false] rfl rfl (any_of HT_.out (by kernel_rfl)) (fun _ _ _ h => h) (Or.inr ⟨by rfl, rfl⟩) ?_ ?_
    rotate_left
    · simp only [Act.put, List.setIfInBounds_toArray, List.set_cons_zero, List.set_cons_succ, i64_w, i32_w]
      rfl
    refine pure_ (i := 5) (N := some 19) (v := undef) (a' := ?_) #[true, true, true, true, true, true, false, false, false] rfl rfl (any_of HT_.out (by kernel_rfl)) (fun _ _ _ h => h) (Or.inr ⟨by rfl, rfl⟩) ?_ ?_
    rotate_left
    · simp only [Act.put, List.setIfInBounds_toArray, List.set_cons_zero, List.set_cons_succ, i64_w, i32_w]
      rfl
    refine pure_ (i := 6) (N := some 20) (v := undef) (a' := ?_) #[true, true, true, true, true, true, true, false, false] rfl rfl (any_of HT_.out (by kernel_rfl)) (fun _ _ _ h => h) (Or.inr ⟨by rfl, rfl⟩) ?_ ?_
    rotate_left
    · simp only [Act.put, List.setIfInBounds_toArray, List.set_cons_zero, List.set_cons_succ, i64_w, i32_w]
      rfl
    refine pure_ (i := 7) (N := some 21) (v := ?_) (a' := ?_) #[true, true, true, true, true, true, true, true, false] rfl rfl (any_of HT_.out (by kernel_rfl)) (fun _ _ _ h => h) (Or.inl ⟨by rfl, ?_⟩) ?_ ?_
    rotate_left
    · intro w'
      go_simp
      with_reducible rfl
    rotate_left
    · simp only [Act.put, List.setIfInBounds_toArray, List.set_cons_zero, List.set_cons_succ, i64_w, i32_w]
      rfl
    refine pure_ (i := 8) (N := some 2) (v := ?_) (a' := ?_) #[true, true, true, true, true, true, true, true, true] rfl rfl (any_of HT_.out (by kernel_rfl)) (fun _ _ _ h => h) (Or.inl ⟨by rfl, ?_⟩) ?_ ?_
    rotate_left
    · intro w'
      go_simp
      with_reducible rfl
    rotate_left
    · simp only [Act.put, List.setIfInBounds_toArray, List.set_cons_zero, List.set_cons_succ, i64_w, i32_w]
      rfl
    refine done_ (done_of HT_.out (by kernel_rfl)) ?_
    try go_wp2
    go_ret
    exact ⟨by first | rfl | (simp [errW_none, errW_some] <;> rfl) | (simp [*, errW_none, errW_some] <;> rfl), by repeat (first | (with_reducible first | exact HB.out | apply below_alloc | apply pw_below_drewN | apply below_drew1 | refine below_set ?_ GE230.out) | exact HB.out)⟩

/-- THE ONE PURE STATEMENT of laws_FnJulianDate: yours. -/
def laws_FnJulianDate.Pure : Prop := ∀ (a0 : Int), (Lit.int .i64 a0).wf = true → ∃ k, laws_FnJulianDate.f k a0 = some true
theorem laws_FnJulianDate.walk (P : laws_FnJulianDate.Pure) (a0 : Int) (w : World) (w0 : (Lit.int .i64 a0).wf = true) :
    Calls Try.prog 4 #[.int .i64 a0] w fun e w' => e = .returned (.bool true) ∧ Below w.heap.size w w' := by
  obtain ⟨k, h⟩ := P a0 w0
  refine (laws_FnJulianDate.calls k a0 true w h).mono ?_
  rintro e w' ⟨rfl, hd⟩
  exact ⟨rfl, hd⟩

/-! ### zztime_Time_Year: function 31 -/
def zztime_Time_Year.f (a0_0 : Int) (a0_1 : Int) : Option (Int) := (zztime_Time_Date.f a0_0 a0_1).bind fun bt239 => (some bt239.1)
set_option maxHeartbeats 8000000 in
set_option maxRecDepth 100000 in
theorem zztime_Time_Year.calls (a0_0 : Int) (a0_1 : Int) (r : Int) (w : World) (h : zztime_Time_Year.f a0_0 a0_1 = some r) :
    Calls Try.prog 31 #[.agg #[.int .i64 a0_0, .int .i64 a0_1]] w fun e w' => e = .returned (.int .i64 r) ∧ Below w.heap.size w w' := by
  have hu42 := Try.underlying42
  have HB := Aside0.mk (Below.refl w.heap.size w)
  have H : ((zztime_Time_Date.f a0_0 a0_1).bind fun bt239 => (some bt239.1)) = some r := h
  clear h
  replace H := Option.bind_eq_some_iff.mp H
  obtain ⟨⟨t239, t240, t241⟩, A20, H⟩ := H
  replace H : (some t239) = some r := H
  have A2 := Aside0.mk A20
  clear A20
  obtain rfl := Option.some.inj H
  go_enter Try.func31, Try.ntmps31
  go_wp2_with (first | ((with_reducible refine gate_dst (N := 1) rfl ?_); refine box_event ?hg (N := 1) ?hd (cs := #[.int .i64 a0_0, .int .i64 a0_1]) (t := 42) ?hr ?_; (case hd => rfl); (case hg => rfl); (case hr => first | (go_simp; done) | (go_simp; rfl)); intro gb238 hg w3 hbox hb; have n0_ := Aside0.mk (below_step (by repeat (first | (with_reducible first | exact HB.out | apply below_alloc | apply pw_below_drewN | apply below_drew1) | exact HB.out)) hb); have n1_ := Aside0.mk (hbox); have n2_ := Aside0.mk ((by rw [hg]; exact (below_size (by repeat (first | (with_reducible first | exact HB.out | apply below_alloc | apply pw_below_drewN | apply below_drew1) | exact HB.out))) : w.heap.size ≤ gb238)); have n3_ := Aside0.mk ((by rw [hg]; exact (below_size (by repeat (first | (with_reducible first | exact HB.out | apply below_alloc | apply pw_below_drewN | apply below_drew1) | exact HB.out))) : w.heap.size ≤ gb238)); clear HB; have HB := n0_; have BK238 := n1_; have GW238 := n2_; have GE238 := n3_; clear n0_ n1_ n2_ n3_; clear hb hbox hg; have hcz4_0 : w3.cell? ⟨gb238, 0, none⟩ = some (.int .i64 a0_0) := (blk_cell BK238.out 0).trans rfl; have hcz4_1 : w3.cell? ⟨gb238, 1, none⟩ = some (.int .i64 a0_1) := (blk_cell BK238.out 1).trans rfl; have hfz4_0 := blk_frozen BK238.out 0; have hfz4_1 := blk_frozen BK238.out 1) | ((with_reducible refine gate_callee (f := 41) rfl ?_); refine goesL_ (some 8) rfl rfl Try.func41 (by kernel_rfl) rfl #[.agg #[.int .i64 a0_0, .int .i64 a0_1]] rfl (by (try simp only [List.map_toArray, List.map_cons, List.map_nil]); first | done | rfl | (simp only [List.length_drop, List.length_take]; rfl)) ?_; (with_reducible refine (zztime_Time_Date.calls a0_0 a0_1 t239 t240 t241 _ A2.out).mono ?_); rintro e w5 ⟨rfl, hb⟩; refine ⟨_, rfl, ?_⟩; have n0_ := Aside0.mk (blk_below (g := gb238) (o := .cells #[.int .i64 a0_0, .int .i64 a0_1] 42 (0, 0)) (by (with_reducible repeat (first | refine blk_drewN ?_ _ | refine blk_drew ?_ | refine blk_alloc ?_ _)); exact BK238.out) hb); have n1_ := Aside0.mk (below_step (by repeat (first | (with_reducible first | exact HB.out | apply below_alloc | apply pw_below_drewN | apply below_drew1 | refine below_set ?_ GE238.out) | exact HB.out)) hb); clear BK238; clear HB; have BK238 := n0_; have HB := n1_; clear n0_ n1_; (try clear hb); (try clear hb2); (try clear hk); (try clear hi)))
  go_ret
  exact ⟨by first | rfl | (simp [errW_none, errW_some] <;> rfl) | (simp [*, errW_none, errW_some] <;> rfl), by repeat (first | (with_reducible first | exact HB.out | apply below_alloc | apply pw_below_drewN | apply below_drew1 | refine below_set ?_ GE238.out) | exact HB.out)⟩

/-! ### zztime_Time_UTC: function 46 -/
def zztime_Time_UTC.f (a0_0 : Int) (a0_1 : Int) : Option (Int × Int) := some (a0_0, a0_1)
set_option maxHeartbeats 8000000 in
set_option maxRecDepth 100000 in
theorem zztime_Time_UTC.calls (a0_0 : Int) (a0_1 : Int) (r1 : Int) (r2 : Int) (w : World) (h : zztime_Time_UTC.f a0_0 a0_1 = some (r1, r2)) :
    Calls Try.prog 46 #[.agg #[.int .i64 a0_0, .int .i64 a0_1]] w fun e w' => e = .returned (.agg #[.int .i64 r1, .int .i64 r2]) ∧ Below w.heap.size w w' := by
  have hu42 := Try.underlying42
  have HB := Aside0.mk (Below.refl w.heap.size w)
  have H : (some (a0_0, a0_1)) = some (r1, r2) := h
  clear h
  simp only [Option.some.injEq, Prod.mk.injEq] at H
  obtain ⟨rfl, rfl⟩ := H
  go_enter Try.func46, Try.ntmps46
  go_wp2_with (first | ((with_reducible refine gate_dst (N := 1) rfl ?_); refine box_event ?hg (N := 1) ?hd (cs := #[.int .i64 a0_0, .int .i64 a0_1]) (t := 42) ?hr ?_; (case hd => rfl); (case hg => rfl); (case hr => first | (go_simp; done) | (go_simp; rfl)); intro gb242 hg w2 hbox hb; have n0_ := Aside0.mk (below_step (by repeat (first | (with_reducible first | exact HB.out | apply below_alloc | apply pw_below_drewN | apply below_drew1) | exact HB.out)) hb); have n1_ := Aside0.mk (hbox); have n2_ := Aside0.mk ((by rw [hg]; exact (below_size (by repeat (first | (with_reducible first | exact HB.out | apply below_alloc | apply pw_below_drewN | apply below_drew1) | exact HB.out))) : w.heap.size ≤ gb242)); have n3_ := Aside0.mk ((by rw [hg]; exact (below_size (by repeat (first | (with_reducible first | exact HB.out | apply below_alloc | apply pw_below_drewN | apply below_drew1) | exact HB.out))) : w.heap.size ≤ gb242)); clear HB; have HB := n0_; have BK242 := n1_; have GW242 := n2_; have GE242 := n3_; clear n0_ n1_ n2_ n3_; clear hb hbox hg) | ((with_reducible refine gate_dst (N := 2) rfl ?_); refine box_event ?hg (N := 2) ?hd (cs := #[.int .i64 0, .int .i64 0]) (t := 42) ?hr ?_; (case hd => rfl); (case hg => rfl); (case hr => first | (go_simp; done) | (go_simp; rfl)); intro gb243 hg w3 hbox hb; have n0_ := Aside0.mk (blk_below (g := gb242) (o := .cells #[.int .i64 a0_0, .int .i64 a0_1] 42 (0, 0)) (by (with_reducible repeat (first | refine blk_drewN ?_ _ | refine blk_drew ?_ | refine blk_alloc ?_ _)); exact BK242.out) hb); have n1_ := Aside0.mk (below_step (by repeat (first | (with_reducible first | exact HB.out | apply below_alloc | apply pw_below_drewN | apply below_drew1 | refine below_set ?_ GE242.out) | exact HB.out)) hb); have n2_ := Aside0.mk (hbox); have n3_ := Aside0.mk ((by rw [hg]; exact (below_size (by repeat (first | (with_reducible first | exact HB.out | apply below_alloc | apply pw_below_drewN | apply below_drew1 | refine below_set ?_ GE242.out) | exact HB.out))) : w.heap.size ≤ gb243)); have n4_ := Aside0.mk ((by rw [hg]; exact (below_size (by repeat (first | (with_reducible first | exact HB.out | apply below_alloc | apply pw_below_drewN | apply below_drew1 | refine below_set ?_ GE242.out) | exact HB.out))) : w.heap.size ≤ gb243)); have n5_ := Aside0.mk ((by rw [hg]; exact Nat.ne_of_lt (blk_lt (g := gb242) (o := .cells #[.int .i64 a0_0, .int .i64 a0_1] 42 (0, 0)) (by (with_reducible repeat (first | refine blk_drewN ?_ _ | refine blk_drew ?_ | refine blk_alloc ?_ _)); exact BK242.out)) : gb242 ≠ gb243)); have n6_ := Aside0.mk ((by rw [hg]; exact Nat.ne_of_gt (blk_lt (g := gb242) (o := .cells #[.int .i64 a0_0, .int .i64 a0_1] 42 (0, 0)) (by (with_reducible repeat (first | refine blk_drewN ?_ _ | refine blk_drew ?_ | refine blk_alloc ?_ _)); exact BK242.out)) : gb243 ≠ gb242)); clear BK242; clear HB; have BK242 := n0_; have HB := n1_; have BK243 := n2_; have GW243 := n3_; have GE243 := n4_; have NB242_243 := n5_; have NB243_242 := n6_; clear n0_ n1_ n2_ n3_ n4_ n5_ n6_; clear hb hbox hg; have hnb4 := NB242_243.out; have hnc4 := NB243_242.out; have hcz5_0 : w3.cell? ⟨gb242, 0, none⟩ = some (.int .i64 a0_0) := (blk_cell BK242.out 0).trans rfl; have hcz5_1 : w3.cell? ⟨gb242, 1, none⟩ = some (.int .i64 a0_1) := (blk_cell BK242.out 1).trans rfl; have hfz5_0 := blk_frozen BK242.out 0; have hfz5_1 := blk_frozen BK242.out 1; have hcz6_0 : w3.cell? ⟨gb243, 0, none⟩ = some (.int .i64 0) := (blk_cell BK243.out 0).trans rfl; have hcz6_1 : w3.cell? ⟨gb243, 1, none⟩ = some (.int .i64 0) := (blk_cell BK243.out 1).trans rfl; have hfz6_0 := blk_frozen BK243.out 0; have hfz6_1 := blk_frozen BK243.out 1))
  refine bodyPost_ret (results_cell_row rfl _ _ gb243 42 #[.int .i64 a0_0, .int .i64 a0_1] (0, 0) _ rfl (by (with_reducible repeat (first | refine blk_drewN ?_ _ | refine blk_drew ?_ | refine blk_alloc ?_ _)); refine blk_put (cs := #[.int .i64 a0_0, .int .i64 0]) ?_ 1 _ rfl; (with_reducible repeat (first | refine blk_drewN ?_ _ | refine blk_drew ?_ | refine blk_alloc ?_ _)); refine blk_put (cs := #[.int .i64 0, .int .i64 0]) ?_ 0 _ rfl; (with_reducible repeat (first | refine blk_drewN ?_ _ | refine blk_drew ?_ | refine blk_alloc ?_ _)); exact BK243.out) Try.underlying42 rfl (by kernel_rfl)) rfl ?_
  exact ⟨by first | rfl | (simp [errW_none, errW_some] <;> rfl) | (simp [*, errW_none, errW_some] <;> rfl), by repeat (first | (with_reducible first | exact HB.out | apply below_alloc | apply pw_below_drewN | apply below_drew1 | refine below_set ?_ GE242.out | refine below_set ?_ GE243.out) | exact HB.out)⟩

/-! ### zztime_Time_Month: function 47 -/
def zztime_Time_Month.f (a0_0 : Int) (a0_1 : Int) : Option (Int) := (zztime_Time_Date.f a0_0 a0_1).bind fun bt245 => (some bt245.2.1)
set_option maxHeartbeats 8000000 in
set_option maxRecDepth 100000 in
theorem zztime_Time_Month.calls (a0_0 : Int) (a0_1 : Int) (r : Int) (w : World) (h : zztime_Time_Month.f a0_0 a0_1 = some r) :
    Calls Try.prog 47 #[.agg #[.int .i64 a0_0, .int .i64 a0_1]] w fun e w' => e = .returned (.int .i64 r) ∧ Below w.heap.size w w' := by
  have hu42 := Try.underlying42
  have HB := Aside0.mk (Below.refl w.heap.size w)
  have H : ((zztime_Time_Date.f a0_0 a0_1).bind fun bt245 => (some bt245.2.1)) = some r := h
  clear h
  replace H := Option.bind_eq_some_iff.mp H
  obtain ⟨⟨t245, t246, t247⟩, A20, H⟩ := H
  replace H : (some t246) = some r := H
  have A2 := Aside0.mk A20
  clear A20
  obtain rfl := Option.some.inj H
  go_enter Try.func47, Try.ntmps47
  go_wp2_with (first | ((with_reducible refine gate_dst (N := 1) rfl ?_); refine box_event ?hg (N := 1) ?hd (cs := #[.int .i64 a0_0, .int .i64 a0_1]) (t := 42) ?hr ?_; (case hd => rfl); (case hg => rfl); (case hr => first | (go_simp; done) | (go_simp; rfl)); intro gb244 hg w3 hbox hb; have n0_ := Aside0.mk (below_step (by repeat (first | (with_reducible first | exact HB.out | apply below_alloc | apply pw_below_drewN | apply below_drew1) | exact HB.out)) hb); have n1_ := Aside0.mk (hbox); have n2_ := Aside0.mk ((by rw [hg]; exact (below_size (by repeat (first | (with_reducible first | exact HB.out | apply below_alloc | apply pw_below_drewN | apply below_drew1) | exact HB.out))) : w.heap.size ≤ gb244)); have n3_ := Aside0.mk ((by rw [hg]; exact (below_size (by repeat (first | (with_reducible first | exact HB.out | apply below_alloc | apply pw_below_drewN | apply below_drew1) | exact HB.out))) : w.heap.size ≤ gb244)); clear HB; have HB := n0_; have BK244 := n1_; have GW244 := n2_; have GE244 := n3_; clear n0_ n1_ n2_ n3_; clear hb hbox hg; have hcz4_0 : w3.cell? ⟨gb244, 0, none⟩ = some (.int .i64 a0_0) := (blk_cell BK244.out 0).trans rfl; have hcz4_1 : w3.cell? ⟨gb244, 1, none⟩ = some (.int .i64 a0_1) := (blk_cell BK244.out 1).trans rfl; have hfz4_0 := blk_frozen BK244.out 0; have hfz4_1 := blk_frozen BK244.out 1) | ((with_reducible refine gate_callee (f := 41) rfl ?_); refine goesL_ (some 8) rfl rfl Try.func41 (by kernel_rfl) rfl #[.agg #[.int .i64 a0_0, .int .i64 a0_1]] rfl (by (try simp only [List.map_toArray, List.map_cons, List.map_nil]); first | done | rfl | (simp only [List.length_drop, List.length_take]; rfl)) ?_; (with_reducible refine (zztime_Time_Date.calls a0_0 a0_1 t245 t246 t247 _ A2.out).mono ?_); rintro e w5 ⟨rfl, hb⟩; refine ⟨_, rfl, ?_⟩; have n0_ := Aside0.mk (blk_below (g := gb244) (o := .cells #[.int .i64 a0_0, .int .i64 a0_1] 42 (0, 0)) (by (with_reducible repeat (first | refine blk_drewN ?_ _ | refine blk_drew ?_ | refine blk_alloc ?_ _)); exact BK244.out) hb); have n1_ := Aside0.mk (below_step (by repeat (first | (with_reducible first | exact HB.out | apply below_alloc | apply pw_below_drewN | apply below_drew1 | refine below_set ?_ GE244.out) | exact HB.out)) hb); clear BK244; clear HB; have BK244 := n0_; have HB := n1_; clear n0_ n1_; (try clear hb); (try clear hb2); (try clear hk); (try clear hi)))
  go_ret
  exact ⟨by first | rfl | (simp [errW_none, errW_some] <;> rfl) | (simp [*, errW_none, errW_some] <;> rfl), by repeat (first | (with_reducible first | exact HB.out | apply below_alloc | apply pw_below_drewN | apply below_drew1 | refine below_set ?_ GE244.out) | exact HB.out)⟩

/-! ### zztime_Time_Before: function 48 -/
def zztime_Time_Before.f (a0_0 : Int) (a0_1 : Int) (a1_0 : Int) (a1_1 : Int) : Option (Bool) := if a0_0 < a1_0 then (some true) else (if a0_0 = a1_0 then (some (decide (a0_1 < a1_1))) else (some false))
set_option maxHeartbeats 8000000 in
set_option maxRecDepth 100000 in
theorem zztime_Time_Before.calls (a0_0 : Int) (a0_1 : Int) (a1_0 : Int) (a1_1 : Int) (r : Bool) (w : World) (h : zztime_Time_Before.f a0_0 a0_1 a1_0 a1_1 = some r) :
    Calls Try.prog 48 #[.agg #[.int .i64 a0_0, .int .i64 a0_1], .agg #[.int .i64 a1_0, .int .i64 a1_1]] w fun e w' => e = .returned (.bool r) ∧ Below w.heap.size w w' := by
  have hu42 := Try.underlying42
  have HB := Aside0.mk (Below.refl w.heap.size w)
  have H : (if a0_0 < a1_0 then (some true) else (if a0_0 = a1_0 then (some (decide (a0_1 < a1_1))) else (some false))) = some r := h
  clear h
  by_cases c3 : a0_0 < a1_0
  · rw [if_pos c3] at H
    have c3b0 : decide (a0_0 < a1_0) = true := decide_eq_true c3
    clear c3
    obtain rfl := Option.some.inj H
    go_enter Try.func48, Try.ntmps48
    go_wp2_with (first | ((with_reducible refine gate_dst (N := 2) rfl ?_); refine box_event ?hg (N := 2) ?hd (cs := #[.int .i64 a0_0, .int .i64 a0_1]) (t := 42) ?hr ?_; (case hd => rfl); (case hg => rfl); (case hr => first | (go_simp; done) | (go_simp; rfl)); intro gb248 hg w4 hbox hb; have n0_ := Aside0.mk (below_step (by repeat (first | (with_reducible first | exact HB.out | apply below_alloc | apply pw_below_drewN | apply below_drew1) | exact HB.out)) hb); have n1_ := Aside0.mk (hbox); have n2_ := Aside0.mk ((by rw [hg]; exact (below_size (by repeat (first | (with_reducible first | exact HB.out | apply below_alloc | apply pw_below_drewN | apply below_drew1) | exact HB.out))) : w.heap.size ≤ gb248)); have n3_ := Aside0.mk ((by rw [hg]; exact (below_size (by repeat (first | (with_reducible first | exact HB.out | apply below_alloc | apply pw_below_drewN | apply below_drew1) | exact HB.out))) : w.heap.size ≤ gb248)); clear HB; have HB := n0_; have BK248 := n1_; have GW248 := n2_; have GE248 := n3_; clear n0_ n1_ n2_ n3_; clear hb hbox hg) | ((with_reducible refine gate_dst (N := 3) rfl ?_); refine box_event ?hg (N := 3) ?hd (cs := #[.int .i64 a1_0, .int .i64 a1_1]) (t := 42) ?hr ?_; (case hd => rfl); (case hg => rfl); (case hr => first | (go_simp; done) | (go_simp; rfl)); intro gb249 hg w5 hbox hb; have n0_ := Aside0.mk (blk_below (g := gb248) (o := .cells #[.int .i64 a0_0, .int .i64 a0_1] 42 (0, 0)) (by (with_reducible repeat (first | refine blk_drewN ?_ _ | refine blk_drew ?_ | refine blk_alloc ?_ _)); exact BK248.out) hb); have n1_ := Aside0.mk (below_step (by repeat (first | (with_reducible first | exact HB.out | apply below_alloc | apply pw_below_drewN | apply below_drew1 | refine below_set ?_ GE248.out) | exact HB.out)) hb); have n2_ := Aside0.mk (hbox); have n3_ := Aside0.mk ((by rw [hg]; exact (below_size (by repeat (first | (with_reducible first | exact HB.out | apply below_alloc | apply pw_below_drewN | apply below_drew1 | refine below_set ?_ GE248.out) | exact HB.out))) : w.heap.size ≤ gb249)); have n4_ := Aside0.mk ((by rw [hg]; exact (below_size (by repeat (first | (with_reducible first | exact HB.out | apply below_alloc | apply pw_below_drewN | apply below_drew1 | refine below_set ?_ GE248.out) | exact HB.out))) : w.heap.size ≤ gb249)); have n5_ := Aside0.mk ((by rw [hg]; exact Nat.ne_of_lt (blk_lt (g := gb248) (o := .cells #[.int .i64 a0_0, .int .i64 a0_1] 42 (0, 0)) (by (with_reducible repeat (first | refine blk_drewN ?_ _ | refine blk_drew ?_ | refine blk_alloc ?_ _)); exact BK248.out)) : gb248 ≠ gb249)); have n6_ := Aside0.mk ((by rw [hg]; exact Nat.ne_of_gt (blk_lt (g := gb248) (o := .cells #[.int .i64 a0_0, .int .i64 a0_1] 42 (0, 0)) (by (with_reducible repeat (first | refine blk_drewN ?_ _ | refine blk_drew ?_ | refine blk_alloc ?_ _)); exact BK248.out)) : gb249 ≠ gb248)); clear BK248; clear HB; have BK248 := n0_; have HB := n1_; have BK249 := n2_; have GW249 := n3_; have GE249 := n4_; have NB248_249 := n5_; have NB249_248 := n6_; clear n0_ n1_ n2_ n3_ n4_ n5_ n6_; clear hb hbox hg; have hnb6 := NB248_249.out; have hnc6 := NB249_248.out; have hcz7_0 : w5.cell? ⟨gb248, 0, none⟩ = some (.int .i64 a0_0) := (blk_cell BK248.out 0).trans rfl; have hcz7_1 : w5.cell? ⟨gb248, 1, none⟩ = some (.int .i64 a0_1) := (blk_cell BK248.out 1).trans rfl; have hfz7_0 := blk_frozen BK248.out 0; have hfz7_1 := blk_frozen BK248.out 1; have hcz8_0 : w5.cell? ⟨gb249, 0, none⟩ = some (.int .i64 a1_0) := (blk_cell BK249.out 0).trans rfl; have hcz8_1 : w5.cell? ⟨gb249, 1, none⟩ = some (.int .i64 a1_1) := (blk_cell BK249.out 1).trans rfl; have hfz8_0 := blk_frozen BK249.out 0; have hfz8_1 := blk_frozen BK249.out 1))
    go_ret
    exact ⟨by first | rfl | (simp [errW_none, errW_some] <;> rfl) | (simp [*, errW_none, errW_some] <;> rfl), by repeat (first | (with_reducible first | exact HB.out | apply below_alloc | apply pw_below_drewN | apply below_drew1 | refine below_set ?_ GE248.out | refine below_set ?_ GE249.out) | exact HB.out)⟩
  · rw [if_neg c3] at H
    have c3b0 : decide (a0_0 < a1_0) = false := decide_eq_false c3
    clear c3
    by_cases c9 : a0_0 = a1_0
    · rw [if_pos c9] at H
      have c9b0 : (a0_0 == a1_0) = true := beq_iff_eq.mpr c9
      have c9b1 : (a0_0 != a1_0) = false := bne_eq_false_iff_eq.mpr c9
      clear c9
      obtain rfl := Option.some.inj H
      go_enter Try.func48, Try.ntmps48
      go_wp2_with (first | ((with_reducible refine gate_dst (N := 2) rfl ?_); refine box_event ?hg (N := 2) ?hd (cs := #[.int .i64 a0_0, .int .i64 a0_1]) (t := 42) ?hr ?_; (case hd => rfl); (case hg => rfl); (case hr => first | (go_simp; done) | (go_simp; rfl)); intro gb248 hg w10 hbox hb; have n0_ := Aside0.mk (below_step (by repeat (first | (with_reducible first | exact HB.out | apply below_alloc | apply pw_below_drewN | apply below_drew1) | exact HB.out)) hb); have n1_ := Aside0.mk (hbox); have n2_ := Aside0.mk ((by rw [hg]; exact (below_size (by repeat (first | (with_reducible first | exact HB.out | apply below_alloc | apply pw_below_drewN | apply below_drew1) | exact HB.out))) : w.heap.size ≤ gb248)); have n3_ := Aside0.mk ((by rw [hg]; exact (below_size (by repeat (first | (with_reducible first | exact HB.out | apply below_alloc | apply pw_below_drewN | apply below_drew1) | exact HB.out))) : w.heap.size ≤ gb248)); clear HB; have HB := n0_; have BK248 := n1_; have GW248 := n2_; have GE248 := n3_; clear n0_ n1_ n2_ n3_; clear hb hbox hg) | ((with_reducible refine gate_dst (N := 3) rfl ?_); refine box_event ?hg (N := 3) ?hd (cs := #[.int .i64 a1_0, .int .i64 a1_1]) (t := 42) ?hr ?_; (case hd => rfl); (case hg => rfl); (case hr => first | (go_simp; done) | (go_simp; rfl)); intro gb249 hg w11 hbox hb; have n0_ := Aside0.mk (blk_below (g := gb248) (o := .cells #[.int .i64 a0_0, .int .i64 a0_1] 42 (0, 0)) (by (with_reducible repeat (first | refine blk_drewN ?_ _ | refine blk_drew ?_ | refine blk_alloc ?_ _)); exact BK248.out) hb); have n1_ := Aside0.mk (below_step (by repeat (first | (with_reducible first | exact HB.out | apply below_alloc | apply pw_below_drewN | apply below_drew1 | refine below_set ?_ GE248.out) | exact HB.out)) hb); have n2_ := Aside0.mk (hbox); have n3_ := Aside0.mk ((by rw [hg]; exact (below_size (by repeat (first | (with_reducible first | exact HB.out | apply below_alloc | apply pw_below_drewN | apply below_drew1 | refine below_set ?_ GE248.out) | exact HB.out))) : w.heap.size ≤ gb249)); have n4_ := Aside0.mk ((by rw [hg]; exact (below_size (by repeat (first | (with_reducible first | exact HB.out | apply below_alloc | apply pw_below_drewN | apply below_drew1 | refine below_set ?_ GE248.out) | exact HB.out))) : w.heap.size ≤ gb249)); have n5_ := Aside0.mk ((by rw [hg]; exact Nat.ne_of_lt (blk_lt (g := gb248) (o := .cells #[.int .i64 a0_0, .int .i64 a0_1] 42 (0, 0)) (by (with_reducible repeat (first | refine blk_drewN ?_ _ | refine blk_drew ?_ | refine blk_alloc ?_ _)); exact BK248.out)) : gb248 ≠ gb249)); have n6_ := Aside0.mk ((by rw [hg]; exact Nat.ne_of_gt (blk_lt (g := gb248) (o := .cells #[.int .i64 a0_0, .int .i64 a0_1] 42 (0, 0)) (by (with_reducible repeat (first | refine blk_drewN ?_ _ | refine blk_drew ?_ | refine blk_alloc ?_ _)); exact BK248.out)) : gb249 ≠ gb248)); clear BK248; clear HB; have BK248 := n0_; have HB := n1_; have BK249 := n2_; have GW249 := n3_; have GE249 := n4_; have NB248_249 := n5_; have NB249_248 := n6_; clear n0_ n1_ n2_ n3_ n4_ n5_ n6_; clear hb hbox hg; have hnb12 := NB248_249.out; have hnc12 := NB249_248.out; have hcz13_0 : w11.cell? ⟨gb248, 0, none⟩ = some (.int .i64 a0_0) := (blk_cell BK248.out 0).trans rfl; have hcz13_1 : w11.cell? ⟨gb248, 1, none⟩ = some (.int .i64 a0_1) := (blk_cell BK248.out 1).trans rfl; have hfz13_0 := blk_frozen BK248.out 0; have hfz13_1 := blk_frozen BK248.out 1; have hcz14_0 : w11.cell? ⟨gb249, 0, none⟩ = some (.int .i64 a1_0) := (blk_cell BK249.out 0).trans rfl; have hcz14_1 : w11.cell? ⟨gb249, 1, none⟩ = some (.int .i64 a1_1) := (blk_cell BK249.out 1).trans rfl; have hfz14_0 := blk_frozen BK249.out 0; have hfz14_1 := blk_frozen BK249.out 1))
      go_ret
      exact ⟨by first | rfl | (simp [errW_none, errW_some] <;> rfl) | (simp [*, errW_none, errW_some] <;> rfl), by repeat (first | (with_reducible first | exact HB.out | apply below_alloc | apply pw_below_drewN | apply below_drew1 | refine below_set ?_ GE248.out | refine below_set ?_ GE249.out) | exact HB.out)⟩
    · rw [if_neg c9] at H
      have c9b0 : (a0_0 == a1_0) = false := beq_eq_false_iff_ne.mpr c9
      have c9b1 : (a0_0 != a1_0) = true := bne_iff_ne.mpr c9
      obtain rfl := Option.some.inj H
      go_enter Try.func48, Try.ntmps48
      go_wp2_with (first | ((with_reducible refine gate_dst (N := 2) rfl ?_); refine box_event ?hg (N := 2) ?hd (cs := #[.int .i64 a0_0, .int .i64 a0_1]) (t := 42) ?hr ?_; (case hd => rfl); (case hg => rfl); (case hr => first | (go_simp; done) | (go_simp; rfl)); intro gb248 hg w15 hbox hb; have n0_ := Aside0.mk (below_step (by repeat (first | (with_reducible first | exact HB.out | apply below_alloc | apply pw_below_drewN | apply below_drew1) | exact HB.out)) hb); have n1_ := Aside0.mk (hbox); have n2_ := Aside0.mk ((by rw [hg]; exact (below_size (by repeat (first | (with_reducible first | exact HB.out | apply below_alloc | apply pw_below_drewN | apply below_drew1) | exact HB.out))) : w.heap.size ≤ gb248)); have n3_ := Aside0.mk ((by rw [hg]; exact (below_size (by repeat (first | (with_reducible first | exact HB.out | apply below_alloc | apply pw_below_drewN | apply below_drew1) | exact HB.out))) : w.heap.size ≤ gb248)); clear HB; have HB := n0_; have BK248 := n1_; have GW248 := n2_; have GE248 := n3_; clear n0_ n1_ n2_ n3_; clear hb hbox hg) | ((with_reducible refine gate_dst (N := 3) rfl ?_); refine box_event ?hg (N := 3) ?hd (cs := #[.int .i64 a1_0, .int .i64 a1_1]) (t := 42) ?hr ?_; (case hd => rfl); (case hg => rfl); (case hr => first | (go_simp; done) | (go_simp; rfl)); intro gb249 hg w16 hbox hb; have n0_ := Aside0.mk (blk_below (g := gb248) (o := .cells #[.int .i64 a0_0, .int .i64 a0_1] 42 (0, 0)) (by (with_reducible repeat (first | refine blk_drewN ?_ _ | refine blk_drew ?_ | refine blk_alloc ?_ _)); exact BK248.out) hb); have n1_ := Aside0.mk (below_step (by repeat (first | (with_reducible first | exact HB.out | apply below_alloc | apply pw_below_drewN | apply below_drew1 | refine below_set ?_ GE248.out) | exact HB.out)) hb); have n2_ := Aside0.mk (hbox); have n3_ := Aside0.mk ((by rw [hg]; exact (below_size (by repeat (first | (with_reducible first | exact HB.out | apply below_alloc | apply pw_below_drewN | apply below_drew1 | refine below_set ?_ GE248.out) | exact HB.out))) : w.heap.size ≤ gb249)); have n4_ := Aside0.mk ((by rw [hg]; exact (below_size (by repeat (first | (with_reducible first | exact HB.out | apply below_alloc | apply pw_below_drewN | apply below_drew1 | refine below_set ?_ GE248.out) | exact HB.out))) : w.heap.size ≤ gb249)); have n5_ := Aside0.mk ((by rw [hg]; exact Nat.ne_of_lt (blk_lt (g := gb248) (o := .cells #[.int .i64 a0_0, .int .i64 a0_1] 42 (0, 0)) (by (with_reducible repeat (first | refine blk_drewN ?_ _ | refine blk_drew ?_ | refine blk_alloc ?_ _)); exact BK248.out)) : gb248 ≠ gb249)); have n6_ := Aside0.mk ((by rw [hg]; exact Nat.ne_of_gt (blk_lt (g := gb248) (o := .cells #[.int .i64 a0_0, .int .i64 a0_1] 42 (0, 0)) (by (with_reducible repeat (first | refine blk_drewN ?_ _ | refine blk_drew ?_ | refine blk_alloc ?_ _)); exact BK248.out)) : gb249 ≠ gb248)); clear BK248; clear HB; have BK248 := n0_; have HB := n1_; have BK249 := n2_; have GW249 := n3_; have GE249 := n4_; have NB248_249 := n5_; have NB249_248 := n6_; clear n0_ n1_ n2_ n3_ n4_ n5_ n6_; clear hb hbox hg; have hnb17 := NB248_249.out; have hnc17 := NB249_248.out; have hcz18_0 : w16.cell? ⟨gb248, 0, none⟩ = some (.int .i64 a0_0) := (blk_cell BK248.out 0).trans rfl; have hcz18_1 : w16.cell? ⟨gb248, 1, none⟩ = some (.int .i64 a0_1) := (blk_cell BK248.out 1).trans rfl; have hfz18_0 := blk_frozen BK248.out 0; have hfz18_1 := blk_frozen BK248.out 1; have hcz19_0 : w16.cell? ⟨gb249, 0, none⟩ = some (.int .i64 a1_0) := (blk_cell BK249.out 0).trans rfl; have hcz19_1 : w16.cell? ⟨gb249, 1, none⟩ = some (.int .i64 a1_1) := (blk_cell BK249.out 1).trans rfl; have hfz19_0 := blk_frozen BK249.out 0; have hfz19_1 := blk_frozen BK249.out 1))
      go_ret
      exact ⟨by first | rfl | (simp [errW_none, errW_some] <;> rfl) | (simp [*, errW_none, errW_some] <;> rfl), by repeat (first | (with_reducible first | exact HB.out | apply below_alloc | apply pw_below_drewN | apply below_drew1 | refine below_set ?_ GE248.out | refine below_set ?_ GE249.out) | exact HB.out)⟩

/-! ### julian_gregorianDate: function 49 -/
def julian_gregorianDate.f  : Option (Int × Int) := (julian_DayToTime.f 2299161).bind fun bt251 => (some (bt251.1, bt251.2))
set_option maxHeartbeats 8000000 in
set_option maxRecDepth 100000 in
theorem julian_gregorianDate.calls  (r1 : Int) (r2 : Int) (w : World) (h : julian_gregorianDate.f  = some (r1, r2)) :
    Calls Try.prog 49 #[] w fun e w' => e = .returned (.agg #[.int .i64 r1, .int .i64 r2]) ∧ Below w.heap.size w w' := by
  have hu42 := Try.underlying42
  have HB := Aside0.mk (Below.refl w.heap.size w)
  have H : ((julian_DayToTime.f 2299161).bind fun bt251 => (some (bt251.1, bt251.2))) = some (r1, r2) := h
  clear h
  replace H := Option.bind_eq_some_iff.mp H
  obtain ⟨⟨t251, t252⟩, A10, H⟩ := H
  replace H : (some (t251, t252)) = some (r1, r2) := H
  have A1 := Aside0.mk A10
  clear A10
  simp only [Option.some.injEq, Prod.mk.injEq] at H
  obtain ⟨rfl, rfl⟩ := H
  go_enter Try.func49, Try.ntmps49
  go_wp2_with (first | ((with_reducible refine gate_dst (N := 0) rfl ?_); refine box_event ?hg (N := 0) ?hd (cs := #[.int .i64 0, .int .i64 0]) (t := 42) ?hr ?_; (case hd => rfl); (case hg => rfl); (case hr => first | (go_simp; done) | (go_simp; rfl)); intro gb250 hg w2 hbox hb; have n0_ := Aside0.mk (below_step (by repeat (first | (with_reducible first | exact HB.out | apply below_alloc | apply pw_below_drewN | apply below_drew1) | exact HB.out)) hb); have n1_ := Aside0.mk (hbox); have n2_ := Aside0.mk ((by rw [hg]; exact (below_size (by repeat (first | (with_reducible first | exact HB.out | apply below_alloc | apply pw_below_drewN | apply below_drew1) | exact HB.out))) : w.heap.size ≤ gb250)); have n3_ := Aside0.mk ((by rw [hg]; exact (below_size (by repeat (first | (with_reducible first | exact HB.out | apply below_alloc | apply pw_below_drewN | apply below_drew1) | exact HB.out))) : w.heap.size ≤ gb250)); clear HB; have HB := n0_; have BK250 := n1_; have GW250 := n2_; have GE250 := n3_; clear n0_ n1_ n2_ n3_; clear hb hbox hg) | ((with_reducible refine gate_callee (f := 28) rfl ?_); refine goesL_ (some 1) rfl rfl Try.func28 (by kernel_rfl) rfl #[.int .i64 2299161] rfl (by (try simp only [List.map_toArray, List.map_cons, List.map_nil]); first | done | rfl | (simp only [List.length_drop, List.length_take]; rfl)) ?_; (with_reducible refine (julian_DayToTime.calls 2299161 t251 t252 _ A1.out).mono ?_); rintro e w3 ⟨rfl, hb⟩; refine ⟨_, rfl, ?_⟩; have n0_ := Aside0.mk (blk_below (g := gb250) (o := .cells #[.int .i64 0, .int .i64 0] 42 (0, 0)) (by (with_reducible repeat (first | refine blk_drewN ?_ _ | refine blk_drew ?_ | refine blk_alloc ?_ _)); exact BK250.out) hb); have n1_ := Aside0.mk (below_step (by repeat (first | (with_reducible first | exact HB.out | apply below_alloc | apply pw_below_drewN | apply below_drew1 | refine below_set ?_ GE250.out) | exact HB.out)) hb); clear BK250; clear HB; have BK250 := n0_; have HB := n1_; clear n0_ n1_; (try clear hb); (try clear hb2); (try clear hk); (try clear hi); have hcz4_0 : w3.cell? ⟨gb250, 0, none⟩ = some (.int .i64 0) := (blk_cell BK250.out 0).trans rfl; have hcz4_1 : w3.cell? ⟨gb250, 1, none⟩ = some (.int .i64 0) := (blk_cell BK250.out 1).trans rfl; have hfz4_0 := blk_frozen BK250.out 0; have hfz4_1 := blk_frozen BK250.out 1))
  refine bodyPost_ret (results_cell_row rfl _ _ gb250 42 #[.int .i64 t251, .int .i64 t252] (0, 0) _ rfl (by (with_reducible repeat (first | refine blk_drewN ?_ _ | refine blk_drew ?_ | refine blk_alloc ?_ _)); refine blk_put (cs := #[.int .i64 t251, .int .i64 0]) ?_ 1 _ rfl; (with_reducible repeat (first | refine blk_drewN ?_ _ | refine blk_drew ?_ | refine blk_alloc ?_ _)); refine blk_put (cs := #[.int .i64 0, .int .i64 0]) ?_ 0 _ rfl; (with_reducible repeat (first | refine blk_drewN ?_ _ | refine blk_drew ?_ | refine blk_alloc ?_ _)); exact BK250.out) Try.underlying42 rfl (by kernel_rfl)) rfl ?_
  exact ⟨by first | rfl | (simp [errW_none, errW_some] <;> rfl) | (simp [*, errW_none, errW_some] <;> rfl), by repeat (first | (with_reducible first | exact HB.out | apply below_alloc | apply pw_below_drewN | apply below_drew1 | refine below_set ?_ GE250.out) | exact HB.out)⟩

/-! ### zztime_Time_Day: function 50 -/
def zztime_Time_Day.f (a0_0 : Int) (a0_1 : Int) : Option (Int) := (zztime_Time_Date.f a0_0 a0_1).bind fun bt254 => (some bt254.2.2)
set_option maxHeartbeats 8000000 in
set_option maxRecDepth 100000 in
theorem zztime_Time_Day.calls (a0_0 : Int) (a0_1 : Int) (r : Int) (w : World) (h : zztime_Time_Day.f a0_0 a0_1 = some r) :
    Calls Try.prog 50 #[.agg #[.int .i64 a0_0, .int .i64 a0_1]] w fun e w' => e = .returned (.int .i64 r) ∧ Below w.heap.size w w' := by
  have hu42 := Try.underlying42
  have HB := Aside0.mk (Below.refl w.heap.size w)
  have H : ((zztime_Time_Date.f a0_0 a0_1).bind fun bt254 => (some bt254.2.2)) = some r := h
  clear h
  replace H := Option.bind_eq_some_iff.mp H
  obtain ⟨⟨t254, t255, t256⟩, A20, H⟩ := H
  replace H : (some t256) = some r := H
  have A2 := Aside0.mk A20
  clear A20
  obtain rfl := Option.some.inj H
  go_enter Try.func50, Try.ntmps50
  go_wp2_with (first | ((with_reducible refine gate_dst (N := 1) rfl ?_); refine box_event ?hg (N := 1) ?hd (cs := #[.int .i64 a0_0, .int .i64 a0_1]) (t := 42) ?hr ?_; (case hd => rfl); (case hg => rfl); (case hr => first | (go_simp; done) | (go_simp; rfl)); intro gb253 hg w3 hbox hb; have n0_ := Aside0.mk (below_step (by repeat (first | (with_reducible first | exact HB.out | apply below_alloc | apply pw_below_drewN | apply below_drew1) | exact HB.out)) hb); have n1_ := Aside0.mk (hbox); have n2_ := Aside0.mk ((by rw [hg]; exact (below_size (by repeat (first | (with_reducible first | exact HB.out | apply below_alloc | apply pw_below_drewN | apply below_drew1) | exact HB.out))) : w.heap.size ≤ gb253)); have n3_ := Aside0.mk ((by rw [hg]; exact (below_size (by repeat (first | (with_reducible first | exact HB.out | apply below_alloc | apply pw_below_drewN | apply below_drew1) | exact HB.out))) : w.heap.size ≤ gb253)); clear HB; have HB := n0_; have BK253 := n1_; have GW253 := n2_; have GE253 := n3_; clear n0_ n1_ n2_ n3_; clear hb hbox hg; have hcz4_0 : w3.cell? ⟨gb253, 0, none⟩ = some (.int .i64 a0_0) := (blk_cell BK253.out 0).trans rfl; have hcz4_1 : w3.cell? ⟨gb253, 1, none⟩ = some (.int .i64 a0_1) := (blk_cell BK253.out 1).trans rfl; have hfz4_0 := blk_frozen BK253.out 0; have hfz4_1 := blk_frozen BK253.out 1) | ((with_reducible refine gate_callee (f := 41) rfl ?_); refine goesL_ (some 8) rfl rfl Try.func41 (by kernel_rfl) rfl #[.agg #[.int .i64 a0_0, .int .i64 a0_1]] rfl (by (try simp only [List.map_toArray, List.map_cons, List.map_nil]); first | done | rfl | (simp only [List.length_drop, List.length_take]; rfl)) ?_; (with_reducible refine (zztime_Time_Date.calls a0_0 a0_1 t254 t255 t256 _ A2.out).mono ?_); rintro e w5 ⟨rfl, hb⟩; refine ⟨_, rfl, ?_⟩; have n0_ := Aside0.mk (blk_below (g := gb253) (o := .cells #[.int .i64 a0_0, .int .i64 a0_1] 42 (0, 0)) (by (with_reducible repeat (first | refine blk_drewN ?_ _ | refine blk_drew ?_ | refine blk_alloc ?_ _)); exact BK253.out) hb); have n1_ := Aside0.mk (below_step (by repeat (first | (with_reducible first | exact HB.out | apply below_alloc | apply pw_below_drewN | apply below_drew1 | refine below_set ?_ GE253.out) | exact HB.out)) hb); clear BK253; clear HB; have BK253 := n0_; have HB := n1_; clear n0_ n1_; (try clear hb); (try clear hb2); (try clear hk); (try clear hi)))
  go_ret
  exact ⟨by first | rfl | (simp [errW_none, errW_some] <;> rfl) | (simp [*, errW_none, errW_some] <;> rfl), by repeat (first | (with_reducible first | exact HB.out | apply below_alloc | apply pw_below_drewN | apply below_drew1 | refine below_set ?_ GE253.out) | exact HB.out)⟩

end Go.Proofs.Ytbblgpgjgkmcbaa.PJal
