/- Written by a program (print.py, called by prints.sh) for this claim: Go functions as plain Lean functions, and that the code comes to their answers. -/
import Derived.Test.YtbblgpgjgkmcbaaPJrox0
import Derived.Test.YtbblgpgjgkmcbaaPJrox1
namespace Go.Proofs.Ytbblgpgjgkmcbaa.PJro
open Go.RowKit Go.Proofs.YtbblgpgjgkmcbaaW.PrintWords Go.Proofs.YtbblgpgjgkmcbaaW.PrintLast Go.Proofs.YtbblgpgjgkmcbaaW.PrintMore
attribute [local go_sem] max2_int min2_int max_two min_two max_three min_three max_four min_four   -- for this text's walks alone
set_option linter.unusedVariables false
set_option linter.unusedSimpArgs false

/-! ### spec_JuMade: function 11 -/
def spec_JuMade.f (k : Nat) (a0_0 : Int) (a0_1 : Int) (a0_2 : Int) (a0_3 : Int) (a0_4 : Int) (a0_5 : Int) (a0_6 : Int) : Option (Int × Int × Int × Int × Int × Int × Int) := (spec_juFloor.f a0_6 1000000000).bind fun t113 => ((spec_juFloor.f (wrap64 (a0_5 + t113)) 60).bind fun t114 => ((spec_juFloor.f (wrap64 (a0_4 + t114)) 60).bind fun t115 => ((spec_juFloor.f (wrap64 (a0_3 + t115)) 24).bind fun t116 => ((spec_juFloor.f (wrap64 (a0_1 - 1)) 12).bind fun t117 => ((spec_juFloor.f (wrap64 (a0_1 - 1)) 12).bind fun t118 => ((spec_juFloor.f (wrap64 (a0_3 + t115)) 24).bind fun t119 => ((spec_juFloor.f (wrap64 (a0_4 + t114)) 60).bind fun t120 => ((spec_juFloor.f (wrap64 (a0_5 + t113)) 60).bind fun t121 => ((spec_juFloor.f a0_6 1000000000).bind fun t122 => ((spec_JuDay.f (wrap64 (a0_0 + t117)) (wrap64 (a0_1 - (wrap64 (12 * t118)))) 1 true).bind fun t124 => ((spec_JuDate.f k (wrap64 ((wrap64 (t124 + (wrap64 (a0_2 + t116)))) - 1)) true).bind fun bt125 => (some (bt125.1, bt125.2.1, bt125.2.2, wrap64 ((wrap64 (a0_3 + t115)) - (wrap64 (24 * t119))), wrap64 ((wrap64 (a0_4 + t114)) - (wrap64 (60 * t120))), wrap64 ((wrap64 (a0_5 + t113)) - (wrap64 (60 * t121))), wrap64 (a0_6 - (wrap64 (1000000000 * t122))))))))))))))))
theorem spec_JuMade.mono : ∀ a0 a1 a2 a3 a4 a5 a6 k, LeO (spec_JuMade.f k a0 a1 a2 a3 a4 a5 a6) (spec_JuMade.f (k + 1) a0 a1 a2 a3 a4 a5 a6) := by
  intro a0 a1 a2 a3 a4 a5 a6 k
  unfold spec_JuMade.f
  repeat' first
      | (with_reducible exact spec_JuDate.mono _ _ _)
      | (with_reducible exact LeO.refl _)
      | (with_reducible exact LeO.none _)
      | (with_reducible refine LeO.ite ?_ ?_)
      | (with_reducible refine LeO.bind ?_ (fun _ => ?_))
      | exact spec_JuDate.mono _ _ _
      | exact LeO.none _
      | refine LeO.ite ?_ ?_
      | refine LeO.bind ?_ (fun _ => ?_)
def spec_JuMade.T5 : Bool × List (List Nat × List Nat) := (true, [([], []), ([0], [0]), ([], []), ([2], [2]), ([3], [3]), ([4], [4]), ([1, 5], [1, 5]), ([6, 5, 0, 1, 2, 3, 4, 5, 6], [6])])
def spec_JuMade.B5 : List Nat := [0, 1, 0, 4, 12, 28, 63, 127]
theorem spec_JuMade.tab5 : rtab .any (opsOf Try.f11 5) = spec_JuMade.T5 := by kernel_rfl
theorem spec_JuMade.bits5 : waitsOk spec_JuMade.T5.2 spec_JuMade.B5 = true := by kernel_rfl
def spec_JuMade.T6 : Bool × List (List Nat × List Nat) := (true, [([], []), ([0], [0]), ([], []), ([2], [2]), ([3], [3]), ([4], [4]), ([5], [5]), ([1, 6], [1, 6]), ([7, 5, 0, 1, 2, 3, 4, 5, 6, 7], [7])])
def spec_JuMade.B6 : List Nat := [0, 1, 0, 4, 12, 28, 60, 127, 255]
theorem spec_JuMade.tab6 : rtab .any (opsOf Try.f11 6) = spec_JuMade.T6 := by kernel_rfl
theorem spec_JuMade.bits6 : waitsOk spec_JuMade.T6.2 spec_JuMade.B6 = true := by kernel_rfl
def spec_JuMade.T7 : Bool × List (List Nat × List Nat) := (true, [([], []), ([], []), ([1], [1]), ([2], [2]), ([0, 3], [0, 3]), ([], []), ([], []), ([6, 2], [6]), ([7], [7]), ([5, 8], [5, 8]), ([], []), ([], []), ([11, 7], [11]), ([12], [12]), ([10, 13], [10, 13]), ([], []), ([15], [15]), ([], []), ([17], [17]), ([18, 12], [18]), ([19], [19]), ([16, 20], [16, 20]), ([4, 9, 14, 21], [4, 9, 14, 21]), ([], []), ([23, 22, 19, 0, 1, 2, 3, 4, 5, 6, 7, 8, 9, 10, 11, 12, 13, 14, 15, 16, 17, 18, 19, 20, 21, 22, 23], [22, 23])])
def spec_JuMade.B7 : List Nat := [0, 0, 2, 6, 15, 0, 0, 70, 198, 486, 0, 0, 2246, 6342, 15558, 0, 32768, 0, 131072, 399558, 923846, 2070726, 4194303, 0, 16777215]
theorem spec_JuMade.tab7 : rtab .any (opsOf Try.f11 7) = spec_JuMade.T7 := by kernel_rfl
theorem spec_JuMade.bits7 : waitsOk spec_JuMade.T7.2 spec_JuMade.B7 = true := by kernel_rfl
/-- A contract of a callee that makes nothing, in a region of draws: behind none, or behind others. -/
theorem q_of {P : Program} {f : FuncId} {args : Array Value} {w : World} {n : Nat} {v : Value} (c : ∀ W : World, Calls P f args W fun e w' => e = .returned v ∧ W = w') :
    Calls P f args (w.drewN n) fun e w'' => e = .returned v ∧ ∃ m, w'' = w.drewN m :=
  (c (w.drewN n)).mono fun _ _ ⟨he, hm⟩ => ⟨he, n, hm.symm⟩
theorem q_add {P : Program} {f : FuncId} {args : Array Value} {w : World} {a n : Nat} {v : Value} (c : ∀ W : World, Calls P f args W fun e w' => e = .returned v ∧ W = w') :
    Calls P f args (w.drewN (a + n)) fun e w'' => e = .returned v ∧ ∃ m, w'' = w.drewN (a + m) :=
  (c (w.drewN (a + n))).mono fun _ _ ⟨he, hm⟩ => ⟨he, n, hm.symm⟩

def jf (a b : Int) : Int := if Int.tmod a b < 0 then wrap64 (wrap64 (Int.tdiv a b) - 1) else wrap64 (Int.tdiv a b)
theorem fl_any (a b : Int) (hb : b ≠ 0) (w : World) : Calls Try.prog 25 #[.int .i64 a, .int .i64 b] w fun e w' => e = .returned (.int .i64 (jf a b)) ∧ w = w' := by
  by_cases hm : Int.tmod a b < 0
  · have H : Hid (jf a b = wrap64 (wrap64 (Int.tdiv a b) - 1)) := by unfold jf; exact if_pos hm
    go_enter Try.func25, Try.ntmps25
    go_wp2
    go_ret
    exact ⟨by rw [H.out]; rfl, rfl⟩
  · have H : Hid (jf a b = wrap64 (Int.tdiv a b)) := by unfold jf; exact if_neg hm
    go_enter Try.func25, Try.ntmps25
    go_wp2
    go_ret
    exact ⟨by rw [H.out]; rfl, rfl⟩

set_option maxHeartbeats 2000000 in
set_option maxRecDepth 100000 in
theorem made_calls (y mo d h mi s n t Y M D : Int) (k : Nat) (w : World)
    (h1 : spec_JuDay.f (wrap64 (y + jf (wrap64 (mo - 1)) 12)) (wrap64 (mo - wrap64 (12 * jf (wrap64 (mo - 1)) 12))) 1 true = some t)
    (h2 : spec_JuDate.f k (wrap64 (wrap64 (t + wrap64 (d + jf (wrap64 (h + jf (wrap64 (mi + jf (wrap64 (s + jf n 1000000000)) 60)) 60)) 24)) - 1)) true = some (Y, M, D)) :
    Calls Try.prog 11 #[.agg #[.int .i64 y, .int .i64 mo, .int .i64 d, .int .i64 h, .int .i64 mi, .int .i64 s, .int .i64 n]] w fun e w' =>
      e = .returned (.agg #[.int .i64 Y, .int .i64 M, .int .i64 D,
        .int .i64 (wrap64 (wrap64 (h + jf (wrap64 (mi + jf (wrap64 (s + jf n 1000000000)) 60)) 60) - wrap64 (24 * jf (wrap64 (h + jf (wrap64 (mi + jf (wrap64 (s + jf n 1000000000)) 60)) 60)) 24))),
        .int .i64 (wrap64 (wrap64 (mi + jf (wrap64 (s + jf n 1000000000)) 60) - wrap64 (60 * jf (wrap64 (mi + jf (wrap64 (s + jf n 1000000000)) 60)) 60))),
        .int .i64 (wrap64 (wrap64 (s + jf n 1000000000) - wrap64 (60 * jf (wrap64 (s + jf n 1000000000)) 60))),
        .int .i64 (wrap64 (n - wrap64 (1000000000 * jf n 1000000000)))]) ∧ Below w.heap.size w w' := by
  have H1 := Aside0.mk h1
  have H2 := Aside0.mk h2
  clear h1 h2
  go_enter Try.func11, Try.ntmps11
  go_wp2
  go_quiet ((go_at_call 25; exact q_of (fl_any _ _ (by decide))))
  go_wp2
  go_quiet ((go_at_call 25; exact q_add (fl_any _ _ (by decide))))
  go_wp2
  go_quiet ((go_at_call 25; exact q_add (fl_any _ _ (by decide))))
  go_wp2
  go_quiet ((go_at_call 25; exact q_add (fl_any _ _ (by decide))))
  go_wp2
  go_quiet ((go_at_call 25; exact q_add (fl_any _ _ (by decide))))
  go_wp2
  go_quiet ((go_at_call 25; exact q_add (fl_any _ _ (by decide))))
  go_wp2
  go_region_held3 (fun w' => w'.cell? ⟨w.heap.size, 6, none⟩ = some (.int .i64 n)) (go_keep)
    (first | (go_at_call 25; refine (fl_any _ _ (by decide) _).mono ?_; rintro e w' ⟨rfl, rfl⟩))
  all_goals
    go_wp2_with (first | (go_at_call 27; refine (spec_JuDay.calls _ _ _ _ t _ H1.out).mono ?_; rintro e w' ⟨rfl, ⟨nd, rfl⟩⟩) | (go_at_call 26; refine (spec_JuDate.calls k _ _ Y M D _ H2.out).mono ?_; rintro e w' ⟨rfl, ⟨nd, rfl⟩⟩))
    refine bodyPost_ret (v := .agg #[.int .i64 Y, .int .i64 M, .int .i64 D,
        .int .i64 (wrap64 (wrap64 (h + jf (wrap64 (mi + jf (wrap64 (s + jf n 1000000000)) 60)) 60) - wrap64 (24 * jf (wrap64 (h + jf (wrap64 (mi + jf (wrap64 (s + jf n 1000000000)) 60)) 60)) 24))),
        .int .i64 (wrap64 (wrap64 (mi + jf (wrap64 (s + jf n 1000000000)) 60) - wrap64 (60 * jf (wrap64 (mi + jf (wrap64 (s + jf n 1000000000)) 60)) 60))),
        .int .i64 (wrap64 (wrap64 (s + jf n 1000000000) - wrap64 (60 * jf (wrap64 (s + jf n 1000000000)) 60))),
        .int .i64 (wrap64 (n - wrap64 (1000000000 * jf n 1000000000)))]) (by simp [results, Try.results11, go_sem]) rfl ⟨rfl, ?_⟩
    clear H1 H2
    repeat (first | (with_reducible exact Below.refl _ _) | (with_reducible apply below_alloc) | (with_reducible apply pw_below_drewN) | (with_reducible apply below_drew) | (with_reducible refine Below.setCell ?_ (by simp only []; omega) _))

theorem jf_of {a b t : Int} (h : spec_juFloor.f a b = some t) : t = jf a b := by
  unfold spec_juFloor.f at h
  unfold jf
  by_cases hb : b = 0
  · rw [if_pos hb] at h; cases h
  · rw [if_neg hb] at h
    by_cases hm : Int.tmod a b < 0
    · rw [if_pos hm] at h ⊢; exact (Option.some.inj h).symm
    · rw [if_neg hm] at h ⊢; exact (Option.some.inj h).symm
theorem spec_JuMade.calls (k : Nat) (a0_0 : Int) (a0_1 : Int) (a0_2 : Int) (a0_3 : Int) (a0_4 : Int) (a0_5 : Int) (a0_6 : Int) (r1 : Int) (r2 : Int) (r3 : Int) (r4 : Int) (r5 : Int) (r6 : Int) (r7 : Int) (w : World) (h : spec_JuMade.f k a0_0 a0_1 a0_2 a0_3 a0_4 a0_5 a0_6 = some (r1, r2, r3, r4, r5, r6, r7)) :
    Calls Try.prog 11 #[.agg #[.int .i64 a0_0, .int .i64 a0_1, .int .i64 a0_2, .int .i64 a0_3, .int .i64 a0_4, .int .i64 a0_5, .int .i64 a0_6]] w fun e w' => e = .returned (.agg #[.int .i64 r1, .int .i64 r2, .int .i64 r3, .int .i64 r4, .int .i64 r5, .int .i64 r6, .int .i64 r7]) ∧ Below w.heap.size w w' := by
  unfold spec_JuMade.f at h
  obtain ⟨q1, h1, g0⟩ := Option.bind_eq_some_iff.mp h
  clear h
  obtain ⟨q2, h2, g1⟩ := Option.bind_eq_some_iff.mp g0
  clear g0
  obtain ⟨q3, h3, g2⟩ := Option.bind_eq_some_iff.mp g1
  clear g1
  obtain ⟨q4, h4, g3⟩ := Option.bind_eq_some_iff.mp g2
  clear g2
  obtain ⟨q5, h5, g4⟩ := Option.bind_eq_some_iff.mp g3
  clear g3
  obtain ⟨q6, h6, g5⟩ := Option.bind_eq_some_iff.mp g4
  clear g4
  obtain ⟨q7, h7, g6⟩ := Option.bind_eq_some_iff.mp g5
  clear g5
  obtain ⟨q8, h8, g7⟩ := Option.bind_eq_some_iff.mp g6
  clear g6
  obtain ⟨q9, h9, g8⟩ := Option.bind_eq_some_iff.mp g7
  clear g7
  obtain ⟨q10, h10, g9⟩ := Option.bind_eq_some_iff.mp g8
  clear g8
  obtain ⟨t, ht, g10⟩ := Option.bind_eq_some_iff.mp g9
  clear g9
  obtain ⟨⟨Y, M, D⟩, hd, ge⟩ := Option.bind_eq_some_iff.mp g10
  clear g10
  obtain rfl := jf_of h1
  obtain rfl := jf_of h2
  obtain rfl := jf_of h3
  obtain rfl := jf_of h4
  obtain rfl := jf_of h5
  obtain rfl := jf_of h6
  obtain rfl := jf_of h7
  obtain rfl := jf_of h8
  obtain rfl := jf_of h9
  obtain rfl := jf_of h10
  simp only [Option.some.injEq, Prod.mk.injEq] at ge
  obtain ⟨rfl, rfl, rfl, rfl, rfl, rfl, rfl⟩ := ge
  exact made_calls _ _ _ _ _ _ _ t Y M D k w ht hd

end Go.Proofs.Ytbblgpgjgkmcbaa.PJro
