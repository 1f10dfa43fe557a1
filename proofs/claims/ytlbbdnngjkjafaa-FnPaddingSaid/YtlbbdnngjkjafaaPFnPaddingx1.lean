-- PRINTED BY print.sh 35421559b90ae4d0a3588c463048766b98c2df88dd9212a6774a882060cdf62d: not written by this session
import Derived.Test.YtlbbdnngjkjafaaPFnPaddingx0
namespace Go.Proofs.Ytlbbdnngjkjafaa.PFnPadding
open Go.RowKit Go.Proofs.YtlbbdnngjkjafaaW.PrintWords Go.Proofs.YtlbbdnngjkjafaaW.PrintLast Go.Proofs.YtlbbdnngjkjafaaW.PrintMore
attribute [local go_sem] max2_int min2_int max_two min_two max_three min_three max_four min_four   -- for this text's walks alone
set_option linter.unusedVariables false
set_option linter.unusedSimpArgs false

/-! ### protocol_padBytes: function 61 -/
def protocol_padBytes.f (a0 : Int) : Option (Int) := if (Int.tmod a0 8) = 0 then (some 0) else (some (wrap64 (8 - (Int.tmod a0 8))))
set_option maxHeartbeats 8000000 in
set_option maxRecDepth 100000 in
theorem protocol_padBytes.calls (a0 : Int) (r : Int) (w : World) (h : protocol_padBytes.f a0 = some r) :
    Calls Try.prog 61 #[.int .i64 a0] w fun e w' => e = .returned (.int .i64 r) ∧ Drawn0 w w' := by
  have H : (if (Int.tmod a0 8) = 0 then (some 0) else (some (wrap64 (8 - (Int.tmod a0 8))))) = some r := h
  clear h
  by_cases c2 : (Int.tmod a0 8) = 0
  · rw [if_pos c2] at H
    have c2b0 : ((Int.tmod a0 8) == 0) = true := beq_iff_eq.mpr c2
    have c2b1 : ((Int.tmod a0 8) != 0) = false := bne_eq_false_iff_eq.mpr c2
    clear c2
    obtain rfl := Option.some.inj H
    go_enter Try.func61, Try.ntmps61
    go_wp2
    go_ret
    exact ⟨by first | rfl | (simp; done) | (simp [*]; done), by repeat (first | exact Drawn0.refl _ | apply Drawn0.step)⟩
  · rw [if_neg c2] at H
    have c2b0 : ((Int.tmod a0 8) == 0) = false := beq_eq_false_iff_ne.mpr c2
    have c2b1 : ((Int.tmod a0 8) != 0) = true := bne_iff_ne.mpr c2
    obtain rfl := Option.some.inj H
    go_enter Try.func61, Try.ntmps61
    go_wp2
    go_ret
    exact ⟨by first | rfl | (simp; done) | (simp [*]; done), by repeat (first | exact Drawn0.refl _ | apply Drawn0.step)⟩

/-! ### protocol_ZzPadding: function 35 -/
def protocol_ZzPadding.f (a0 : Int) : Option (Int) := (protocol_padBytes.f a0).bind fun t101 => (some t101)
set_option maxHeartbeats 8000000 in
set_option maxRecDepth 100000 in
theorem protocol_ZzPadding.calls (a0 : Int) (r : Int) (w : World) (h : protocol_ZzPadding.f a0 = some r) :
    Calls Try.prog 35 #[.int .i64 a0] w fun e w' => e = .returned (.int .i64 r) ∧ Drawn0 w w' := by
  have H : ((protocol_padBytes.f a0).bind fun t101 => (some t101)) = some r := h
  clear h
  replace H := Option.bind_eq_some_iff.mp H
  obtain ⟨t101, A20, H⟩ := H
  replace H : (some t101) = some r := H
  have A2 := Aside0.mk A20
  clear A20
  obtain rfl := Option.some.inj H
  go_enter Try.func35, Try.ntmps35
  go_wp2_with (first | ((with_reducible refine gate_callee (f := 61) rfl ?_); refine goesL_ (some 4) rfl rfl Try.func61 (by kernel_rfl) rfl #[.int .i64 a0] rfl (by (try simp only [List.map_toArray, List.map_cons, List.map_nil]); first | done | rfl | (simp only [List.length_drop, List.length_take]; rfl)) ?_; (with_reducible refine (protocol_padBytes.calls a0 t101 _ A2.out).mono ?_); rintro e w' ⟨rfl, ⟨nd, rfl⟩⟩; refine ⟨_, rfl, ?_⟩))
  go_ret
  exact ⟨by first | rfl | (simp; done) | (simp [*]; done), by repeat (first | exact Drawn0.refl _ | apply Drawn0.step)⟩

/-! ### impl_Padding: function 17 -/
def impl_Padding.f (a0 : Int) : Option (Int) := (protocol_ZzPadding.f (mx a0 0)).bind fun t102 => (some t102)
set_option maxHeartbeats 8000000 in
set_option maxRecDepth 100000 in
theorem impl_Padding.calls (a0 : Int) (r : Int) (w : World) (h : impl_Padding.f a0 = some r) :
    Calls Try.prog 17 #[.int .i64 a0] w fun e w' => e = .returned (.int .i64 r) ∧ Below w.heap.size w w' := by
  have HB := Aside0.mk (Below.refl w.heap.size w)
  have H : ((protocol_ZzPadding.f (mx a0 0)).bind fun t102 => (some t102)) = some r := h
  clear h
  obtain ⟨ji2, hji2⟩ : ∃ j_ : Int, (mx a0 0) = j_ := ⟨_, rfl⟩
  replace H : ((protocol_ZzPadding.f (ji2)).bind fun t102 => (some t102)) = some r := by first | (rw [hji2] at H; exact H) | (simp only [hji2] at H ⊢; exact H)
  (try (have hji2l : 0 ≤ ji2 := by (rw [← hji2]; unfold mx; (repeat' split) <;> omega)))
  (try (have hji2m : 0 ≤ ji2 := by omega))
  have hji2_ : (if a0 < 0 then 0 else a0) = ji2 := hji2
  replace H := Option.bind_eq_some_iff.mp H
  obtain ⟨t102, A30, H⟩ := H
  replace H : (some t102) = some r := H
  have A3 := Aside0.mk A30
  clear A30
  obtain rfl := Option.some.inj H
  go_enter Try.func17, Try.ntmps17
  go_wp2_with (first | ((with_reducible refine gate_callee (f := 35) rfl ?_); refine goesL_ (some 5) rfl rfl Try.func35 (by kernel_rfl) rfl #[.int .i64 ji2] rfl (by (try simp only [List.map_toArray, List.map_cons, List.map_nil]); first | done | (simp only [hji2]; rfl) | rfl | (simp only [List.length_drop, List.length_take]; rfl)) ?_; (with_reducible refine (protocol_ZzPadding.calls ji2 t102 _ A3.out).mono ?_); rintro e w' ⟨rfl, ⟨nd, rfl⟩⟩; refine ⟨_, rfl, ?_⟩))
  go_ret
  exact ⟨by first | rfl | (simp [errW_none, errW_some] <;> rfl) | (simp only [← hji2]; first | rfl | (simp [errW_none, errW_some] <;> rfl)) | (simp [*, errW_none, errW_some] <;> rfl), by repeat (first | (with_reducible first | exact HB.out | apply below_alloc | apply pw_below_drewN | apply below_drew1) | exact HB.out)⟩

/-! ### laws_FnPadding: function 5 -/
def laws_FnPadding.f (a0 : Int) : Option (Bool) := (impl_Padding.f (wrap64 (Int.tmod (IntKind.u64.wrap (a0)) 1099511627776))).bind fun t103 => (if t103 = (Int.tmod (wrap64 (8 - (Int.tmod (wrap64 (Int.tmod (IntKind.u64.wrap (a0)) 1099511627776)) 8))) 8) then ((impl_Padding.f 1).bind fun t104 => (some (t104 == 7))) else (some false))
set_option maxHeartbeats 8000000 in
set_option maxRecDepth 100000 in
theorem laws_FnPadding.calls (a0 : Int) (r : Bool) (w : World) (h : laws_FnPadding.f a0 = some r) :
    Calls Try.prog 5 #[.int .i64 a0] w fun e w' => e = .returned (.bool r) ∧ Below w.heap.size w w' := by
  have HB := Aside0.mk (Below.refl w.heap.size w)
  have H : ((impl_Padding.f (wrap64 (Int.tmod (IntKind.u64.wrap (a0)) 1099511627776))).bind fun t103 => (if t103 = (Int.tmod (wrap64 (8 - (Int.tmod (wrap64 (Int.tmod (IntKind.u64.wrap (a0)) 1099511627776)) 8))) 8) then ((impl_Padding.f 1).bind fun t104 => (some (t104 == 7))) else (some false))) = some r := h
  clear h
  replace H := Option.bind_eq_some_iff.mp H
  obtain ⟨t103, A20, H⟩ := H
  replace H : (if t103 = (Int.tmod (wrap64 (8 - (Int.tmod (wrap64 (Int.tmod (IntKind.u64.wrap (a0)) 1099511627776)) 8))) 8) then ((impl_Padding.f 1).bind fun t104 => (some (t104 == 7))) else (some false)) = some r := H
  have A2 := Aside0.mk A20
  clear A20
  by_cases c3 : t103 = (Int.tmod (wrap64 (8 - (Int.tmod (wrap64 (Int.tmod (IntKind.u64.wrap (a0)) 1099511627776)) 8))) 8)
  · rw [if_pos c3] at H
    have c3b0 : (t103 == (Int.tmod (wrap64 (8 - (Int.tmod (wrap64 (Int.tmod (IntKind.u64.wrap (a0)) 1099511627776)) 8))) 8)) = true := beq_iff_eq.mpr c3
    have c3b1 : (t103 != (Int.tmod (wrap64 (8 - (Int.tmod (wrap64 (Int.tmod (IntKind.u64.wrap (a0)) 1099511627776)) 8))) 8)) = false := bne_eq_false_iff_eq.mpr c3
    clear c3
    replace H := Option.bind_eq_some_iff.mp H
    obtain ⟨t104, A40, H⟩ := H
    replace H : (some (t104 == 7)) = some r := H
    have A4 := Aside0.mk A40
    clear A40
    obtain rfl := Option.some.inj H
    go_enter Try.func5, Try.ntmps5
    go_wp2_with (first | ((with_reducible refine gate_callee (f := 17) rfl ?_); refine goesL_ (some 8) rfl rfl Try.func17 (by kernel_rfl) rfl #[.int .i64 (wrap64 (Int.tmod (IntKind.u64.wrap (a0)) 1099511627776))] rfl (by (try simp only [List.map_toArray, List.map_cons, List.map_nil]); first | done | rfl | (simp only [List.length_drop, List.length_take]; rfl)) ?_; (with_reducible refine (impl_Padding.calls (wrap64 (Int.tmod (IntKind.u64.wrap (a0)) 1099511627776)) t103 _ A2.out).mono ?_); rintro e w5 ⟨rfl, hb⟩; refine ⟨_, rfl, ?_⟩; have n0_ := Aside0.mk (below_step (by repeat (first | (with_reducible first | exact HB.out | apply below_alloc | apply pw_below_drewN | apply below_drew1) | exact HB.out)) hb); clear HB; have HB := n0_; clear n0_; (try clear hb); (try clear hb2); (try clear hk); (try clear hi)) | (go_at_call 17; (with_reducible refine (impl_Padding.calls 1 t104 _ A4.out).mono ?_); rintro e w6 ⟨rfl, hb⟩; have n0_ := Aside0.mk (below_step (by repeat (first | (with_reducible first | exact HB.out | apply below_alloc | apply pw_below_drewN | apply below_drew1) | exact HB.out)) hb); clear HB; have HB := n0_; clear n0_; (try clear hb); (try clear hb2); (try clear hk); (try clear hi)))
    go_ret
    exact ⟨by first | rfl | (simp [errW_none, errW_some] <;> rfl) | (simp [*, errW_none, errW_some] <;> rfl), by repeat (first | (with_reducible first | exact HB.out | apply below_alloc | apply pw_below_drewN | apply below_drew1) | exact HB.out)⟩
  · rw [if_neg c3] at H
    have c3b0 : (t103 == (Int.tmod (wrap64 (8 - (Int.tmod (wrap64 (Int.tmod (IntKind.u64.wrap (a0)) 1099511627776)) 8))) 8)) = false := beq_eq_false_iff_ne.mpr c3
    have c3b1 : (t103 != (Int.tmod (wrap64 (8 - (Int.tmod (wrap64 (Int.tmod (IntKind.u64.wrap (a0)) 1099511627776)) 8))) 8)) = true := bne_iff_ne.mpr c3
    obtain rfl := Option.some.inj H
    go_enter Try.func5, Try.ntmps5
    go_wp2_with (first | ((with_reducible refine gate_callee (f := 17) rfl ?_); refine goesL_ (some 8) rfl rfl Try.func17 (by kernel_rfl) rfl #[.int .i64 (wrap64 (Int.tmod (IntKind.u64.wrap (a0)) 1099511627776))] rfl (by (try simp only [List.map_toArray, List.map_cons, List.map_nil]); first | done | rfl | (simp only [List.length_drop, List.length_take]; rfl)) ?_; (with_reducible refine (impl_Padding.calls (wrap64 (Int.tmod (IntKind.u64.wrap (a0)) 1099511627776)) t103 _ A2.out).mono ?_); rintro e w7 ⟨rfl, hb⟩; refine ⟨_, rfl, ?_⟩; have n0_ := Aside0.mk (below_step (by repeat (first | (with_reducible first | exact HB.out | apply below_alloc | apply pw_below_drewN | apply below_drew1) | exact HB.out)) hb); clear HB; have HB := n0_; clear n0_; (try clear hb); (try clear hb2); (try clear hk); (try clear hi)))
    go_ret
    exact ⟨by first | rfl | (simp [errW_none, errW_some] <;> rfl) | (simp [*, errW_none, errW_some] <;> rfl), by repeat (first | (with_reducible first | exact HB.out | apply below_alloc | apply pw_below_drewN | apply below_drew1) | exact HB.out)⟩

/-- THE ONE PURE STATEMENT of laws_FnPadding: yours. -/
def laws_FnPadding.Pure : Prop := ∀ (a0 : Int), (Lit.int .i64 a0).wf = true → laws_FnPadding.f a0 = some true
theorem laws_FnPadding.walk (P : laws_FnPadding.Pure) (a0 : Int) (w : World) (w0 : (Lit.int .i64 a0).wf = true) :
    Calls Try.prog 5 #[.int .i64 a0] w fun e w' => e = .returned (.bool true) ∧ Below w.heap.size w w' := by
  have h := P a0 w0
  refine (laws_FnPadding.calls a0 true w h).mono ?_
  rintro e w' ⟨rfl, hd⟩
  exact ⟨rfl, hd⟩

end Go.Proofs.Ytlbbdnngjkjafaa.PFnPadding
