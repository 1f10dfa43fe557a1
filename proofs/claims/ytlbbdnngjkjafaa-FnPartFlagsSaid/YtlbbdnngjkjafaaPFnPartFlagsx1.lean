-- PRINTED BY print.sh 35421559b90ae4d0a3588c463048766b98c2df88dd9212a6774a882060cdf62d: not written by this session
import Derived.Test.YtlbbdnngjkjafaaPFnPartFlagsx0
namespace Go.Proofs.Ytlbbdnngjkjafaa.PFnPartFlags
open Go.RowKit Go.Proofs.YtlbbdnngjkjafaaW.PrintWords Go.Proofs.YtlbbdnngjkjafaaW.PrintLast Go.Proofs.YtlbbdnngjkjafaaW.PrintMore
attribute [local go_sem] max2_int min2_int max_two min_two max_three min_three max_four min_four   -- for this text's walks alone
set_option linter.unusedVariables false
set_option linter.unusedSimpArgs false

/-! ### protocol_PartAttributes_ResultsetClosed: function 59 -/
def protocol_PartAttributes_ResultsetClosed.f (a0 : Int) : Option (Bool) := some ((Go.bits .and .i8 a0 16) == 16)
set_option maxHeartbeats 8000000 in
set_option maxRecDepth 100000 in
theorem protocol_PartAttributes_ResultsetClosed.calls (a0 : Int) (r : Bool) (w : World) (h : protocol_PartAttributes_ResultsetClosed.f a0 = some r) :
    Calls Try.prog 59 #[.int .i8 a0] w fun e w' => e = .returned (.bool r) ∧ Drawn0 w w' := by
  have H : (some ((Go.bits .and .i8 a0 16) == 16)) = some r := h
  clear h
  obtain rfl := Option.some.inj H
  go_enter Try.func59, Try.ntmps59
  go_wp2
  go_ret
  exact ⟨by first | rfl | (simp; done) | (simp [*]; done), by repeat (first | exact Drawn0.refl _ | apply Drawn0.step)⟩

/-! ### protocol_PartAttributes_LastPacket: function 60 -/
def protocol_PartAttributes_LastPacket.f (a0 : Int) : Option (Bool) := some ((Go.bits .and .i8 a0 1) == 1)
set_option maxHeartbeats 8000000 in
set_option maxRecDepth 100000 in
theorem protocol_PartAttributes_LastPacket.calls (a0 : Int) (r : Bool) (w : World) (h : protocol_PartAttributes_LastPacket.f a0 = some r) :
    Calls Try.prog 60 #[.int .i8 a0] w fun e w' => e = .returned (.bool r) ∧ Drawn0 w w' := by
  have H : (some ((Go.bits .and .i8 a0 1) == 1)) = some r := h
  clear h
  obtain rfl := Option.some.inj H
  go_enter Try.func60, Try.ntmps60
  go_wp2
  go_ret
  exact ⟨by first | rfl | (simp; done) | (simp [*]; done), by repeat (first | exact Drawn0.refl _ | apply Drawn0.step)⟩

/-! ### protocol_ZzAttributes: function 34 -/
def protocol_ZzAttributes.f (a0 : Int) : Option (Bool × Bool) := (protocol_PartAttributes_ResultsetClosed.f (IntKind.i8.wrap (a0))).bind fun t101 => ((protocol_PartAttributes_LastPacket.f (IntKind.i8.wrap (a0))).bind fun t102 => (some (t101, t102)))
set_option maxHeartbeats 8000000 in
set_option maxRecDepth 100000 in
theorem protocol_ZzAttributes.calls (a0 : Int) (r1 : Bool) (r2 : Bool) (w : World) (h : protocol_ZzAttributes.f a0 = some (r1, r2)) :
    Calls Try.prog 34 #[.int .i64 a0] w fun e w' => e = .returned (.tuple #[.bool r1, .bool r2]) ∧ Drawn0 w w' := by
  have H : ((protocol_PartAttributes_ResultsetClosed.f (IntKind.i8.wrap (a0))).bind fun t101 => ((protocol_PartAttributes_LastPacket.f (IntKind.i8.wrap (a0))).bind fun t102 => (some (t101, t102)))) = some (r1, r2) := h
  clear h
  replace H := Option.bind_eq_some_iff.mp H
  obtain ⟨t101, A20, H⟩ := H
  replace H : ((protocol_PartAttributes_LastPacket.f (IntKind.i8.wrap (a0))).bind fun t102 => (some (t101, t102))) = some (r1, r2) := H
  have A2 := Aside0.mk A20
  clear A20
  replace H := Option.bind_eq_some_iff.mp H
  obtain ⟨t102, A30, H⟩ := H
  replace H : (some (t101, t102)) = some (r1, r2) := H
  have A3 := Aside0.mk A30
  clear A30
  simp only [Option.some.injEq, Prod.mk.injEq] at H
  obtain ⟨rfl, rfl⟩ := H
  go_enter Try.func34, Try.ntmps34
  go_wp2_with (first | ((with_reducible refine gate_callee (f := 59) rfl ?_); refine goesL_ (some 6) rfl rfl Try.func59 (by kernel_rfl) rfl #[.int .i8 (IntKind.i8.wrap (a0))] rfl (by (try simp only [List.map_toArray, List.map_cons, List.map_nil]); first | done | rfl | (simp only [List.length_drop, List.length_take]; rfl)) ?_; (with_reducible refine (protocol_PartAttributes_ResultsetClosed.calls (IntKind.i8.wrap (a0)) t101 _ A2.out).mono ?_); rintro e w' ⟨rfl, ⟨nd, rfl⟩⟩; refine ⟨_, rfl, ?_⟩) | ((with_reducible refine gate_callee (f := 60) rfl ?_); refine goesL_ (some 9) rfl rfl Try.func60 (by kernel_rfl) rfl #[.int .i8 (IntKind.i8.wrap (a0))] rfl (by (try simp only [List.map_toArray, List.map_cons, List.map_nil]); first | done | rfl | (simp only [List.length_drop, List.length_take]; rfl)) ?_; (with_reducible refine (protocol_PartAttributes_LastPacket.calls (IntKind.i8.wrap (a0)) t102 _ A3.out).mono ?_); rintro e w' ⟨rfl, ⟨nd, rfl⟩⟩; refine ⟨_, rfl, ?_⟩))
  go_ret2
  exact ⟨by first | rfl | (simp; done) | (simp [*]; done), by repeat (first | exact Drawn0.refl _ | apply Drawn0.step)⟩

/-! ### impl_PartFlags: function 16 -/
def impl_PartFlags.f (a0 : Int) : Option (Bool × Bool) := (protocol_ZzAttributes.f a0).bind fun bt103 => (some (bt103.1, bt103.2))
set_option maxHeartbeats 8000000 in
set_option maxRecDepth 100000 in
theorem impl_PartFlags.calls (a0 : Int) (r1 : Bool) (r2 : Bool) (w : World) (h : impl_PartFlags.f a0 = some (r1, r2)) :
    Calls Try.prog 16 #[.int .i64 a0] w fun e w' => e = .returned (.tuple #[.bool r1, .bool r2]) ∧ Drawn0 w w' := by
  have H : ((protocol_ZzAttributes.f a0).bind fun bt103 => (some (bt103.1, bt103.2))) = some (r1, r2) := h
  clear h
  replace H := Option.bind_eq_some_iff.mp H
  obtain ⟨⟨t103, t104⟩, A20, H⟩ := H
  replace H : (some (t103, t104)) = some (r1, r2) := H
  have A2 := Aside0.mk A20
  clear A20
  simp only [Option.some.injEq, Prod.mk.injEq] at H
  obtain ⟨rfl, rfl⟩ := H
  go_enter Try.func16, Try.ntmps16
  go_wp2_with (first | ((with_reducible refine gate_callee (f := 34) rfl ?_); refine goesL_ (some 5) rfl rfl Try.func34 (by kernel_rfl) rfl #[.int .i64 a0] rfl (by (try simp only [List.map_toArray, List.map_cons, List.map_nil]); first | done | rfl | (simp only [List.length_drop, List.length_take]; rfl)) ?_; (with_reducible refine (protocol_ZzAttributes.calls a0 t103 t104 _ A2.out).mono ?_); rintro e w' ⟨rfl, ⟨nd, rfl⟩⟩; refine ⟨_, rfl, ?_⟩))
  go_ret2
  exact ⟨by first | rfl | (simp; done) | (simp [*]; done), by repeat (first | exact Drawn0.refl _ | apply Drawn0.step)⟩

/-! ### laws_FnPartFlags: function 4 -/
def laws_FnPartFlags.f (a0 : Int) : Option (Bool) := (impl_PartFlags.f (wrap64 (a0))).bind fun bt105 => ((impl_PartFlags.f 1).bind fun bt107 => (if (bt105.1 == ((Go.bits .and .i8 a0 16) != 0)) = true then (if (bt105.2 == ((Go.bits .and .i8 a0 1) != 0)) = true then (some bt107.2) else (some false)) else (some false)))
set_option maxHeartbeats 8000000 in
set_option maxRecDepth 100000 in
theorem laws_FnPartFlags.calls (a0 : Int) (r : Bool) (w : World) (h : laws_FnPartFlags.f a0 = some r) :
    Calls Try.prog 4 #[.int .i8 a0] w fun e w' => e = .returned (.bool r) ∧ Drawn0 w w' := by
  have H : ((impl_PartFlags.f (wrap64 (a0))).bind fun bt105 => ((impl_PartFlags.f 1).bind fun bt107 => (if (bt105.1 == ((Go.bits .and .i8 a0 16) != 0)) = true then (if (bt105.2 == ((Go.bits .and .i8 a0 1) != 0)) = true then (some bt107.2) else (some false)) else (some false)))) = some r := h
  clear h
  replace H := Option.bind_eq_some_iff.mp H
  obtain ⟨⟨t105, t106⟩, A20, H⟩ := H
  replace H : ((impl_PartFlags.f 1).bind fun bt107 => (if (t105 == ((Go.bits .and .i8 a0 16) != 0)) = true then (if (t106 == ((Go.bits .and .i8 a0 1) != 0)) = true then (some bt107.2) else (some false)) else (some false))) = some r := H
  have A2 := Aside0.mk A20
  clear A20
  replace H := Option.bind_eq_some_iff.mp H
  obtain ⟨⟨t107, t108⟩, A30, H⟩ := H
  replace H : (if (t105 == ((Go.bits .and .i8 a0 16) != 0)) = true then (if (t106 == ((Go.bits .and .i8 a0 1) != 0)) = true then (some t108) else (some false)) else (some false)) = some r := H
  have A3 := Aside0.mk A30
  clear A30
  by_cases c4 : (t105 == ((Go.bits .and .i8 a0 16) != 0)) = true
  · rw [if_pos c4] at H
    have c4b0 : (t105 == ((Go.bits .and .i8 a0 16) != 0)) = true := c4
    (try (have c4b1 : decide (t105 = ((Go.bits .and .i8 a0 16) != 0)) = true := by simpa using c4))
    (try (have c4b2 : (t105 == ((Go.bits .and .i8 a0 16) != 0)) = true := by simpa using c4))
    clear c4
    by_cases c5 : (t106 == ((Go.bits .and .i8 a0 1) != 0)) = true
    · rw [if_pos c5] at H
      have c5b0 : (t106 == ((Go.bits .and .i8 a0 1) != 0)) = true := c5
      (try (have c5b1 : decide (t106 = ((Go.bits .and .i8 a0 1) != 0)) = true := by simpa using c5))
      (try (have c5b2 : (t106 == ((Go.bits .and .i8 a0 1) != 0)) = true := by simpa using c5))
      clear c5
      obtain rfl := Option.some.inj H
      go_enter Try.func4, Try.ntmps4
      go_wp2_with (first | ((with_reducible refine gate_callee (f := 16) rfl ?_); refine goesL_ (some 10) rfl rfl Try.func16 (by kernel_rfl) rfl #[.int .i64 (wrap64 (a0))] rfl (by (try simp only [List.map_toArray, List.map_cons, List.map_nil]); first | done | rfl | (simp only [List.length_drop, List.length_take]; rfl)) ?_; (with_reducible refine (impl_PartFlags.calls (wrap64 (a0)) t105 t106 _ A2.out).mono ?_); rintro e w' ⟨rfl, ⟨nd, rfl⟩⟩; refine ⟨_, rfl, ?_⟩) | ((with_reducible refine gate_callee (f := 16) rfl ?_); refine goesL_ (some 14) rfl rfl Try.func16 (by kernel_rfl) rfl #[.int .i64 1] rfl (by (try simp only [List.map_toArray, List.map_cons, List.map_nil]); first | done | rfl | (simp only [List.length_drop, List.length_take]; rfl)) ?_; (with_reducible refine (impl_PartFlags.calls 1 t107 t108 _ A3.out).mono ?_); rintro e w' ⟨rfl, ⟨nd, rfl⟩⟩; refine ⟨_, rfl, ?_⟩))
      go_ret
      exact ⟨by first | rfl | (simp; done) | (simp [*]; done), by repeat (first | exact Drawn0.refl _ | apply Drawn0.step)⟩
    · rw [if_neg c5] at H
      have c5b0 : (t106 == ((Go.bits .and .i8 a0 1) != 0)) = false := by simpa using c5
      (try (have c5b1 : decide (t106 = ((Go.bits .and .i8 a0 1) != 0)) = false := by simpa using c5))
      (try (have c5b2 : (t106 == ((Go.bits .and .i8 a0 1) != 0)) = false := by simpa using c5))
      (try (have c5b3 : ¬ (t106 = ((Go.bits .and .i8 a0 1) != 0)) := by simpa using c5))
      clear c5
      obtain rfl := Option.some.inj H
      go_enter Try.func4, Try.ntmps4
      go_wp2_with (first | ((with_reducible refine gate_callee (f := 16) rfl ?_); refine goesL_ (some 10) rfl rfl Try.func16 (by kernel_rfl) rfl #[.int .i64 (wrap64 (a0))] rfl (by (try simp only [List.map_toArray, List.map_cons, List.map_nil]); first | done | rfl | (simp only [List.length_drop, List.length_take]; rfl)) ?_; (with_reducible refine (impl_PartFlags.calls (wrap64 (a0)) t105 t106 _ A2.out).mono ?_); rintro e w' ⟨rfl, ⟨nd, rfl⟩⟩; refine ⟨_, rfl, ?_⟩) | ((with_reducible refine gate_callee (f := 16) rfl ?_); refine goesL_ (some 14) rfl rfl Try.func16 (by kernel_rfl) rfl #[.int .i64 1] rfl (by (try simp only [List.map_toArray, List.map_cons, List.map_nil]); first | done | rfl | (simp only [List.length_drop, List.length_take]; rfl)) ?_; (with_reducible refine (impl_PartFlags.calls 1 t107 t108 _ A3.out).mono ?_); rintro e w' ⟨rfl, ⟨nd, rfl⟩⟩; refine ⟨_, rfl, ?_⟩))
      go_ret
      exact ⟨by first | rfl | (simp; done) | (simp [*]; done), by repeat (first | exact Drawn0.refl _ | apply Drawn0.step)⟩
  · rw [if_neg c4] at H
    have c4b0 : (t105 == ((Go.bits .and .i8 a0 16) != 0)) = false := by simpa using c4
    (try (have c4b1 : decide (t105 = ((Go.bits .and .i8 a0 16) != 0)) = false := by simpa using c4))
    (try (have c4b2 : (t105 == ((Go.bits .and .i8 a0 16) != 0)) = false := by simpa using c4))
    (try (have c4b3 : ¬ (t105 = ((Go.bits .and .i8 a0 16) != 0)) := by simpa using c4))
    clear c4
    obtain rfl := Option.some.inj H
    go_enter Try.func4, Try.ntmps4
    go_wp2_with (first | ((with_reducible refine gate_callee (f := 16) rfl ?_); refine goesL_ (some 10) rfl rfl Try.func16 (by kernel_rfl) rfl #[.int .i64 (wrap64 (a0))] rfl (by (try simp only [List.map_toArray, List.map_cons, List.map_nil]); first | done | rfl | (simp only [List.length_drop, List.length_take]; rfl)) ?_; (with_reducible refine (impl_PartFlags.calls (wrap64 (a0)) t105 t106 _ A2.out).mono ?_); rintro e w' ⟨rfl, ⟨nd, rfl⟩⟩; refine ⟨_, rfl, ?_⟩) | ((with_reducible refine gate_callee (f := 16) rfl ?_); refine goesL_ (some 14) rfl rfl Try.func16 (by kernel_rfl) rfl #[.int .i64 1] rfl (by (try simp only [List.map_toArray, List.map_cons, List.map_nil]); first | done | rfl | (simp only [List.length_drop, List.length_take]; rfl)) ?_; (with_reducible refine (impl_PartFlags.calls 1 t107 t108 _ A3.out).mono ?_); rintro e w' ⟨rfl, ⟨nd, rfl⟩⟩; refine ⟨_, rfl, ?_⟩))
    go_ret
    exact ⟨by first | rfl | (simp; done) | (simp [*]; done), by repeat (first | exact Drawn0.refl _ | apply Drawn0.step)⟩

/-- THE ONE PURE STATEMENT of laws_FnPartFlags: yours. -/
def laws_FnPartFlags.Pure : Prop := ∀ (a0 : Int), (Lit.int .i8 a0).wf = true → laws_FnPartFlags.f a0 = some true
theorem laws_FnPartFlags.walk (P : laws_FnPartFlags.Pure) (a0 : Int) (w : World) (w0 : (Lit.int .i8 a0).wf = true) :
    Calls Try.prog 4 #[.int .i8 a0] w fun e w' => e = .returned (.bool true) ∧ Below w.heap.size w w' := by
  have h := P a0 w0
  refine (laws_FnPartFlags.calls a0 true w h).mono ?_
  rintro e w' ⟨rfl, hd⟩
  exact ⟨rfl, hd.below⟩

end Go.Proofs.Ytlbbdnngjkjafaa.PFnPartFlags
