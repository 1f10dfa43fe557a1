-- PRINTED BY print.sh 35421559b90ae4d0a3588c463048766b98c2df88dd9212a6774a882060cdf62d: not written by this session
import Derived.Test.YtenefomcbjeccaaPFnVaCodeKindsx0
namespace Go.Proofs.Ytenefomcbjeccaa.PFnVaCodeKinds
open Go.RowKit Go.Proofs.YtenefomcbjeccaaW.PrintWords Go.Proofs.YtenefomcbjeccaaW.PrintLast Go.Proofs.YtenefomcbjeccaaW.PrintMore
attribute [local go_sem] max2_int min2_int max_two min_two max_three min_three max_four min_four   -- for this text's walks alone
set_option linter.unusedVariables false
set_option linter.unusedSimpArgs false

-- NOT PRINTED: function 39 (protocol_typeCode_dataType)

-- NOT PRINTED: function 28 (protocol_ZzDataType)

-- NOT PRINTED: function 14 (impl_CodeData)

/-! ### protocol_typeCode_isLob: function 40 -/
def protocol_typeCode_isLob.f (a0 : Int) : Option (Bool) := if a0 = 25 then (some true) else (if a0 = 26 then (some true) else (if a0 = 27 then (some true) else (if a0 = 51 then (some true) else (if a0 = 53 then (some true) else (if a0 = 31 then (some true) else (some (a0 == 32)))))))
set_option maxHeartbeats 8000000 in
set_option maxRecDepth 100000 in
theorem protocol_typeCode_isLob.calls (a0 : Int) (r : Bool) (w : World) (h : protocol_typeCode_isLob.f a0 = some r) :
    Calls Try.prog 40 #[.int .u8 a0] w fun e w' => e = .returned (.bool r) ∧ Drawn0 w w' := by
  have H : (if a0 = 25 then (some true) else (if a0 = 26 then (some true) else (if a0 = 27 then (some true) else (if a0 = 51 then (some true) else (if a0 = 53 then (some true) else (if a0 = 31 then (some true) else (some (a0 == 32)))))))) = some r := h
  clear h
  by_cases c2 : a0 = 25
  · rw [if_pos c2] at H
    have c2b0 : (a0 == 25) = true := beq_iff_eq.mpr c2
    have c2b1 : (a0 != 25) = false := bne_eq_false_iff_eq.mpr c2
    clear c2
    obtain rfl := Option.some.inj H
    go_enter Try.func40, Try.ntmps40
    go_wp2
    go_ret
    exact ⟨by first | rfl | (simp; done) | (simp [*]; done), by repeat (first | exact Drawn0.refl _ | apply Drawn0.step)⟩
  · rw [if_neg c2] at H
    have c2b0 : (a0 == 25) = false := beq_eq_false_iff_ne.mpr c2
    have c2b1 : (a0 != 25) = true := bne_iff_ne.mpr c2
    by_cases c3 : a0 = 26
    · rw [if_pos c3] at H
      have c3b0 : (a0 == 26) = true := beq_iff_eq.mpr c3
      have c3b1 : (a0 != 26) = false := bne_eq_false_iff_eq.mpr c3
      clear c3
      obtain rfl := Option.some.inj H
      go_enter Try.func40, Try.ntmps40
      go_wp2
      go_ret
      exact ⟨by first | rfl | (simp; done) | (simp [*]; done), by repeat (first | exact Drawn0.refl _ | apply Drawn0.step)⟩
    · rw [if_neg c3] at H
      have c3b0 : (a0 == 26) = false := beq_eq_false_iff_ne.mpr c3
      have c3b1 : (a0 != 26) = true := bne_iff_ne.mpr c3
      by_cases c4 : a0 = 27
      · rw [if_pos c4] at H
        have c4b0 : (a0 == 27) = true := beq_iff_eq.mpr c4
        have c4b1 : (a0 != 27) = false := bne_eq_false_iff_eq.mpr c4
        clear c4
        obtain rfl := Option.some.inj H
        go_enter Try.func40, Try.ntmps40
        go_wp2
        go_ret
        exact ⟨by first | rfl | (simp; done) | (simp [*]; done), by repeat (first | exact Drawn0.refl _ | apply Drawn0.step)⟩
      · rw [if_neg c4] at H
        have c4b0 : (a0 == 27) = false := beq_eq_false_iff_ne.mpr c4
        have c4b1 : (a0 != 27) = true := bne_iff_ne.mpr c4
        by_cases c5 : a0 = 51
        · rw [if_pos c5] at H
          have c5b0 : (a0 == 51) = true := beq_iff_eq.mpr c5
          have c5b1 : (a0 != 51) = false := bne_eq_false_iff_eq.mpr c5
          clear c5
          obtain rfl := Option.some.inj H
          go_enter Try.func40, Try.ntmps40
          go_wp2
          go_ret
          exact ⟨by first | rfl | (simp; done) | (simp [*]; done), by repeat (first | exact Drawn0.refl _ | apply Drawn0.step)⟩
        · rw [if_neg c5] at H
          have c5b0 : (a0 == 51) = false := beq_eq_false_iff_ne.mpr c5
          have c5b1 : (a0 != 51) = true := bne_iff_ne.mpr c5
          by_cases c6 : a0 = 53
          · rw [if_pos c6] at H
            have c6b0 : (a0 == 53) = true := beq_iff_eq.mpr c6
            have c6b1 : (a0 != 53) = false := bne_eq_false_iff_eq.mpr c6
            clear c6
            obtain rfl := Option.some.inj H
            go_enter Try.func40, Try.ntmps40
            go_wp2
            go_ret
            exact ⟨by first | rfl | (simp; done) | (simp [*]; done), by repeat (first | exact Drawn0.refl _ | apply Drawn0.step)⟩
          · rw [if_neg c6] at H
            have c6b0 : (a0 == 53) = false := beq_eq_false_iff_ne.mpr c6
            have c6b1 : (a0 != 53) = true := bne_iff_ne.mpr c6
            by_cases c7 : a0 = 31
            · rw [if_pos c7] at H
              have c7b0 : (a0 == 31) = true := beq_iff_eq.mpr c7
              have c7b1 : (a0 != 31) = false := bne_eq_false_iff_eq.mpr c7
              clear c7
              obtain rfl := Option.some.inj H
              go_enter Try.func40, Try.ntmps40
              go_wp2
              go_ret
              exact ⟨by first | rfl | (simp; done) | (simp [*]; done), by repeat (first | exact Drawn0.refl _ | apply Drawn0.step)⟩
            · rw [if_neg c7] at H
              have c7b0 : (a0 == 31) = false := beq_eq_false_iff_ne.mpr c7
              have c7b1 : (a0 != 31) = true := bne_iff_ne.mpr c7
              obtain rfl := Option.some.inj H
              go_enter Try.func40, Try.ntmps40
              go_wp2
              go_ret
              exact ⟨by first | rfl | (simp; done) | (simp [*]; done), by repeat (first | exact Drawn0.refl _ | apply Drawn0.step)⟩

/-! ### protocol_typeCode_isVariableLength: function 41 -/
def protocol_typeCode_isVariableLength.f (a0 : Int) : Option (Bool) := if a0 = 8 then (some true) else (if a0 = 10 then (some true) else (if a0 = 9 then (some true) else (if a0 = 11 then (some true) else (if a0 = 12 then (some true) else (if a0 = 13 then (some true) else (if a0 = 52 then (some true) else (some (a0 == 55))))))))
set_option maxHeartbeats 8000000 in
set_option maxRecDepth 100000 in
theorem protocol_typeCode_isVariableLength.calls (a0 : Int) (r : Bool) (w : World) (h : protocol_typeCode_isVariableLength.f a0 = some r) :
    Calls Try.prog 41 #[.int .u8 a0] w fun e w' => e = .returned (.bool r) ∧ Drawn0 w w' := by
  have H : (if a0 = 8 then (some true) else (if a0 = 10 then (some true) else (if a0 = 9 then (some true) else (if a0 = 11 then (some true) else (if a0 = 12 then (some true) else (if a0 = 13 then (some true) else (if a0 = 52 then (some true) else (some (a0 == 55))))))))) = some r := h
  clear h
  by_cases c2 : a0 = 8
  · rw [if_pos c2] at H
    have c2b0 : (a0 == 8) = true := beq_iff_eq.mpr c2
    have c2b1 : (a0 != 8) = false := bne_eq_false_iff_eq.mpr c2
    clear c2
    obtain rfl := Option.some.inj H
    go_enter Try.func41, Try.ntmps41
    go_wp2
    go_ret
    exact ⟨by first | rfl | (simp; done) | (simp [*]; done), by repeat (first | exact Drawn0.refl _ | apply Drawn0.step)⟩
  · rw [if_neg c2] at H
    have c2b0 : (a0 == 8) = false := beq_eq_false_iff_ne.mpr c2
    have c2b1 : (a0 != 8) = true := bne_iff_ne.mpr c2
    by_cases c3 : a0 = 10
    · rw [if_pos c3] at H
      have c3b0 : (a0 == 10) = true := beq_iff_eq.mpr c3
      have c3b1 : (a0 != 10) = false := bne_eq_false_iff_eq.mpr c3
      clear c3
      obtain rfl := Option.some.inj H
      go_enter Try.func41, Try.ntmps41
      go_wp2
      go_ret
      exact ⟨by first | rfl | (simp; done) | (simp [*]; done), by repeat (first | exact Drawn0.refl _ | apply Drawn0.step)⟩
    · rw [if_neg c3] at H
      have c3b0 : (a0 == 10) = false := beq_eq_false_iff_ne.mpr c3
      have c3b1 : (a0 != 10) = true := bne_iff_ne.mpr c3
      by_cases c4 : a0 = 9
      · rw [if_pos c4] at H
        have c4b0 : (a0 == 9) = true := beq_iff_eq.mpr c4
        have c4b1 : (a0 != 9) = false := bne_eq_false_iff_eq.mpr c4
        clear c4
        obtain rfl := Option.some.inj H
        go_enter Try.func41, Try.ntmps41
        go_wp2
        go_ret
        exact ⟨by first | rfl | (simp; done) | (simp [*]; done), by repeat (first | exact Drawn0.refl _ | apply Drawn0.step)⟩
      · rw [if_neg c4] at H
        have c4b0 : (a0 == 9) = false := beq_eq_false_iff_ne.mpr c4
        have c4b1 : (a0 != 9) = true := bne_iff_ne.mpr c4
        by_cases c5 : a0 = 11
        · rw [if_pos c5] at H
          have c5b0 : (a0 == 11) = true := beq_iff_eq.mpr c5
          have c5b1 : (a0 != 11) = false := bne_eq_false_iff_eq.mpr c5
          clear c5
          obtain rfl := Option.some.inj H
          go_enter Try.func41, Try.ntmps41
          go_wp2
          go_ret
          exact ⟨by first | rfl | (simp; done) | (simp [*]; done), by repeat (first | exact Drawn0.refl _ | apply Drawn0.step)⟩
        · rw [if_neg c5] at H
          have c5b0 : (a0 == 11) = false := beq_eq_false_iff_ne.mpr c5
          have c5b1 : (a0 != 11) = true := bne_iff_ne.mpr c5
          by_cases c6 : a0 = 12
          · rw [if_pos c6] at H
            have c6b0 : (a0 == 12) = true := beq_iff_eq.mpr c6
            have c6b1 : (a0 != 12) = false := bne_eq_false_iff_eq.mpr c6
            clear c6
            obtain rfl := Option.some.inj H
            go_enter Try.func41, Try.ntmps41
            go_wp2
            go_ret
            exact ⟨by first | rfl | (simp; done) | (simp [*]; done), by repeat (first | exact Drawn0.refl _ | apply Drawn0.step)⟩
          · rw [if_neg c6] at H
            have c6b0 : (a0 == 12) = false := beq_eq_false_iff_ne.mpr c6
            have c6b1 : (a0 != 12) = true := bne_iff_ne.mpr c6
            by_cases c7 : a0 = 13
            · rw [if_pos c7] at H
              have c7b0 : (a0 == 13) = true := beq_iff_eq.mpr c7
              have c7b1 : (a0 != 13) = false := bne_eq_false_iff_eq.mpr c7
              clear c7
              obtain rfl := Option.some.inj H
              go_enter Try.func41, Try.ntmps41
              go_wp2
              go_ret
              exact ⟨by first | rfl | (simp; done) | (simp [*]; done), by repeat (first | exact Drawn0.refl _ | apply Drawn0.step)⟩
            · rw [if_neg c7] at H
              have c7b0 : (a0 == 13) = false := beq_eq_false_iff_ne.mpr c7
              have c7b1 : (a0 != 13) = true := bne_iff_ne.mpr c7
              by_cases c8 : a0 = 52
              · rw [if_pos c8] at H
                have c8b0 : (a0 == 52) = true := beq_iff_eq.mpr c8
                have c8b1 : (a0 != 52) = false := bne_eq_false_iff_eq.mpr c8
                clear c8
                obtain rfl := Option.some.inj H
                go_enter Try.func41, Try.ntmps41
                go_wp2
                go_ret
                exact ⟨by first | rfl | (simp; done) | (simp [*]; done), by repeat (first | exact Drawn0.refl _ | apply Drawn0.step)⟩
              · rw [if_neg c8] at H
                have c8b0 : (a0 == 52) = false := beq_eq_false_iff_ne.mpr c8
                have c8b1 : (a0 != 52) = true := bne_iff_ne.mpr c8
                obtain rfl := Option.some.inj H
                go_enter Try.func41, Try.ntmps41
                go_wp2
                go_ret
                exact ⟨by first | rfl | (simp; done) | (simp [*]; done), by repeat (first | exact Drawn0.refl _ | apply Drawn0.step)⟩

/-! ### protocol_typeCode_isDecimalType: function 42 -/
def protocol_typeCode_isDecimalType.f (a0 : Int) : Option (Bool) := if a0 = 47 then (some true) else (if a0 = 5 then (some true) else (if a0 = 81 then (some true) else (if a0 = 82 then (some true) else (some (a0 == 76)))))
set_option maxHeartbeats 8000000 in
set_option maxRecDepth 100000 in
theorem protocol_typeCode_isDecimalType.calls (a0 : Int) (r : Bool) (w : World) (h : protocol_typeCode_isDecimalType.f a0 = some r) :
    Calls Try.prog 42 #[.int .u8 a0] w fun e w' => e = .returned (.bool r) ∧ Drawn0 w w' := by
  have H : (if a0 = 47 then (some true) else (if a0 = 5 then (some true) else (if a0 = 81 then (some true) else (if a0 = 82 then (some true) else (some (a0 == 76)))))) = some r := h
  clear h
  by_cases c2 : a0 = 47
  · rw [if_pos c2] at H
    have c2b0 : (a0 == 47) = true := beq_iff_eq.mpr c2
    have c2b1 : (a0 != 47) = false := bne_eq_false_iff_eq.mpr c2
    clear c2
    obtain rfl := Option.some.inj H
    go_enter Try.func42, Try.ntmps42
    go_wp2
    go_ret
    exact ⟨by first | rfl | (simp; done) | (simp [*]; done), by repeat (first | exact Drawn0.refl _ | apply Drawn0.step)⟩
  · rw [if_neg c2] at H
    have c2b0 : (a0 == 47) = false := beq_eq_false_iff_ne.mpr c2
    have c2b1 : (a0 != 47) = true := bne_iff_ne.mpr c2
    by_cases c3 : a0 = 5
    · rw [if_pos c3] at H
      have c3b0 : (a0 == 5) = true := beq_iff_eq.mpr c3
      have c3b1 : (a0 != 5) = false := bne_eq_false_iff_eq.mpr c3
      clear c3
      obtain rfl := Option.some.inj H
      go_enter Try.func42, Try.ntmps42
      go_wp2
      go_ret
      exact ⟨by first | rfl | (simp; done) | (simp [*]; done), by repeat (first | exact Drawn0.refl _ | apply Drawn0.step)⟩
    · rw [if_neg c3] at H
      have c3b0 : (a0 == 5) = false := beq_eq_false_iff_ne.mpr c3
      have c3b1 : (a0 != 5) = true := bne_iff_ne.mpr c3
      by_cases c4 : a0 = 81
      · rw [if_pos c4] at H
        have c4b0 : (a0 == 81) = true := beq_iff_eq.mpr c4
        have c4b1 : (a0 != 81) = false := bne_eq_false_iff_eq.mpr c4
        clear c4
        obtain rfl := Option.some.inj H
        go_enter Try.func42, Try.ntmps42
        go_wp2
        go_ret
        exact ⟨by first | rfl | (simp; done) | (simp [*]; done), by repeat (first | exact Drawn0.refl _ | apply Drawn0.step)⟩
      · rw [if_neg c4] at H
        have c4b0 : (a0 == 81) = false := beq_eq_false_iff_ne.mpr c4
        have c4b1 : (a0 != 81) = true := bne_iff_ne.mpr c4
        by_cases c5 : a0 = 82
        · rw [if_pos c5] at H
          have c5b0 : (a0 == 82) = true := beq_iff_eq.mpr c5
          have c5b1 : (a0 != 82) = false := bne_eq_false_iff_eq.mpr c5
          clear c5
          obtain rfl := Option.some.inj H
          go_enter Try.func42, Try.ntmps42
          go_wp2
          go_ret
          exact ⟨by first | rfl | (simp; done) | (simp [*]; done), by repeat (first | exact Drawn0.refl _ | apply Drawn0.step)⟩
        · rw [if_neg c5] at H
          have c5b0 : (a0 == 82) = false := beq_eq_false_iff_ne.mpr c5
          have c5b1 : (a0 != 82) = true := bne_iff_ne.mpr c5
          obtain rfl := Option.some.inj H
          go_enter Try.func42, Try.ntmps42
          go_wp2
          go_ret
          exact ⟨by first | rfl | (simp; done) | (simp [*]; done), by repeat (first | exact Drawn0.refl _ | apply Drawn0.step)⟩

/-! ### protocol_typeCode_supportNullValue: function 43 -/
def protocol_typeCode_supportNullValue.f (a0 : Int) : Option (Bool) := some (!(a0 == 28))
set_option maxHeartbeats 8000000 in
set_option maxRecDepth 100000 in
theorem protocol_typeCode_supportNullValue.calls (a0 : Int) (r : Bool) (w : World) (h : protocol_typeCode_supportNullValue.f a0 = some r) :
    Calls Try.prog 43 #[.int .u8 a0] w fun e w' => e = .returned (.bool r) ∧ Drawn0 w w' := by
  have H : (some (!(a0 == 28))) = some r := h
  clear h
  obtain rfl := Option.some.inj H
  go_enter Try.func43, Try.ntmps43
  go_wp2
  go_ret
  exact ⟨by first | rfl | (simp; done) | (simp [*]; done), by repeat (first | exact Drawn0.refl _ | apply Drawn0.step)⟩

/-! ### protocol_typeCode_nullValue: function 44 -/
def protocol_typeCode_nullValue.f (a0 : Int) : Option (Int) := if a0 = 64 then (some 176) else (some (Go.bits .or .u8 a0 128))
set_option maxHeartbeats 8000000 in
set_option maxRecDepth 100000 in
theorem protocol_typeCode_nullValue.calls (a0 : Int) (r : Int) (w : World) (h : protocol_typeCode_nullValue.f a0 = some r) :
    Calls Try.prog 44 #[.int .u8 a0] w fun e w' => e = .returned (.int .u8 r) ∧ Drawn0 w w' := by
  have H : (if a0 = 64 then (some 176) else (some (Go.bits .or .u8 a0 128))) = some r := h
  clear h
  by_cases c2 : a0 = 64
  · rw [if_pos c2] at H
    have c2b0 : (a0 == 64) = true := beq_iff_eq.mpr c2
    have c2b1 : (a0 != 64) = false := bne_eq_false_iff_eq.mpr c2
    clear c2
    obtain rfl := Option.some.inj H
    go_enter Try.func44, Try.ntmps44
    go_wp2
    go_ret
    exact ⟨by first | rfl | (simp; done) | (simp [*]; done), by repeat (first | exact Drawn0.refl _ | apply Drawn0.step)⟩
  · rw [if_neg c2] at H
    have c2b0 : (a0 == 64) = false := beq_eq_false_iff_ne.mpr c2
    have c2b1 : (a0 != 64) = true := bne_iff_ne.mpr c2
    obtain rfl := Option.some.inj H
    go_enter Try.func44, Try.ntmps44
    go_wp2
    go_ret
    exact ⟨by first | rfl | (simp; done) | (simp [*]; done), by repeat (first | exact Drawn0.refl _ | apply Drawn0.step)⟩

/-! ### protocol_typeCode_encTc: function 45 -/
def protocol_typeCode_encTc.f (a0 : Int) : Option (Int) := if a0 = 51 then (some 26) else (if a0 = 53 then (some 26) else (if a0 = 31 then (some 26) else (some a0)))
set_option maxHeartbeats 8000000 in
set_option maxRecDepth 100000 in
theorem protocol_typeCode_encTc.calls (a0 : Int) (r : Int) (w : World) (h : protocol_typeCode_encTc.f a0 = some r) :
    Calls Try.prog 45 #[.int .u8 a0] w fun e w' => e = .returned (.int .u8 r) ∧ Drawn0 w w' := by
  have H : (if a0 = 51 then (some 26) else (if a0 = 53 then (some 26) else (if a0 = 31 then (some 26) else (some a0)))) = some r := h
  clear h
  by_cases c2 : a0 = 51
  · rw [if_pos c2] at H
    have c2b0 : (a0 == 51) = true := beq_iff_eq.mpr c2
    have c2b1 : (a0 != 51) = false := bne_eq_false_iff_eq.mpr c2
    clear c2
    obtain rfl := Option.some.inj H
    go_enter Try.func45, Try.ntmps45
    go_wp2
    go_ret
    exact ⟨by first | rfl | (simp; done) | (simp [*]; done), by repeat (first | exact Drawn0.refl _ | apply Drawn0.step)⟩
  · rw [if_neg c2] at H
    have c2b0 : (a0 == 51) = false := beq_eq_false_iff_ne.mpr c2
    have c2b1 : (a0 != 51) = true := bne_iff_ne.mpr c2
    by_cases c3 : a0 = 53
    · rw [if_pos c3] at H
      have c3b0 : (a0 == 53) = true := beq_iff_eq.mpr c3
      have c3b1 : (a0 != 53) = false := bne_eq_false_iff_eq.mpr c3
      clear c3
      obtain rfl := Option.some.inj H
      go_enter Try.func45, Try.ntmps45
      go_wp2
      go_ret
      exact ⟨by first | rfl | (simp; done) | (simp [*]; done), by repeat (first | exact Drawn0.refl _ | apply Drawn0.step)⟩
    · rw [if_neg c3] at H
      have c3b0 : (a0 == 53) = false := beq_eq_false_iff_ne.mpr c3
      have c3b1 : (a0 != 53) = true := bne_iff_ne.mpr c3
      by_cases c4 : a0 = 31
      · rw [if_pos c4] at H
        have c4b0 : (a0 == 31) = true := beq_iff_eq.mpr c4
        have c4b1 : (a0 != 31) = false := bne_eq_false_iff_eq.mpr c4
        clear c4
        obtain rfl := Option.some.inj H
        go_enter Try.func45, Try.ntmps45
        go_wp2
        go_ret
        exact ⟨by first | rfl | (simp; done) | (simp [*]; done), by repeat (first | exact Drawn0.refl _ | apply Drawn0.step)⟩
      · rw [if_neg c4] at H
        have c4b0 : (a0 == 31) = false := beq_eq_false_iff_ne.mpr c4
        have c4b1 : (a0 != 31) = true := bne_iff_ne.mpr c4
        obtain rfl := Option.some.inj H
        go_enter Try.func45, Try.ntmps45
        go_wp2
        go_ret
        exact ⟨by first | rfl | (simp; done) | (simp [*]; done), by repeat (first | exact Drawn0.refl _ | apply Drawn0.step)⟩

/-! ### protocol_ZzType: function 29 -/
def protocol_ZzType.f (a0 : Int) : Option (Bool × Bool × Bool × Bool × Int × Int) := (protocol_typeCode_isLob.f a0).bind fun t101 => ((protocol_typeCode_isVariableLength.f a0).bind fun t102 => ((protocol_typeCode_isDecimalType.f a0).bind fun t103 => ((protocol_typeCode_supportNullValue.f a0).bind fun t104 => ((protocol_typeCode_nullValue.f a0).bind fun t105 => ((protocol_typeCode_encTc.f a0).bind fun t106 => (some (t101, t102, t103, t104, t105, t106)))))))
set_option maxHeartbeats 8000000 in
set_option maxRecDepth 100000 in
theorem protocol_ZzType.calls (a0 : Int) (r1 : Bool) (r2 : Bool) (r3 : Bool) (r4 : Bool) (r5 : Int) (r6 : Int) (w : World) (h : protocol_ZzType.f a0 = some (r1, r2, r3, r4, r5, r6)) :
    Calls Try.prog 29 #[.int .u8 a0] w fun e w' => e = .returned (.tuple #[.bool r1, .bool r2, .bool r3, .bool r4, .int .u8 r5, .int .u8 r6]) ∧ Drawn0 w w' := by
  have H : ((protocol_typeCode_isLob.f a0).bind fun t101 => ((protocol_typeCode_isVariableLength.f a0).bind fun t102 => ((protocol_typeCode_isDecimalType.f a0).bind fun t103 => ((protocol_typeCode_supportNullValue.f a0).bind fun t104 => ((protocol_typeCode_nullValue.f a0).bind fun t105 => ((protocol_typeCode_encTc.f a0).bind fun t106 => (some (t101, t102, t103, t104, t105, t106)))))))) = some (r1, r2, r3, r4, r5, r6) := h
  clear h
  replace H := Option.bind_eq_some_iff.mp H
  obtain ⟨t101, A20, H⟩ := H
  replace H : ((protocol_typeCode_isVariableLength.f a0).bind fun t102 => ((protocol_typeCode_isDecimalType.f a0).bind fun t103 => ((protocol_typeCode_supportNullValue.f a0).bind fun t104 => ((protocol_typeCode_nullValue.f a0).bind fun t105 => ((protocol_typeCode_encTc.f a0).bind fun t106 => (some (t101, t102, t103, t104, t105, t106))))))) = some (r1, r2, r3, r4, r5, r6) := H
  have A2 := Aside0.mk A20
  clear A20
  replace H := Option.bind_eq_some_iff.mp H
  obtain ⟨t102, A30, H⟩ := H
  replace H : ((protocol_typeCode_isDecimalType.f a0).bind fun t103 => ((protocol_typeCode_supportNullValue.f a0).bind fun t104 => ((protocol_typeCode_nullValue.f a0).bind fun t105 => ((protocol_typeCode_encTc.f a0).bind fun t106 => (some (t101, t102, t103, t104, t105, t106)))))) = some (r1, r2, r3, r4, r5, r6) := H
  have A3 := Aside0.mk A30
  clear A30
  replace H := Option.bind_eq_some_iff.mp H
  obtain ⟨t103, A40, H⟩ := H
  replace H : ((protocol_typeCode_supportNullValue.f a0).bind fun t104 => ((protocol_typeCode_nullValue.f a0).bind fun t105 => ((protocol_typeCode_encTc.f a0).bind fun t106 => (some (t101, t102, t103, t104, t105, t106))))) = some (r1, r2, r3, r4, r5, r6) := H
  have A4 := Aside0.mk A40
  clear A40
  replace H := Option.bind_eq_some_iff.mp H
  obtain ⟨t104, A50, H⟩ := H
  replace H : ((protocol_typeCode_nullValue.f a0).bind fun t105 => ((protocol_typeCode_encTc.f a0).bind fun t106 => (some (t101, t102, t103, t104, t105, t106)))) = some (r1, r2, r3, r4, r5, r6) := H
  have A5 := Aside0.mk A50
  clear A50
  replace H := Option.bind_eq_some_iff.mp H
  obtain ⟨t105, A60, H⟩ := H
  replace H : ((protocol_typeCode_encTc.f a0).bind fun t106 => (some (t101, t102, t103, t104, t105, t106))) = some (r1, r2, r3, r4, r5, r6) := H
  have A6 := Aside0.mk A60
  clear A60
  replace H := Option.bind_eq_some_iff.mp H
  obtain ⟨t106, A70, H⟩ := H
  replace H : (some (t101, t102, t103, t104, t105, t106)) = some (r1, r2, r3, r4, r5, r6) := H
  have A7 := Aside0.mk A70
  clear A70
  simp only [Option.some.injEq, Prod.mk.injEq] at H
  obtain ⟨rfl, rfl, rfl, rfl, rfl, rfl⟩ := H
  go_enter Try.func29, Try.ntmps29
  go_wp2_with (first | ((with_reducible refine gate_callee (f := 40) rfl ?_); refine goesL_ (some 11) rfl rfl Try.func40 (by kernel_rfl) rfl #[.int .u8 a0] rfl (by (try simp only [List.map_toArray, List.map_cons, List.map_nil]); first | done | rfl | (simp only [List.length_drop, List.length_take]; rfl)) ?_; (with_reducible refine (protocol_typeCode_isLob.calls a0 t101 _ A2.out).mono ?_); rintro e w' ⟨rfl, ⟨nd, rfl⟩⟩; refine ⟨_, rfl, ?_⟩) | ((with_reducible refine gate_callee (f := 41) rfl ?_); refine goesL_ (some 13) rfl rfl Try.func41 (by kernel_rfl) rfl #[.int .u8 a0] rfl (by (try simp only [List.map_toArray, List.map_cons, List.map_nil]); first | done | rfl | (simp only [List.length_drop, List.length_take]; rfl)) ?_; (with_reducible refine (protocol_typeCode_isVariableLength.calls a0 t102 _ A3.out).mono ?_); rintro e w' ⟨rfl, ⟨nd, rfl⟩⟩; refine ⟨_, rfl, ?_⟩) | ((with_reducible refine gate_callee (f := 42) rfl ?_); refine goesL_ (some 15) rfl rfl Try.func42 (by kernel_rfl) rfl #[.int .u8 a0] rfl (by (try simp only [List.map_toArray, List.map_cons, List.map_nil]); first | done | rfl | (simp only [List.length_drop, List.length_take]; rfl)) ?_; (with_reducible refine (protocol_typeCode_isDecimalType.calls a0 t103 _ A4.out).mono ?_); rintro e w' ⟨rfl, ⟨nd, rfl⟩⟩; refine ⟨_, rfl, ?_⟩) | ((with_reducible refine gate_callee (f := 43) rfl ?_); refine goesL_ (some 17) rfl rfl Try.func43 (by kernel_rfl) rfl #[.int .u8 a0] rfl (by (try simp only [List.map_toArray, List.map_cons, List.map_nil]); first | done | rfl | (simp only [List.length_drop, List.length_take]; rfl)) ?_; (with_reducible refine (protocol_typeCode_supportNullValue.calls a0 t104 _ A5.out).mono ?_); rintro e w' ⟨rfl, ⟨nd, rfl⟩⟩; refine ⟨_, rfl, ?_⟩) | ((with_reducible refine gate_callee (f := 44) rfl ?_); refine goesL_ (some 19) rfl rfl Try.func44 (by kernel_rfl) rfl #[.int .u8 a0] rfl (by (try simp only [List.map_toArray, List.map_cons, List.map_nil]); first | done | rfl | (simp only [List.length_drop, List.length_take]; rfl)) ?_; (with_reducible refine (protocol_typeCode_nullValue.calls a0 t105 _ A6.out).mono ?_); rintro e w' ⟨rfl, ⟨nd, rfl⟩⟩; refine ⟨_, rfl, ?_⟩) | ((with_reducible refine gate_callee (f := 45) rfl ?_); refine goesL_ (some 21) rfl rfl Try.func45 (by kernel_rfl) rfl #[.int .u8 a0] rfl (by (try simp only [List.map_toArray, List.map_cons, List.map_nil]); first | done | rfl | (simp only [List.length_drop, List.length_take]; rfl)) ?_; (with_reducible refine (protocol_typeCode_encTc.calls a0 t106 _ A7.out).mono ?_); rintro e w' ⟨rfl, ⟨nd, rfl⟩⟩; refine ⟨_, rfl, ?_⟩))
  refine bodyPost_ret (results_list (rs := [.tmp 2, .tmp 3, .tmp 4, .tmp 5, .tmp 6, .tmp 7]) rfl (by simp) (.tmp (.tmp (.tmp (.tmp (.tmp (.tmp .nil))))))) rfl ?_
  exact ⟨by first | rfl | (simp; done) | (simp [*]; done), by repeat (first | exact Drawn0.refl _ | apply Drawn0.step)⟩

/-! ### impl_CodeKinds: function 15 -/
def impl_CodeKinds.f (a0 : Int) : Option (Bool × Bool × Bool × Bool × Int × Int) := (protocol_ZzType.f ((a0) % 256)).bind fun bt107 => (some (bt107.1, bt107.2.1, bt107.2.2.1, bt107.2.2.2.1, wrap64 (bt107.2.2.2.2.1), wrap64 (bt107.2.2.2.2.2)))
set_option maxHeartbeats 8000000 in
set_option maxRecDepth 100000 in
theorem impl_CodeKinds.calls (a0 : Int) (r1 : Bool) (r2 : Bool) (r3 : Bool) (r4 : Bool) (r5 : Int) (r6 : Int) (w : World) (h : impl_CodeKinds.f a0 = some (r1, r2, r3, r4, r5, r6)) :
    Calls Try.prog 15 #[.int .i64 a0] w fun e w' => e = .returned (.tuple #[.bool r1, .bool r2, .bool r3, .bool r4, .int .i64 r5, .int .i64 r6]) ∧ Drawn0 w w' := by
  have H : ((protocol_ZzType.f ((a0) % 256)).bind fun bt107 => (some (bt107.1, bt107.2.1, bt107.2.2.1, bt107.2.2.2.1, wrap64 (bt107.2.2.2.2.1), wrap64 (bt107.2.2.2.2.2)))) = some (r1, r2, r3, r4, r5, r6) := h
  clear h
  replace H := Option.bind_eq_some_iff.mp H
  obtain ⟨⟨t107, t108, t109, t110, t111, t112⟩, A20, H⟩ := H
  replace H : (some (t107, t108, t109, t110, wrap64 (t111), wrap64 (t112))) = some (r1, r2, r3, r4, r5, r6) := H
  have A2 := Aside0.mk A20
  clear A20
  simp only [Option.some.injEq, Prod.mk.injEq] at H
  obtain ⟨rfl, rfl, rfl, rfl, rfl, rfl⟩ := H
  go_enter Try.func15, Try.ntmps15
  go_wp2_with (first | ((with_reducible refine gate_callee (f := 29) rfl ?_); refine goesL_ (some 17) rfl rfl Try.func29 (by kernel_rfl) rfl #[.int .u8 ((a0) % 256)] rfl (by (try simp only [List.map_toArray, List.map_cons, List.map_nil]); first | done | rfl | (simp only [List.length_drop, List.length_take]; rfl)) ?_; (with_reducible refine (protocol_ZzType.calls ((a0) % 256) t107 t108 t109 t110 t111 t112 _ A2.out).mono ?_); rintro e w' ⟨rfl, ⟨nd, rfl⟩⟩; refine ⟨_, rfl, ?_⟩))
  refine bodyPost_ret (results_list (rs := [.tmp 2, .tmp 3, .tmp 4, .tmp 5, .tmp 6, .tmp 7]) rfl (by simp) (.tmp (.tmp (.tmp (.tmp (.tmp (.tmp .nil))))))) rfl ?_
  exact ⟨by first | rfl | (simp; done) | (simp [*]; done), by repeat (first | exact Drawn0.refl _ | apply Drawn0.step)⟩

-- NOT PRINTED: function 6 (laws_FnVaCodeKinds)

end Go.Proofs.Ytenefomcbjeccaa.PFnVaCodeKinds
