-- PRINTED BY print.sh 35421559b90ae4d0a3588c463048766b98c2df88dd9212a6774a882060cdf62d: not written by this session
import Derived.Test.YtlbbdnngjkjafaaPFnTagx0
import Derived.Test.YtlbbdnngjkjafaaPFnTagx1
namespace Go.Proofs.Ytlbbdnngjkjafaa.PFnTag
open Go.RowKit Go.Proofs.YtlbbdnngjkjafaaW.PrintWords Go.Proofs.YtlbbdnngjkjafaaW.PrintLast Go.Proofs.YtlbbdnngjkjafaaW.PrintMore
attribute [local go_sem] max2_int min2_int max_two min_two max_three min_three max_four min_four   -- for this text's walks alone
set_option linter.unusedVariables false
set_option linter.unusedSimpArgs false

/-! ### laws_FnTag: function 11 -/
mutual
def laws_FnTag.l0 : Nat → ByteArray → List Int → Int → Option (Bool)
  | 0, _, _, _ => none
  | k + 1, x0, x3, x4 => if x4 < (x0.size : Int) then (laws_FnTag.j1 k x0 x3 x4 (decide (x4 < 80))) else (laws_FnTag.j1 k x0 x3 x4 false)
def laws_FnTag.j1 : Nat → ByteArray → List Int → Int → Bool → Option (Bool)
  | 0, _, _, _, _ => none
  | k + 1, x0, x3, x4, x21 => if x21 = true then (if 0 ≤ x4 then (if x4 < (x0.size : Int) then (if (bt x0 x4) > 32 then (if (bt x0 x4) < 127 then (if x3.length < 140737488355328 then (laws_FnTag.l0 k x0 (x3 ++ [bt x0 x4]) (wrap64 (x4 + 1))) else (none)) else (laws_FnTag.l0 k x0 x3 (wrap64 (x4 + 1)))) else (laws_FnTag.l0 k x0 x3 (wrap64 (x4 + 1)))) else (none)) else (none)) else ((spec_ScParts.f k (strOfNums x3) 44 3).bind fun t128 => ((some (([(⟨#[]⟩ : ByteArray), (⟨#[]⟩ : ByteArray)] : List ByteArray) : List ByteArray)).bind fun y131 => (if t128.length + y131.length < 8796093022208 then ((some (t128 ++ y131 : List ByteArray)).bind fun y134 => ((impl_TagOf.f k (strOfNums x3)).bind fun bt137 => (if 0 < (y134.length : Int) then (if bt137.1.toList = (rdOf ByteArray.empty y134 0).toList then (if 1 < (y134.length : Int) then (if bt137.2.1.toList = (rdOf ByteArray.empty y134 1).toList then (if 2 < (y134.length : Int) then (laws_FnTag.j2 k bt137.2.2 (bt137.2.2.toList != (rdOf ByteArray.empty y134 2).toList)) else (none)) else (laws_FnTag.j2 k bt137.2.2 true)) else (none)) else (laws_FnTag.j2 k bt137.2.2 true)) else (none)))) else (none))))
def laws_FnTag.j2 : Nat → ByteArray → Bool → Option (Bool)
  | 0, _, _ => none
  | k + 1, x8, x70 => if x70 = true then (some false) else ((spec_ScParts.f k x8 44 100).bind fun t143 => (laws_FnTag.l1 k x8 t143 (t143.length : Int) 0))
def laws_FnTag.l1 : Nat → ByteArray → List ByteArray → Int → Int → Option (Bool)
  | 0, _, _, _, _ => none
  | k + 1, x8, x72, x73, x74 => if x74 < x73 then (if 0 ≤ x74 then (if x74 < (x72.length : Int) then (if (rdOf ByteArray.empty x72 x74).toList = ([] : List UInt8) then (laws_FnTag.l1 k x8 x72 x73 (wrap64 (x74 + 1))) else ((impl_TagHas.f k x8 (rdOf ByteArray.empty x72 x74)).bind fun t147 => (if t147 = true then (laws_FnTag.l1 k x8 x72 x73 (wrap64 (x74 + 1))) else (some false)))) else (none)) else (none)) else ((impl_TagHas.f k x8 (⟨#[110, 111, 32, 115, 117, 99, 104, 32, 111, 112, 116, 105, 111, 110]⟩ : ByteArray)).bind fun t148 => (if t148 = true then (some false) else ((impl_TagHas.f k (⟨#[97, 44, 98]⟩ : ByteArray) (⟨#[98]⟩ : ByteArray)).bind fun t149 => (some t149))))
end
def laws_FnTag.f (k : Nat) (a0 : ByteArray) : Option (Bool) := if (a0.size : Int) > 2147483647 then (some true) else (laws_FnTag.l0 k a0 ([] : List Int) 0)
theorem laws_FnTag.mono_l : ∀ k, (∀ y0 y1 y2, LeO (laws_FnTag.l0 k y0 y1 y2) (laws_FnTag.l0 (k + 1) y0 y1 y2)) ∧ (∀ y0 y1 y2 y3, LeO (laws_FnTag.j1 k y0 y1 y2 y3) (laws_FnTag.j1 (k + 1) y0 y1 y2 y3)) ∧ (∀ y0 y1, LeO (laws_FnTag.j2 k y0 y1) (laws_FnTag.j2 (k + 1) y0 y1)) ∧ (∀ y0 y1 y2 y3, LeO (laws_FnTag.l1 k y0 y1 y2 y3) (laws_FnTag.l1 (k + 1) y0 y1 y2 y3))
  | 0 => ⟨fun _ _ _ r h => by simp [laws_FnTag.l0] at h, fun _ _ _ _ r h => by simp [laws_FnTag.j1] at h, fun _ _ r h => by simp [laws_FnTag.j2] at h, fun _ _ _ _ r h => by simp [laws_FnTag.l1] at h⟩
  | k + 1 => by
    obtain ⟨ih0, ih1, ih2, ih3⟩ := laws_FnTag.mono_l k
    refine ⟨?_, ?_, ?_, ?_⟩
    · intro y0 y1 y2
      unfold laws_FnTag.l0
      repeat' first
      | (with_reducible exact ih0 _ _ _)
      | (with_reducible exact ih1 _ _ _ _)
      | (with_reducible exact ih2 _ _)
      | (with_reducible exact ih3 _ _ _ _)
      | (with_reducible exact impl_TagHas.mono _ _ _)
      | (with_reducible exact impl_TagOf.mono _ _)
      | (with_reducible exact spec_ScParts.mono _ _ _ _)
      | (with_reducible exact LeO.refl _)
      | (with_reducible exact LeO.none _)
      | (with_reducible refine LeO.ite ?_ ?_)
      | (with_reducible refine LeO.bind ?_ (fun _ => ?_))
      | exact ih0 _ _ _
      | exact ih1 _ _ _ _
      | exact ih2 _ _
      | exact ih3 _ _ _ _
      | exact impl_TagHas.mono _ _ _
      | exact impl_TagOf.mono _ _
      | exact spec_ScParts.mono _ _ _ _
      | exact LeO.none _
      | refine LeO.ite ?_ ?_
      | refine LeO.bind ?_ (fun _ => ?_)
    · intro y0 y1 y2 y3
      unfold laws_FnTag.j1
      repeat' first
      | (with_reducible exact ih0 _ _ _)
      | (with_reducible exact ih1 _ _ _ _)
      | (with_reducible exact ih2 _ _)
      | (with_reducible exact ih3 _ _ _ _)
      | (with_reducible exact impl_TagHas.mono _ _ _)
      | (with_reducible exact impl_TagOf.mono _ _)
      | (with_reducible exact spec_ScParts.mono _ _ _ _)
      | (with_reducible exact LeO.refl _)
      | (with_reducible exact LeO.none _)
      | (with_reducible refine LeO.ite ?_ ?_)
      | (with_reducible refine LeO.bind ?_ (fun _ => ?_))
      | exact ih0 _ _ _
      | exact ih1 _ _ _ _
      | exact ih2 _ _
      | exact ih3 _ _ _ _
      | exact impl_TagHas.mono _ _ _
      | exact impl_TagOf.mono _ _
      | exact spec_ScParts.mono _ _ _ _
      | exact LeO.none _
      | refine LeO.ite ?_ ?_
      | refine LeO.bind ?_ (fun _ => ?_)
    · intro y0 y1
      unfold laws_FnTag.j2
      repeat' first
      | (with_reducible exact ih0 _ _ _)
      | (with_reducible exact ih1 _ _ _ _)
      | (with_reducible exact ih2 _ _)
      | (with_reducible exact ih3 _ _ _ _)
      | (with_reducible exact impl_TagHas.mono _ _ _)
      | (with_reducible exact impl_TagOf.mono _ _)
      | (with_reducible exact spec_ScParts.mono _ _ _ _)
      | (with_reducible exact LeO.refl _)
      | (with_reducible exact LeO.none _)
      | (with_reducible refine LeO.ite ?_ ?_)
      | (with_reducible refine LeO.bind ?_ (fun _ => ?_))
      | exact ih0 _ _ _
      | exact ih1 _ _ _ _
      | exact ih2 _ _
      | exact ih3 _ _ _ _
      | exact impl_TagHas.mono _ _ _
      | exact impl_TagOf.mono _ _
      | exact spec_ScParts.mono _ _ _ _
      | exact LeO.none _
      | refine LeO.ite ?_ ?_
      | refine LeO.bind ?_ (fun _ => ?_)
    · intro y0 y1 y2 y3
      unfold laws_FnTag.l1
      repeat' first
      | (with_reducible exact ih0 _ _ _)
      | (with_reducible exact ih1 _ _ _ _)
      | (with_reducible exact ih2 _ _)
      | (with_reducible exact ih3 _ _ _ _)
      | (with_reducible exact impl_TagHas.mono _ _ _)
      | (with_reducible exact impl_TagOf.mono _ _)
      | (with_reducible exact spec_ScParts.mono _ _ _ _)
      | (with_reducible exact LeO.refl _)
      | (with_reducible exact LeO.none _)
      | (with_reducible refine LeO.ite ?_ ?_)
      | (with_reducible refine LeO.bind ?_ (fun _ => ?_))
      | exact ih0 _ _ _
      | exact ih1 _ _ _ _
      | exact ih2 _ _
      | exact ih3 _ _ _ _
      | exact impl_TagHas.mono _ _ _
      | exact impl_TagOf.mono _ _
      | exact spec_ScParts.mono _ _ _ _
      | exact LeO.none _
      | refine LeO.ite ?_ ?_
      | refine LeO.bind ?_ (fun _ => ?_)
theorem laws_FnTag.mono : ∀ a0 k, LeO (laws_FnTag.f k a0) (laws_FnTag.f (k + 1) a0) := by
  intro a0 k
  obtain ⟨ih0, ih1, ih2, ih3⟩ := laws_FnTag.mono_l k
  unfold laws_FnTag.f
  repeat' first
      | (with_reducible exact ih0 _ _ _)
      | (with_reducible exact ih1 _ _ _ _)
      | (with_reducible exact ih2 _ _)
      | (with_reducible exact ih3 _ _ _ _)
      | (with_reducible exact impl_TagHas.mono _ _ _)
      | (with_reducible exact impl_TagOf.mono _ _)
      | (with_reducible exact spec_ScParts.mono _ _ _ _)
      | (with_reducible exact LeO.refl _)
      | (with_reducible exact LeO.none _)
      | (with_reducible refine LeO.ite ?_ ?_)
      | (with_reducible refine LeO.bind ?_ (fun _ => ?_))
      | exact ih0 _ _ _
      | exact ih1 _ _ _ _
      | exact ih2 _ _
      | exact ih3 _ _ _ _
      | exact impl_TagHas.mono _ _ _
      | exact impl_TagOf.mono _ _
      | exact spec_ScParts.mono _ _ _ _
      | exact LeO.none _
      | refine LeO.ite ?_ ?_
      | refine LeO.bind ?_ (fun _ => ?_)
set_option maxHeartbeats 8000000 in
set_option maxRecDepth 100000 in
theorem laws_FnTag.calls (k : Nat) (a0 : ByteArray) (r : Bool) (w : World) (h : laws_FnTag.f k a0 = some r) :
    Calls Try.prog 11 #[.string a0] w fun e w' => e = .returned (.bool r) ∧ Below w.heap.size w w' := by
  have HB := Aside0.mk (Below.refl w.heap.size w)
  have H : (if (a0.size : Int) > 2147483647 then (some true) else (laws_FnTag.l0 k a0 ([] : List Int) 0)) = some r := h
  clear h
  by_cases c2 : (a0.size : Int) > 2147483647
  · rw [if_pos c2] at H
    have c2b0 : decide (2147483647 < (a0.size : Int)) = true := decide_eq_true c2
    have c2b1 : decide (2147483647 < a0.size) = true := decide_eq_true (by omega)
    clear c2
    obtain rfl := Option.some.inj H
    go_enter Try.func11, Try.ntmps11
    go_wp2
    go_ret
    exact ⟨by first | rfl | (simp [errW_none, errW_some] <;> rfl) | (simp [*, errW_none, errW_some] <;> rfl), by repeat (first | (with_reducible first | exact HB.out | apply below_alloc | apply pw_below_drewN | apply below_drew1) | exact HB.out)⟩
  · rw [if_neg c2] at H
    have c2b0 : decide (2147483647 < (a0.size : Int)) = false := decide_eq_false c2
    have c2b1 : decide (2147483647 < a0.size) = false := decide_eq_false (by omega)
    clear c2
    have H' := Aside0.mk H
    clear H
    go_enter Try.func11, Try.ntmps11
    go_wp2
    go_loopg [3, 4] k (fun kq v3 v4 w' => ∃ (x3_1 : List Int) (x4_1 : Int), v4 = .int .i64 x4_1 ∧ Aside0 (laws_FnTag.l0 kq a0 x3_1 x4_1 = some r) ∧ Aside0 (kq ≤ k) ∧ Aside0 (Kd.R (Kd.int .u8) 5 w' w.heap.size (fun _ => True) v3 x3_1) ∧ Aside0 (Below w.heap.size w w'))
    case atStart => exact ⟨(([] : List Int)), (0), (by first | rfl | (simp; done) | (simp [*]; done)), H', ⟨Nat.le_refl _⟩, ⟨by first | exact Kd.R_nil _ _ _ _ _ | exact Kd.N_nil _ _ _ _ _ | exact Kd.V_nil _ _ _ _ _ | exact Kd.Q_nil _ _ _ _ _ | exact Kd.S_nil _ _ _ _ _⟩, ⟨by repeat (first | (with_reducible first | exact HB.out | apply below_alloc | apply pw_below_drewN | apply below_drew1) | exact HB.out)⟩⟩
    case round =>
      clear H'
      try clear c1
      try clear c2
      try clear c2b0
      try clear c2b1
      try clear p2
      obtain ⟨x3_1, x4_1, rfl, HA, HK1, HO_3, HB⟩ := hrel
      cases gk with
      | zero => exact absurd HA.out (by simp [laws_FnTag.l0])
      | succ k1 =>
        have H := HA.out
        clear HA
        simp only [laws_FnTag.l0] at H
        have HC3 := Aside0.mk H
        clear H
        go_upto_region 5 with (fail)
        go_cut [21] (fun v21 wc => ∃ (kq : Nat) (x21_2 : Bool), v21 = .bool x21_2 ∧ Aside0 (laws_FnTag.j1 kq a0 x3_1 x4_1 x21_2 = some r) ∧ Aside0 (kq ≤ k1) ∧ Aside0 (Kd.R (Kd.int .u8) 5 wc w.heap.size (fun _ => True) u3 x3_1) ∧ Aside0 (Below w.heap.size w wc))
        case first =>
          have H := HC3.out
          clear HC3
          by_cases c4 : x4_1 < (a0.size : Int)
          · rw [if_pos c4] at H
            have c4b0 : decide (x4_1 < (a0.size : Int)) = true := decide_eq_true c4
            clear c4
            (first | rw [c4b0] | (simp only [i64_w, i32_w]; rw [c4b0]) | skip)
            have H' := Aside0.mk H
            clear H
            go_wp2
            go_meet
            case rel => exact ⟨_, (decide (x4_1 < 80)), (by first | rfl | (simp; done) | (simp [*]; done)), H', ⟨by have := HK1.out; first | omega | exact Nat.le_refl _⟩, ⟨by (with_reducible repeat (first | apply Kd.R_alloc | apply Kd.R_drewN | apply Kd.R_drew)); exact HO_3.out⟩, ⟨by repeat (first | (with_reducible first | exact HB.out | apply below_alloc | apply pw_below_drewN | apply below_drew1) | exact HB.out)⟩⟩
          · rw [if_neg c4] at H
            have c4b0 : decide (x4_1 < (a0.size : Int)) = false := decide_eq_false c4
            clear c4
            (first | rw [c4b0] | (simp only [i64_w, i32_w]; rw [c4b0]) | skip)
            have H' := Aside0.mk H
            clear H
            go_wp2
            go_meet
            case rel => exact ⟨_, (false), (by first | rfl | (simp; done) | (simp [*]; done)), H', ⟨by have := HK1.out; first | omega | exact Nat.le_refl _⟩, ⟨by (with_reducible repeat (first | apply Kd.R_alloc | apply Kd.R_drewN | apply Kd.R_drew)); exact HO_3.out⟩, ⟨by repeat (first | (with_reducible first | exact HB.out | apply below_alloc | apply pw_below_drewN | apply below_drew1) | exact HB.out)⟩⟩
        case rest =>
          clear HC3
          try clear c1
          try clear c2
          try clear c2b0
          try clear c2b1
          try clear p2
          try clear c4
          try clear c4b0
          try clear p2
          obtain ⟨kq, x21_2, rfl, HA, HJ2, HO_3, HB⟩ := hcut
          cases kq with
          | zero => exact absurd HA.out (by simp [laws_FnTag.j1])
          | succ kj2 =>
            have H := HA.out
            clear HA
            simp only [laws_FnTag.j1] at H
            by_cases c5 : x21_2 = true
            · subst c5
              have H1 : (if 0 ≤ x4_1 then (if x4_1 < (a0.size : Int) then (if (bt a0 x4_1) > 32 then (if (bt a0 x4_1) < 127 then (if x3_1.length < 140737488355328 then (laws_FnTag.l0 kj2 a0 (x3_1 ++ [bt a0 x4_1]) (wrap64 (x4_1 + 1))) else (none)) else (laws_FnTag.l0 kj2 a0 x3_1 (wrap64 (x4_1 + 1)))) else (laws_FnTag.l0 kj2 a0 x3_1 (wrap64 (x4_1 + 1)))) else (none)) else (none)) = some r := by rw [if_pos rfl] at H; exact H
              clear H
              have H := H1
              clear H1
              by_cases c6 : 0 ≤ x4_1
              · rw [if_pos c6] at H
                have c6b0 : decide (0 ≤ x4_1) = true := decide_eq_true c6
                clear c6
                by_cases c7 : x4_1 < (a0.size : Int)
                · rw [if_pos c7] at H
                  have c7b0 : decide (x4_1 < (a0.size : Int)) = true := decide_eq_true c7
                  clear c7
                  by_cases c9 : (bt a0 x4_1) > 32
                  · rw [if_pos c9] at H
                    have c9b0 : decide (32 < (bt a0 x4_1)) = true := decide_eq_true c9
                    clear c9
                    by_cases c11 : (bt a0 x4_1) < 127
                    · rw [if_pos c11] at H
                      have c11b0 : decide ((bt a0 x4_1) < 127) = true := decide_eq_true c11
                      clear c11
                      by_cases c13 : x3_1.length < 140737488355328
                      · rw [if_pos c13] at H
                        have LMc13 := Aside0.mk c13
                        clear c13
                        obtain ⟨y125, hy125⟩ : ∃ y_ : List Int, y_ = (x3_1 ++ [bt a0 x4_1]) := ⟨_, rfl⟩
                        replace H : (laws_FnTag.l0 kj2 a0 y125 (wrap64 (x4_1 + 1))) = some r := by first | (rw [hy125]; with_reducible exact H) | (have H2_ := (Option.bind_some _ _).symm.trans H; rw [hy125]; with_reducible exact H2_) | (have H2_ := (Option.bind_some _ _).symm.trans H; with_reducible exact H2_) | with_reducible exact H | (rw [hy125]; exact H) | exact H
                        have Ny125 := Aside0.mk hy125
                        clear hy125
                        have H' := Aside0.mk H
                        clear H
                        have p8 : 0 ≤ (x4_1 : Int) := of_decide_eq_true (by first | (with_reducible assumption) | assumption)
                        have q8 : x4_1 < (a0.size : Int) := of_decide_eq_true (by first | (with_reducible assumption) | assumption)
                        have hx8 := bt_at a0 x4_1
                        replace p8 := eq_true p8
                        replace q8 := eq_true q8
                        have p10 : 0 ≤ (x4_1 : Int) := of_decide_eq_true (by first | (with_reducible assumption) | assumption)
                        have q10 : x4_1 < (a0.size : Int) := of_decide_eq_true (by first | (with_reducible assumption) | assumption)
                        have hx10 := bt_at a0 x4_1
                        replace p10 := eq_true p10
                        replace q10 := eq_true q10
                        have p12 : 0 ≤ (x4_1 : Int) := of_decide_eq_true (by first | (with_reducible assumption) | assumption)
                        have q12 : x4_1 < (a0.size : Int) := of_decide_eq_true (by first | (with_reducible assumption) | assumption)
                        have hx12 := bt_at a0 x4_1
                        replace p12 := eq_true p12
                        replace q12 := eq_true q12
                        go_wp2_with (first | ((with_reducible refine gate_builtin (b := .append) (xs := #[.tmp 34, .tmp 38]) rfl ?_); at_builtin; refine Kd.R_append (Kd.int .u8) (w0 := w) w.heap.size rfl (.tmp 34) (.tmp 38) 34 5 (.int .u8 0) 1 rfl Try.underlying34 info5 rfl (by decide) (by omega) u3 x3_1 (bt a0 x4_1) [.int .u8 (bt a0 x4_1)] (fun _ => True) (fun _ => False) rfl rfl ?aP (fun _ hk => hk.elim) ?aF ?aO ?aB ?aS ?aL ?_; (case aP => exact rfl); (case aB => exact (by repeat (first | (with_reducible first | exact HB.out | apply below_alloc | apply pw_below_drewN | apply below_drew1) | exact HB.out))); (case aF => exact (fun _ _ => trivial)); (case aO => exact (by (with_reducible repeat (first | apply Kd.R_alloc | apply Kd.R_drewN | apply Kd.R_drew)); exact HO_3.out)); (case aS => exact (below_size (by repeat (first | (with_reducible first | exact HB.out | apply below_alloc | apply pw_below_drewN | apply below_drew1) | exact HB.out)))); (case aL => have := LMc13.out; omega); intro v126 w14 ho hb hg hat; rw [← Ny125.out] at ho; have n0_ := Aside0.mk (hb); have n1_ := Aside0.mk (ho); clear HB; clear HO_3; have HB := n0_; have HO127 := n1_; clear n0_ n1_; clear ho hb hg hat))
                        go_roundg kj2
                        case measure => have := HK1.out; have := HJ2.out; omega
                        case rel => exact ⟨(y125), (wrap64 (x4_1 + 1)), (by first | rfl | (simp; done) | (simp [*]; done)), H', ⟨by have := HK1.out; have := HJ2.out; omega⟩, ⟨by (with_reducible repeat (first | apply Kd.R_alloc | apply Kd.R_drewN | apply Kd.R_drew)); exact HO127.out⟩, ⟨by repeat (first | (with_reducible first | exact HB.out | apply below_alloc | apply pw_below_drewN | apply below_drew1) | exact HB.out)⟩⟩
                      · rw [if_neg c13] at H
                        exact absurd H (by simp)
                    · rw [if_neg c11] at H
                      have c11b0 : decide ((bt a0 x4_1) < 127) = false := decide_eq_false c11
                      clear c11
                      have H' := Aside0.mk H
                      clear H
                      have p8 : 0 ≤ (x4_1 : Int) := of_decide_eq_true (by first | (with_reducible assumption) | assumption)
                      have q8 : x4_1 < (a0.size : Int) := of_decide_eq_true (by first | (with_reducible assumption) | assumption)
                      have hx8 := bt_at a0 x4_1
                      replace p8 := eq_true p8
                      replace q8 := eq_true q8
                      have p10 : 0 ≤ (x4_1 : Int) := of_decide_eq_true (by first | (with_reducible assumption) | assumption)
                      have q10 : x4_1 < (a0.size : Int) := of_decide_eq_true (by first | (with_reducible assumption) | assumption)
                      have hx10 := bt_at a0 x4_1
                      replace p10 := eq_true p10
                      replace q10 := eq_true q10
                      go_wp2
                      go_roundg kj2
                      case measure => have := HK1.out; have := HJ2.out; omega
                      case rel => exact ⟨(x3_1), (wrap64 (x4_1 + 1)), (by first | rfl | (simp; done) | (simp [*]; done)), H', ⟨by have := HK1.out; have := HJ2.out; omega⟩, ⟨by (with_reducible repeat (first | apply Kd.R_alloc | apply Kd.R_drewN | apply Kd.R_drew)); exact HO_3.out⟩, ⟨by repeat (first | (with_reducible first | exact HB.out | apply below_alloc | apply pw_below_drewN | apply below_drew1) | exact HB.out)⟩⟩
                  · rw [if_neg c9] at H
                    have c9b0 : decide (32 < (bt a0 x4_1)) = false := decide_eq_false c9
                    clear c9
                    have H' := Aside0.mk H
                    clear H
                    have p8 : 0 ≤ (x4_1 : Int) := of_decide_eq_true (by first | (with_reducible assumption) | assumption)
                    have q8 : x4_1 < (a0.size : Int) := of_decide_eq_true (by first | (with_reducible assumption) | assumption)
                    have hx8 := bt_at a0 x4_1
                    replace p8 := eq_true p8
                    replace q8 := eq_true q8
                    go_wp2
                    go_roundg kj2
                    case measure => have := HK1.out; have := HJ2.out; omega
                    case rel => exact ⟨(x3_1), (wrap64 (x4_1 + 1)), (by first | rfl | (simp; done) | (simp [*]; done)), H', ⟨by have := HK1.out; have := HJ2.out; omega⟩, ⟨by (with_reducible repeat (first | apply Kd.R_alloc | apply Kd.R_drewN | apply Kd.R_drew)); exact HO_3.out⟩, ⟨by repeat (first | (with_reducible first | exact HB.out | apply below_alloc | apply pw_below_drewN | apply below_drew1) | exact HB.out)⟩⟩
                · rw [if_neg c7] at H
                  exact absurd H (by simp)
              · rw [if_neg c6] at H
                exact absurd H (by simp)
            · replace c5 := Bool.eq_false_iff.mpr c5
              subst c5
              have H1 : ((spec_ScParts.f kj2 (strOfNums x3_1) 44 3).bind fun t128 => ((some (([(⟨#[]⟩ : ByteArray), (⟨#[]⟩ : ByteArray)] : List ByteArray) : List ByteArray)).bind fun y131 => (if t128.length + y131.length < 8796093022208 then ((some (t128 ++ y131 : List ByteArray)).bind fun y134 => ((impl_TagOf.f kj2 (strOfNums x3_1)).bind fun bt137 => (if 0 < (y134.length : Int) then (if bt137.1.toList = (rdOf ByteArray.empty y134 0).toList then (if 1 < (y134.length : Int) then (if bt137.2.1.toList = (rdOf ByteArray.empty y134 1).toList then (if 2 < (y134.length : Int) then (laws_FnTag.j2 kj2 bt137.2.2 (bt137.2.2.toList != (rdOf ByteArray.empty y134 2).toList)) else (none)) else (laws_FnTag.j2 kj2 bt137.2.2 true)) else (none)) else (laws_FnTag.j2 kj2 bt137.2.2 true)) else (none)))) else (none)))) = some r := by rw [if_neg (show ¬ (false = true) by decide)] at H; exact H
              clear H
              have H := H1
              clear H1
              replace H := Option.bind_eq_some_iff.mp H
              obtain ⟨t128, A150, H⟩ := H
              replace H : ((some (([(⟨#[]⟩ : ByteArray), (⟨#[]⟩ : ByteArray)] : List ByteArray) : List ByteArray)).bind fun y131 => (if t128.length + y131.length < 8796093022208 then ((some (t128 ++ y131 : List ByteArray)).bind fun y134 => ((impl_TagOf.f kj2 (strOfNums x3_1)).bind fun bt137 => (if 0 < (y134.length : Int) then (if bt137.1.toList = (rdOf ByteArray.empty y134 0).toList then (if 1 < (y134.length : Int) then (if bt137.2.1.toList = (rdOf ByteArray.empty y134 1).toList then (if 2 < (y134.length : Int) then (laws_FnTag.j2 kj2 bt137.2.2 (bt137.2.2.toList != (rdOf ByteArray.empty y134 2).toList)) else (none)) else (laws_FnTag.j2 kj2 bt137.2.2 true)) else (none)) else (laws_FnTag.j2 kj2 bt137.2.2 true)) else (none)))) else (none))) = some r := H
              have A15 := Aside0.mk A150
              clear A150
              obtain ⟨y131, hy131⟩ : ∃ y_ : List ByteArray, y_ = (([(⟨#[]⟩ : ByteArray), (⟨#[]⟩ : ByteArray)] : List ByteArray)) := ⟨_, rfl⟩
              replace H : (if t128.length + y131.length < 8796093022208 then ((some (t128 ++ y131 : List ByteArray)).bind fun y134 => ((impl_TagOf.f kj2 (strOfNums x3_1)).bind fun bt137 => (if 0 < (y134.length : Int) then (if bt137.1.toList = (rdOf ByteArray.empty y134 0).toList then (if 1 < (y134.length : Int) then (if bt137.2.1.toList = (rdOf ByteArray.empty y134 1).toList then (if 2 < (y134.length : Int) then (laws_FnTag.j2 kj2 bt137.2.2 (bt137.2.2.toList != (rdOf ByteArray.empty y134 2).toList)) else (none)) else (laws_FnTag.j2 kj2 bt137.2.2 true)) else (none)) else (laws_FnTag.j2 kj2 bt137.2.2 true)) else (none)))) else (none)) = some r := by first | (rw [hy131]; with_reducible exact H) | (have H2_ := (Option.bind_some _ _).symm.trans H; rw [hy131]; with_reducible exact H2_) | (have H2_ := (Option.bind_some _ _).symm.trans H; with_reducible exact H2_) | with_reducible exact H | (rw [hy131]; exact H) | exact H
              have Ny131 := Aside0.mk hy131
              clear hy131
              by_cases c16 : t128.length + y131.length < 8796093022208
              · rw [if_pos c16] at H
                have LMc16 := Aside0.mk c16
                clear c16
                obtain ⟨y134, hy134⟩ : ∃ y_ : List ByteArray, y_ = (t128 ++ y131) := ⟨_, rfl⟩
                replace H : ((impl_TagOf.f kj2 (strOfNums x3_1)).bind fun bt137 => (if 0 < (y134.length : Int) then (if bt137.1.toList = (rdOf ByteArray.empty y134 0).toList then (if 1 < (y134.length : Int) then (if bt137.2.1.toList = (rdOf ByteArray.empty y134 1).toList then (if 2 < (y134.length : Int) then (laws_FnTag.j2 kj2 bt137.2.2 (bt137.2.2.toList != (rdOf ByteArray.empty y134 2).toList)) else (none)) else (laws_FnTag.j2 kj2 bt137.2.2 true)) else (none)) else (laws_FnTag.j2 kj2 bt137.2.2 true)) else (none))) = some r := by first | (rw [hy134]; with_reducible exact H) | (have H2_ := (Option.bind_some _ _).symm.trans H; rw [hy134]; with_reducible exact H2_) | (have H2_ := (Option.bind_some _ _).symm.trans H; with_reducible exact H2_) | with_reducible exact H | (rw [hy134]; exact H) | exact H
                have Ny134 := Aside0.mk hy134
                clear hy134
                replace H := Option.bind_eq_some_iff.mp H
                obtain ⟨⟨t137, t138, t139⟩, A170, H⟩ := H
                replace H : (if 0 < (y134.length : Int) then (if t137.toList = (rdOf ByteArray.empty y134 0).toList then (if 1 < (y134.length : Int) then (if t138.toList = (rdOf ByteArray.empty y134 1).toList then (if 2 < (y134.length : Int) then (laws_FnTag.j2 kj2 t139 (t139.toList != (rdOf ByteArray.empty y134 2).toList)) else (none)) else (laws_FnTag.j2 kj2 t139 true)) else (none)) else (laws_FnTag.j2 kj2 t139 true)) else (none)) = some r := H
                have A17 := Aside0.mk A170
                clear A170
                have HC18 := Aside0.mk H
                clear H
                have hcv19 := own_string (P := Try.prog) Try.underlying34 Try.underlying5 Try.underlying9 (Kd.own_of_R HO_3.out)
                go_upto_region 11 with (first | ((with_reducible refine gate_callee (f := 24) rfl ?_); refine goesL_ (some 42) rfl rfl Try.func24 (by kernel_rfl) rfl #[.string (strOfNums x3_1), .int .u8 44, .int .i64 3] rfl (by (try simp only [List.map_toArray, List.map_cons, List.map_nil]); first | done | rfl | (simp only [List.length_drop, List.length_take]; rfl)) ?_; (with_reducible refine (spec_ScParts.calls kj2 (strOfNums x3_1) 44 3 t128 _ A15.out).mono ?_); rintro e w20 ⟨v129, rfl, ho0, hb⟩; refine ⟨_, rfl, ?_⟩; have n0_ := Aside0.mk (Kd.R_below (by (with_reducible repeat (first | apply Kd.R_alloc | apply Kd.R_drewN | apply Kd.R_drew)); exact HO_3.out) hb); have n1_ := Aside0.mk (Kd.R_lower ho0 (below_size (by repeat (first | (with_reducible first | exact HB.out | apply below_alloc | apply pw_below_drewN | apply below_drew1) | exact HB.out)))); have n2_ := Aside0.mk (below_step (by repeat (first | (with_reducible first | exact HB.out | apply below_alloc | apply pw_below_drewN | apply below_drew1) | exact HB.out)) hb); clear HO_3; clear HB; have HO_3 := n0_; have HO130 := n1_; have HB := n2_; clear n0_ n1_ n2_; (try clear hb); (try clear hb2); (try clear hk); (try clear hi); (try clear ho0)) | ((with_reducible refine gate_dst (N := 43) rfl ?_); refine Kd.R_lit Kd.string _ 9 ?hg (N := 43) ?hd (xs := ([(⟨#[]⟩ : ByteArray), (⟨#[]⟩ : ByteArray)] : List ByteArray)) (inner := [.string (⟨#[]⟩ : ByteArray), .string (⟨#[]⟩ : ByteArray)]) (ok := fun _ => True) (okp := fun _ => True) ?hr ?hp (fun _ hk => hk) trivial (Below.refl _ _) (Nat.le_refl _) (by simp) ?_; (case hd => rfl); (case hg => rfl); (case hr => first | (go_simp; done) | (go_simp; rfl)); (case hp => exact (Reps.one (show Kd.M Kd.string _ _ _ (⟨#[]⟩ : ByteArray) [.string (⟨#[]⟩ : ByteArray)] from rfl) (Reps.one (show Kd.M Kd.string _ _ _ (⟨#[]⟩ : ByteArray) [.string (⟨#[]⟩ : ByteArray)] from rfl) (Reps.none _ _)))); intro v132 w21 ho22 hb hg_ hnew_; clear hg_ hnew_; (first | rw [← Ny131.out] at ho22 | (simp only [Int.reduceToNat] at ho22; rw [← Ny131.out] at ho22)); have n0_ := Aside0.mk (Kd.R_below (by (with_reducible repeat (first | apply Kd.R_alloc | apply Kd.R_drewN | apply Kd.R_drew)); exact HO_3.out) hb); have n1_ := Aside0.mk (Kd.R_elder' (by (with_reducible repeat (first | apply Kd.R_alloc | apply Kd.R_drewN | apply Kd.R_drew)); exact HO130.out) (Kd.R_base ho22) hb); have n2_ := Aside0.mk (Kd.R_lower (Kd.R_new' ho22 (Kd.R_lt (by (with_reducible repeat (first | apply Kd.R_alloc | apply Kd.R_drewN | apply Kd.R_drew)); exact HO130.out))) (below_size (by repeat (first | (with_reducible first | exact HB.out | apply below_alloc | apply pw_below_drewN | apply below_drew1) | exact HB.out)))); have n3_ := Aside0.mk (below_step (by repeat (first | (with_reducible first | exact HB.out | apply below_alloc | apply pw_below_drewN | apply below_drew1) | exact HB.out)) hb); clear HO_3; clear HO130; clear HB; have HO_3 := n0_; have HO130 := n1_; have HO133 := n2_; have HB := n3_; clear n0_ n1_ n2_ n3_; clear hb ho22; obtain ⟨Ao24, co24, eo24⟩ := Kd.R_slice HO133.out; subst eo24) | ((with_reducible refine gate_builtin (b := .append) (xs := #[.tmp 42, .tmp 43]) rfl ?_); at_builtin; refine Kd.R_append_rows Kd.string (w0 := w) w.heap.size rfl (.tmp 42) (.tmp 43) 47 9 (.string ⟨#[]⟩) 16 rfl Try.underlying47 info9 rfl (by decide) (by omega) v129 t128 y131 _ _ _ (fun k_ => some k_ ≠ (.slice Ao24 y131.length co24 : Value).ownBlock) (fun _ => False) rfl rfl ?aO ?aR (fun _ _ h => h) (fun _ h => h.elim) ?aF ?aB ?aS ?aL ?_; (case aR => repeat (first | exact (Kd.R_reads' HO133.out).2.2 | (with_reducible refine Kd.C_alloc ?_ _) | (with_reducible refine Kd.C_drewN ?_ _) | (with_reducible refine Kd.C_drew ?_))); (case aB => exact (by repeat (first | (with_reducible first | exact HB.out | apply below_alloc | apply pw_below_drewN | apply below_drew1) | exact HB.out))); (case aF => exact (fun k_ hk => Kd.fresh' (Kd.R_lt (by (with_reducible repeat (first | apply Kd.R_alloc | apply Kd.R_drewN | apply Kd.R_drew)); exact HO133.out)) k_ hk)); (case aO => exact (by (with_reducible repeat (first | apply Kd.R_alloc | apply Kd.R_drewN | apply Kd.R_drew)); exact Kd.R_mono HO130.out (fun _ hk => hk.2))); (case aS => exact (below_size (by repeat (first | (with_reducible first | exact HB.out | apply below_alloc | apply pw_below_drewN | apply below_drew1) | exact HB.out)))); (case aL => have := LMc16.out; omega); intro v135 w23 ho hb hg hat; rw [← Ny134.out] at ho; have n0_ := Aside0.mk (Kd.R_over' (by (with_reducible repeat (first | apply Kd.R_alloc | apply Kd.R_drewN | apply Kd.R_drew)); exact HO_3.out) (Kd.R_typed (by (with_reducible repeat (first | apply Kd.R_alloc | apply Kd.R_drewN | apply Kd.R_drew)); exact HO130.out)) (by decide) hg); have n1_ := Aside0.mk (Kd.R_after (ok := (fun _ => True)) (by (with_reducible repeat (first | apply Kd.R_alloc | apply Kd.R_drewN | apply Kd.R_drew)); exact HO133.out) hg hat); have n2_ := Aside0.mk (hb); have n3_ := Aside0.mk (ho); clear HO_3; clear HO133; clear HB; clear HO130; have HO_3 := n0_; have HO133 := n1_; have HB := n2_; have HO136 := n3_; clear n0_ n1_ n2_ n3_; clear ho hb hg hat; have hcv25 := own_string (P := Try.prog) Try.underlying34 Try.underlying5 Try.underlying9 (Kd.own_of_R HO_3.out)) | ((with_reducible refine gate_callee (f := 25) rfl ?_); refine goesL_ (some 48) rfl rfl Try.func25 (by kernel_rfl) rfl #[.string (strOfNums x3_1)] rfl (by (try simp only [List.map_toArray, List.map_cons, List.map_nil]); first | done | rfl | (simp only [List.length_drop, List.length_take]; rfl)) ?_; (with_reducible refine (impl_TagOf.calls kj2 (strOfNums x3_1) t137 t138 t139 _ A17.out).mono ?_); rintro e w' ⟨rfl, ⟨nd, rfl⟩⟩; refine ⟨_, rfl, ?_⟩))
                (try simp only [Act.put, List.setIfInBounds_toArray, List.set_cons_zero, List.set_cons_succ])
                go_cut [70] (fun v70 wc => ∃ (kq : Nat) (x70_17 : Bool), v70 = .bool x70_17 ∧ Aside0 (laws_FnTag.j2 kq t139 x70_17 = some r) ∧ Aside0 (kq ≤ kj2) ∧ Aside0 (Below w.heap.size w wc))
                case first =>
                  have H := HC18.out
                  clear HC18
                  by_cases c26 : 0 < (y134.length : Int)
                  · rw [if_pos c26] at H
                    have c26b0 : decide (0 < (y134.length : Int)) = true := decide_eq_true c26
                    have c26b1 : decide (0 < y134.length) = true := decide_eq_true (by omega)
                    clear c26
                    (first | rw [c26b0] | (simp only [i64_w, i32_w]; rw [c26b0]) | skip)
                    by_cases c27 : t137.toList = (rdOf ByteArray.empty y134 0).toList
                    · rw [if_pos c27] at H
                      have c27b0 : (t137.toList == (rdOf ByteArray.empty y134 0).toList) = true := beq_iff_eq.mpr c27
                      have c27b1 : (t137.toList != (rdOf ByteArray.empty y134 0).toList) = false := bne_eq_false_iff_eq.mpr c27
                      clear c27
                      by_cases c28 : 1 < (y134.length : Int)
                      · rw [if_pos c28] at H
                        have c28b0 : decide (1 < (y134.length : Int)) = true := decide_eq_true c28
                        have c28b1 : decide (1 < y134.length) = true := decide_eq_true (by omega)
                        clear c28
                        by_cases c29 : t138.toList = (rdOf ByteArray.empty y134 1).toList
                        · rw [if_pos c29] at H
                          have c29b0 : (t138.toList == (rdOf ByteArray.empty y134 1).toList) = true := beq_iff_eq.mpr c29
                          have c29b1 : (t138.toList != (rdOf ByteArray.empty y134 1).toList) = false := bne_eq_false_iff_eq.mpr c29
                          clear c29
                          by_cases c30 : 2 < (y134.length : Int)
                          · rw [if_pos c30] at H
                            have c30b0 : decide (2 < (y134.length : Int)) = true := decide_eq_true c30
                            have c30b1 : decide (2 < y134.length) = true := decide_eq_true (by omega)
                            clear c30
                            have H' := Aside0.mk H
                            clear H
                            obtain ⟨Ao31, co31, eo31⟩ := Kd.R_slice HO136.out
                            subst eo31
                            have p140 : 0 ≤ (0 : Int) := (by omega)
                            have q140 : 0 < (y134.length : Int) := of_decide_eq_true (by first | (with_reducible assumption) | assumption)
                            obtain ⟨ad140, e140, hx140_0⟩ := Kd.at_string (Kd.R_reads' HO136.out).2.2 0 p140 q140
                            cases e140
                            have qi140 : (0 < y134.length) = True := eq_true (by omega)
                            (try rw [show ((0 : Int)).toNat = 0 from rfl] at hx140_0)
                            (try rw [Addr.add_zero'] at hx140_0)
                            replace p140 := eq_true p140
                            replace q140 := eq_true q140
                            have p141 : 0 ≤ (1 : Int) := (by omega)
                            have q141 : 1 < (y134.length : Int) := of_decide_eq_true (by first | (with_reducible assumption) | assumption)
                            obtain ⟨ad141, e141, hx141_0⟩ := Kd.at_string (Kd.R_reads' HO136.out).2.2 1 p141 q141
                            obtain rfl : ad140 = ad141 := (by injection e141)
                            (try simp only [show (1 : Int).toNat = 1 from rfl, Nat.reduceMul, Nat.reduceEqDiff, Go.Addr.add, ↓reduceIte] at hx141_0)
                            have qi141 : (1 < y134.length) = True := eq_true (by omega)
                            (try rw [show ((1 : Int)).toNat = 1 from rfl] at hx141_0)
                            replace p141 := eq_true p141
                            replace q141 := eq_true q141
                            have p142 : 0 ≤ (2 : Int) := (by omega)
                            have q142 : 2 < (y134.length : Int) := of_decide_eq_true (by first | (with_reducible assumption) | assumption)
                            obtain ⟨ad142, e142, hx142_0⟩ := Kd.at_string (Kd.R_reads' HO136.out).2.2 2 p142 q142
                            obtain rfl : ad140 = ad142 := (by injection e142)
                            (try simp only [show (2 : Int).toNat = 2 from rfl, Nat.reduceMul, Nat.reduceEqDiff, Go.Addr.add, ↓reduceIte] at hx142_0)
                            have qi142 : (2 < y134.length) = True := eq_true (by omega)
                            (try rw [show ((2 : Int)).toNat = 2 from rfl] at hx142_0)
                            replace p142 := eq_true p142
                            replace q142 := eq_true q142
                            go_wp2
                            go_meet
                            case rel => exact ⟨_, ((t139.toList != (rdOf ByteArray.empty y134 2).toList)), (by first | rfl | (simp; done) | (simp [*]; done)), H', ⟨by have := HK1.out; have := HJ2.out; first | omega | exact Nat.le_refl _⟩, ⟨by repeat (first | (with_reducible first | exact HB.out | apply below_alloc | apply pw_below_drewN | apply below_drew1) | exact HB.out)⟩⟩
                          · rw [if_neg c30] at H
                            exact absurd H (by simp)
                        · rw [if_neg c29] at H
                          have c29b0 : (t138.toList == (rdOf ByteArray.empty y134 1).toList) = false := beq_eq_false_iff_ne.mpr c29
                          have c29b1 : (t138.toList != (rdOf ByteArray.empty y134 1).toList) = true := bne_iff_ne.mpr c29
                          have H' := Aside0.mk H
                          clear H
                          obtain ⟨Ao32, co32, eo32⟩ := Kd.R_slice HO136.out
                          subst eo32
                          have p140 : 0 ≤ (0 : Int) := (by omega)
                          have q140 : 0 < (y134.length : Int) := of_decide_eq_true (by first | (with_reducible assumption) | assumption)
                          obtain ⟨ad140, e140, hx140_0⟩ := Kd.at_string (Kd.R_reads' HO136.out).2.2 0 p140 q140
                          cases e140
                          have qi140 : (0 < y134.length) = True := eq_true (by omega)
                          (try rw [show ((0 : Int)).toNat = 0 from rfl] at hx140_0)
                          (try rw [Addr.add_zero'] at hx140_0)
                          replace p140 := eq_true p140
                          replace q140 := eq_true q140
                          have p141 : 0 ≤ (1 : Int) := (by omega)
                          have q141 : 1 < (y134.length : Int) := of_decide_eq_true (by first | (with_reducible assumption) | assumption)
                          obtain ⟨ad141, e141, hx141_0⟩ := Kd.at_string (Kd.R_reads' HO136.out).2.2 1 p141 q141
                          obtain rfl : ad140 = ad141 := (by injection e141)
                          (try simp only [show (1 : Int).toNat = 1 from rfl, Nat.reduceMul, Nat.reduceEqDiff, Go.Addr.add, ↓reduceIte] at hx141_0)
                          have qi141 : (1 < y134.length) = True := eq_true (by omega)
                          (try rw [show ((1 : Int)).toNat = 1 from rfl] at hx141_0)
                          replace p141 := eq_true p141
                          replace q141 := eq_true q141
                          go_wp2
                          go_meet
                          case rel => exact ⟨_, (true), (by first | rfl | (simp; done) | (simp [*]; done)), H', ⟨by have := HK1.out; have := HJ2.out; first | omega | exact Nat.le_refl _⟩, ⟨by repeat (first | (with_reducible first | exact HB.out | apply below_alloc | apply pw_below_drewN | apply below_drew1) | exact HB.out)⟩⟩
                      · rw [if_neg c28] at H
                        exact absurd H (by simp)
                    · rw [if_neg c27] at H
                      have c27b0 : (t137.toList == (rdOf ByteArray.empty y134 0).toList) = false := beq_eq_false_iff_ne.mpr c27
                      have c27b1 : (t137.toList != (rdOf ByteArray.empty y134 0).toList) = true := bne_iff_ne.mpr c27
                      have H' := Aside0.mk H
                      clear H
                      obtain ⟨Ao33, co33, eo33⟩ := Kd.R_slice HO136.out
                      subst eo33
                      have p140 : 0 ≤ (0 : Int) := (by omega)
                      have q140 : 0 < (y134.length : Int) := of_decide_eq_true (by first | (with_reducible assumption) | assumption)
                      obtain ⟨ad140, e140, hx140_0⟩ := Kd.at_string (Kd.R_reads' HO136.out).2.2 0 p140 q140
                      cases e140
                      have qi140 : (0 < y134.length) = True := eq_true (by omega)
                      (try rw [show ((0 : Int)).toNat = 0 from rfl] at hx140_0)
                      (try rw [Addr.add_zero'] at hx140_0)
                      replace p140 := eq_true p140
                      replace q140 := eq_true q140
                      go_wp2
                      go_meet
                      case rel => exact ⟨_, (true), (by first | rfl | (simp; done) | (simp [*]; done)), H', ⟨by have := HK1.out; have := HJ2.out; first | omega | exact Nat.le_refl _⟩, ⟨by repeat (first | (with_reducible first | exact HB.out | apply below_alloc | apply pw_below_drewN | apply below_drew1) | exact HB.out)⟩⟩
                  · rw [if_neg c26] at H
                    exact absurd H (by simp)
                case rest =>
                  clear HC18
                  try clear c1
                  try clear p1
                  try clear q1
                  try clear hx1
                  try clear hcv1
                  try clear qi1
                  try clear c2
                  try clear c2b0
                  try clear c2b1
                  try clear p2
                  try clear hcv2
                  try clear c3
                  try clear c4
                  try clear c4b0
                  try clear c5
                  try clear c6
                  try clear c6b0
                  try clear p6
                  try clear c7
                  try clear c7b0
                  try clear p8
                  try clear q8
                  try clear hx8
                  try clear c9
                  try clear c9b0
                  try clear p10
                  try clear q10
                  try clear hx10
                  try clear c11
                  try clear c11b0
                  try clear p12
                  try clear q12
                  try clear hx12
                  try clear c13
                  try clear p14
                  try clear q14
                  try clear hx14
                  try clear qi14
                  try clear c16
                  try clear hcv19
                  try clear c24
                  try clear c25
                  try clear hcv25
                  try clear c26
                  try clear c26b0
                  try clear c26b1
                  try clear c27
                  try clear c27b0
                  try clear c27b1
                  try clear c28
                  try clear c28b0
                  try clear c28b1
                  try clear c29
                  try clear c29b0
                  try clear c29b1
                  try clear c30
                  try clear c30b0
                  try clear c30b1
                  try clear hx140_0
                  try clear hx141_0
                  try clear hx142_0
                  try clear p10
                  try clear p12
                  try clear p140
                  try clear p141
                  try clear p142
                  try clear p2
                  try clear p8
                  try clear q10
                  try clear q12
                  try clear q140
                  try clear q141
                  try clear q142
                  try clear q8
                  obtain ⟨kq, x70_17, rfl, HA, HJ17, HB⟩ := hcut
                  cases kq with
                  | zero => exact absurd HA.out (by simp [laws_FnTag.j2])
                  | succ kj17 =>
                    have H := HA.out
                    clear HA
                    simp only [laws_FnTag.j2] at H
                    by_cases c34 : x70_17 = true
                    · subst c34
                      have H1 : (some false) = some r := by rw [if_pos rfl] at H; exact H
                      clear H
                      have H := H1
                      clear H1
                      obtain rfl := Option.some.inj H
                      go_wp2
                      go_ret
                      exact ⟨by first | rfl | (simp [errW_none, errW_some] <;> rfl) | (simp [*, errW_none, errW_some] <;> rfl), by repeat (first | (with_reducible first | exact HB.out | apply below_alloc | apply pw_below_drewN | apply below_drew1) | exact HB.out)⟩
                    · replace c34 := Bool.eq_false_iff.mpr c34
                      subst c34
                      have H1 : ((spec_ScParts.f kj17 t139 44 100).bind fun t143 => (laws_FnTag.l1 kj17 t139 t143 (t143.length : Int) 0)) = some r := by rw [if_neg (show ¬ (false = true) by decide)] at H; exact H
                      clear H
                      have H := H1
                      clear H1
                      replace H := Option.bind_eq_some_iff.mp H
                      obtain ⟨t143, A350, H⟩ := H
                      replace H : (laws_FnTag.l1 kj17 t139 t143 (t143.length : Int) 0) = some r := H
                      have A35 := Aside0.mk A350
                      clear A350
                      have H' := Aside0.mk H
                      clear H
                      go_wp2_with (first | ((with_reducible refine gate_callee (f := 24) rfl ?_); refine goesL_ (some 72) rfl rfl Try.func24 (by kernel_rfl) rfl #[.string t139, .int .u8 44, .int .i64 100] rfl (by (try simp only [List.map_toArray, List.map_cons, List.map_nil]); first | done | rfl | (simp only [List.length_drop, List.length_take]; rfl)) ?_; (with_reducible refine (spec_ScParts.calls kj17 t139 44 100 t143 _ A35.out).mono ?_); rintro e w36 ⟨v144, rfl, ho0, hb⟩; refine ⟨_, rfl, ?_⟩; have n0_ := Aside0.mk (Kd.R_lower ho0 (below_size (by repeat (first | (with_reducible first | exact HB.out | apply below_alloc | apply pw_below_drewN | apply below_drew1) | exact HB.out)))); have n1_ := Aside0.mk (below_step (by repeat (first | (with_reducible first | exact HB.out | apply below_alloc | apply pw_below_drewN | apply below_drew1) | exact HB.out)) hb); clear HB; have HO145 := n0_; have HB := n1_; clear n0_ n1_; (try clear hb); (try clear hb2); (try clear hk); (try clear hi); (try clear ho0); obtain ⟨Ao37, co37, eo37⟩ := Kd.R_slice HO145.out; subst eo37))
                      go_loopg [74] kj17 (fun kq v74 w' => ∃ (x74_4 : Int), v74 = .int .i64 x74_4 ∧ Aside0 (laws_FnTag.l1 kq t139 t143 (t143.length : Int) x74_4 = some r) ∧ Aside0 (kq ≤ kj17) ∧ Aside0 (Kd.R Kd.string 9 w' w.heap.size (fun _ => True) (.slice Ao37 t143.length co37) t143) ∧ Aside0 (Below w.heap.size w w'))
                      case atStart => exact ⟨(0), (by first | rfl | (simp; done) | (simp [*]; done)), H', ⟨Nat.le_refl _⟩, ⟨by (with_reducible repeat (first | apply Kd.R_alloc | apply Kd.R_drewN | apply Kd.R_drew)); exact HO145.out⟩, ⟨by repeat (first | (with_reducible first | exact HB.out | apply below_alloc | apply pw_below_drewN | apply below_drew1) | exact HB.out)⟩⟩
                      case round =>
                        clear H'
                        try clear c1
                        try clear p1
                        try clear q1
                        try clear hx1
                        try clear hcv1
                        try clear qi1
                        try clear c2
                        try clear c2b0
                        try clear c2b1
                        try clear p2
                        try clear hcv2
                        try clear c3
                        try clear c4
                        try clear c4b0
                        try clear c5
                        try clear c6
                        try clear c6b0
                        try clear p6
                        try clear c7
                        try clear c7b0
                        try clear p8
                        try clear q8
                        try clear hx8
                        try clear c9
                        try clear c9b0
                        try clear p10
                        try clear q10
                        try clear hx10
                        try clear c11
                        try clear c11b0
                        try clear p12
                        try clear q12
                        try clear hx12
                        try clear c13
                        try clear p14
                        try clear q14
                        try clear hx14
                        try clear qi14
                        try clear c16
                        try clear hcv19
                        try clear c24
                        try clear c25
                        try clear hcv25
                        try clear c26
                        try clear c26b0
                        try clear c26b1
                        try clear c27
                        try clear c27b0
                        try clear c27b1
                        try clear c28
                        try clear c28b0
                        try clear c28b1
                        try clear c29
                        try clear c29b0
                        try clear c29b1
                        try clear c30
                        try clear c30b0
                        try clear c30b1
                        try clear c34
                        try clear hx140_0
                        try clear hx141_0
                        try clear hx142_0
                        try clear p1
                        try clear p10
                        try clear p12
                        try clear p14
                        try clear p140
                        try clear p141
                        try clear p142
                        try clear p2
                        try clear p6
                        try clear p8
                        try clear q1
                        try clear q10
                        try clear q12
                        try clear q14
                        try clear q140
                        try clear q141
                        try clear q142
                        try clear q8
                        obtain ⟨x74_4, rfl, HA, HK4, HO_72, HB⟩ := hrel
                        cases gk with
                        | zero => exact absurd HA.out (by simp [laws_FnTag.l1])
                        | succ k4 =>
                          have H := HA.out
                          clear HA
                          simp only [laws_FnTag.l1] at H
                          by_cases c38 : x74_4 < (t143.length : Int)
                          · rw [if_pos c38] at H
                            have c38b0 : decide (x74_4 < (t143.length : Int)) = true := decide_eq_true c38
                            clear c38
                            by_cases c39 : 0 ≤ x74_4
                            · rw [if_pos c39] at H
                              have c39b0 : decide (0 ≤ x74_4) = true := decide_eq_true c39
                              clear c39
                              by_cases c40 : x74_4 < (t143.length : Int)
                              · rw [if_pos c40] at H
                                have c40b0 : decide (x74_4 < (t143.length : Int)) = true := decide_eq_true c40
                                clear c40
                                by_cases c41 : (rdOf ByteArray.empty t143 x74_4).toList = ([] : List UInt8)
                                · rw [if_pos c41] at H
                                  have c41b0 : ((rdOf ByteArray.empty t143 x74_4).toList == ([] : List UInt8)) = true := beq_iff_eq.mpr c41
                                  have c41b1 : ((rdOf ByteArray.empty t143 x74_4).toList != ([] : List UInt8)) = false := bne_eq_false_iff_eq.mpr c41
                                  clear c41
                                  have H' := Aside0.mk H
                                  clear H
                                  have p146 : 0 ≤ (x74_4 : Int) := of_decide_eq_true (by first | (with_reducible assumption) | assumption)
                                  have q146 : x74_4 < (t143.length : Int) := of_decide_eq_true (by first | (with_reducible assumption) | assumption)
                                  obtain ⟨ad146, e146, hx146_0⟩ := Kd.at_string (Kd.R_reads' HO_72.out).2.2 x74_4 p146 q146
                                  cases e146
                                  replace p146 := eq_true p146
                                  replace q146 := eq_true q146
                                  go_wp2
                                  go_roundg k4
                                  case measure => have := HK1.out; have := HJ2.out; have := HJ17.out; have := HK4.out; omega
                                  case rel => exact ⟨(wrap64 (x74_4 + 1)), (by first | rfl | (simp; done) | (simp [*]; done)), H', ⟨by have := HK1.out; have := HJ2.out; have := HJ17.out; have := HK4.out; omega⟩, ⟨by (with_reducible repeat (first | apply Kd.R_alloc | apply Kd.R_drewN | apply Kd.R_drew)); exact HO_72.out⟩, ⟨by repeat (first | (with_reducible first | exact HB.out | apply below_alloc | apply pw_below_drewN | apply below_drew1) | exact HB.out)⟩⟩
                                · rw [if_neg c41] at H
                                  have c41b0 : ((rdOf ByteArray.empty t143 x74_4).toList == ([] : List UInt8)) = false := beq_eq_false_iff_ne.mpr c41
                                  have c41b1 : ((rdOf ByteArray.empty t143 x74_4).toList != ([] : List UInt8)) = true := bne_iff_ne.mpr c41
                                  replace H := Option.bind_eq_some_iff.mp H
                                  obtain ⟨t147, A420, H⟩ := H
                                  replace H : (if t147 = true then (laws_FnTag.l1 k4 t139 t143 (t143.length : Int) (wrap64 (x74_4 + 1))) else (some false)) = some r := H
                                  have A42 := Aside0.mk A420
                                  clear A420
                                  by_cases c43 : t147 = true
                                  · subst c43
                                    have H1 : (laws_FnTag.l1 k4 t139 t143 (t143.length : Int) (wrap64 (x74_4 + 1))) = some r := by rw [if_pos rfl] at H; exact H
                                    clear H
                                    have H := H1
                                    clear H1
                                    have H' := Aside0.mk H
                                    clear H
                                    have p146 : 0 ≤ (x74_4 : Int) := of_decide_eq_true (by first | (with_reducible assumption) | assumption)
                                    have q146 : x74_4 < (t143.length : Int) := of_decide_eq_true (by first | (with_reducible assumption) | assumption)
                                    obtain ⟨ad146, e146, hx146_0⟩ := Kd.at_string (Kd.R_reads' HO_72.out).2.2 x74_4 p146 q146
                                    cases e146
                                    replace p146 := eq_true p146
                                    replace q146 := eq_true q146
                                    go_wp2_with (first | (go_at_call 26; (with_reducible refine (impl_TagHas.calls k4 t139 (rdOf ByteArray.empty t143 x74_4) true _ A42.out).mono ?_); rintro e w' ⟨rfl, ⟨nd, rfl⟩⟩))
                                    go_roundg k4
                                    case measure => have := HK1.out; have := HJ2.out; have := HJ17.out; have := HK4.out; omega
                                    case rel => exact ⟨(wrap64 (x74_4 + 1)), (by first | rfl | (simp; done) | (simp [*]; done)), H', ⟨by have := HK1.out; have := HJ2.out; have := HJ17.out; have := HK4.out; omega⟩, ⟨by (with_reducible repeat (first | apply Kd.R_alloc | apply Kd.R_drewN | apply Kd.R_drew)); exact HO_72.out⟩, ⟨by repeat (first | (with_reducible first | exact HB.out | apply below_alloc | apply pw_below_drewN | apply below_drew1) | exact HB.out)⟩⟩
                                  · replace c43 := Bool.eq_false_iff.mpr c43
                                    subst c43
                                    have H1 : (some false) = some r := by rw [if_neg (show ¬ (false = true) by decide)] at H; exact H
                                    clear H
                                    have H := H1
                                    clear H1
                                    obtain rfl := Option.some.inj H
                                    have p146 : 0 ≤ (x74_4 : Int) := of_decide_eq_true (by first | (with_reducible assumption) | assumption)
                                    have q146 : x74_4 < (t143.length : Int) := of_decide_eq_true (by first | (with_reducible assumption) | assumption)
                                    obtain ⟨ad146, e146, hx146_0⟩ := Kd.at_string (Kd.R_reads' HO_72.out).2.2 x74_4 p146 q146
                                    cases e146
                                    replace p146 := eq_true p146
                                    replace q146 := eq_true q146
                                    go_wp2_with (first | (go_at_call 26; (with_reducible refine (impl_TagHas.calls k4 t139 (rdOf ByteArray.empty t143 x74_4) false _ A42.out).mono ?_); rintro e w' ⟨rfl, ⟨nd, rfl⟩⟩))
                                    go_ret
                                    exact ⟨by first | rfl | (simp [errW_none, errW_some] <;> rfl) | (simp [*, errW_none, errW_some] <;> rfl), by repeat (first | (with_reducible first | exact HB.out | apply below_alloc | apply pw_below_drewN | apply below_drew1) | exact HB.out)⟩
                              · rw [if_neg c40] at H
                                exact absurd H (by simp)
                            · rw [if_neg c39] at H
                              exact absurd H (by simp)
                          · rw [if_neg c38] at H
                            have c38b0 : decide (x74_4 < (t143.length : Int)) = false := decide_eq_false c38
                            clear c38
                            replace H := Option.bind_eq_some_iff.mp H
                            obtain ⟨t148, A440, H⟩ := H
                            replace H : (if t148 = true then (some false) else ((impl_TagHas.f k4 (⟨#[97, 44, 98]⟩ : ByteArray) (⟨#[98]⟩ : ByteArray)).bind fun t149 => (some t149))) = some r := H
                            have A44 := Aside0.mk A440
                            clear A440
                            by_cases c45 : t148 = true
                            · subst c45
                              have H1 : (some false) = some r := by rw [if_pos rfl] at H; exact H
                              clear H
                              have H := H1
                              clear H1
                              obtain rfl := Option.some.inj H
                              go_wp2_with (first | ((with_reducible refine gate_callee (f := 26) rfl ?_); refine goesL_ (some 88) rfl rfl Try.func26 (by kernel_rfl) rfl #[.string t139, .string (⟨#[110, 111, 32, 115, 117, 99, 104, 32, 111, 112, 116, 105, 111, 110]⟩ : ByteArray)] rfl (by (try simp only [List.map_toArray, List.map_cons, List.map_nil]); first | done | rfl | (simp only [List.length_drop, List.length_take]; rfl)) ?_; (with_reducible refine (impl_TagHas.calls k4 t139 (⟨#[110, 111, 32, 115, 117, 99, 104, 32, 111, 112, 116, 105, 111, 110]⟩ : ByteArray) true _ A44.out).mono ?_); rintro e w' ⟨rfl, ⟨nd, rfl⟩⟩; refine ⟨_, rfl, ?_⟩))
                              go_ret
                              exact ⟨by first | rfl | (simp [errW_none, errW_some] <;> rfl) | (simp [*, errW_none, errW_some] <;> rfl), by repeat (first | (with_reducible first | exact HB.out | apply below_alloc | apply pw_below_drewN | apply below_drew1) | exact HB.out)⟩
                            · replace c45 := Bool.eq_false_iff.mpr c45
                              subst c45
                              have H1 : ((impl_TagHas.f k4 (⟨#[97, 44, 98]⟩ : ByteArray) (⟨#[98]⟩ : ByteArray)).bind fun t149 => (some t149)) = some r := by rw [if_neg (show ¬ (false = true) by decide)] at H; exact H
                              clear H
                              have H := H1
                              clear H1
                              replace H := Option.bind_eq_some_iff.mp H
                              obtain ⟨t149, A460, H⟩ := H
                              replace H : (some t149) = some r := H
                              have A46 := Aside0.mk A460
                              clear A460
                              obtain rfl := Option.some.inj H
                              go_wp2_with (first | ((with_reducible refine gate_callee (f := 26) rfl ?_); refine goesL_ (some 88) rfl rfl Try.func26 (by kernel_rfl) rfl #[.string t139, .string (⟨#[110, 111, 32, 115, 117, 99, 104, 32, 111, 112, 116, 105, 111, 110]⟩ : ByteArray)] rfl (by (try simp only [List.map_toArray, List.map_cons, List.map_nil]); first | done | rfl | (simp only [List.length_drop, List.length_take]; rfl)) ?_; (with_reducible refine (impl_TagHas.calls k4 t139 (⟨#[110, 111, 32, 115, 117, 99, 104, 32, 111, 112, 116, 105, 111, 110]⟩ : ByteArray) false _ A44.out).mono ?_); rintro e w' ⟨rfl, ⟨nd, rfl⟩⟩; refine ⟨_, rfl, ?_⟩) | (go_at_call 26; (with_reducible refine (impl_TagHas.calls k4 (⟨#[97, 44, 98]⟩ : ByteArray) (⟨#[98]⟩ : ByteArray) t149 _ A46.out).mono ?_); rintro e w' ⟨rfl, ⟨nd, rfl⟩⟩))
                              go_ret
                              exact ⟨by first | rfl | (simp [errW_none, errW_some] <;> rfl) | (simp [*, errW_none, errW_some] <;> rfl), by repeat (first | (with_reducible first | exact HB.out | apply below_alloc | apply pw_below_drewN | apply below_drew1) | exact HB.out)⟩
              · rw [if_neg c16] at H
                exact absurd H (by simp)

/-- THE ONE PURE STATEMENT of laws_FnTag: yours. -/
def laws_FnTag.Pure : Prop := ∀ (a0 : ByteArray), a0.size ≤ 140737488351232 → ∃ k, laws_FnTag.f k a0 = some true
theorem laws_FnTag.walk (P : laws_FnTag.Pure) (a0 : ByteArray) (w : World) (w0 : a0.size ≤ 140737488351232) :
    Calls Try.prog 11 #[.string a0] w fun e w' => e = .returned (.bool true) ∧ Below w.heap.size w w' := by
  obtain ⟨k, h⟩ := P a0 w0
  refine (laws_FnTag.calls k a0 true w h).mono ?_
  rintro e w' ⟨rfl, hd⟩
  exact ⟨rfl, hd⟩

end Go.Proofs.Ytlbbdnngjkjafaa.PFnTag
