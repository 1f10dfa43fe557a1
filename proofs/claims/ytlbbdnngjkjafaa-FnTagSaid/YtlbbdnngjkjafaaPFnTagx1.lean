-- PRINTED BY print.sh 35421559b90ae4d0a3588c463048766b98c2df88dd9212a6774a882060cdf62d: not written by this session
import Derived.Test.YtlbbdnngjkjafaaPFnTagx0
namespace Go.Proofs.Ytlbbdnngjkjafaa.PFnTag
open Go.RowKit Go.Proofs.YtlbbdnngjkjafaaW.PrintWords Go.Proofs.YtlbbdnngjkjafaaW.PrintLast Go.Proofs.YtlbbdnngjkjafaaW.PrintMore
attribute [local go_sem] max2_int min2_int max_two min_two max_three min_three max_four min_four   -- for this text's walks alone
set_option linter.unusedVariables false
set_option linter.unusedSimpArgs false

/-! ### spec_ScParts: function 24 -/
mutual
def spec_ScParts.l0 : Nat → ByteArray → Int → Int → List ByteArray → Int → Int → Option (List ByteArray)
  | 0, _, _, _, _, _, _ => none
  | k + 1, x0, x1, x2, x7, x8, x9 => if x9 < (x0.size : Int) then (spec_ScParts.j1 k x0 x1 x2 x7 x8 x9 (decide ((x7.length : Int) < (wrap64 (x2 - 1))))) else (spec_ScParts.j1 k x0 x1 x2 x7 x8 x9 false)
def spec_ScParts.j1 : Nat → ByteArray → Int → Int → List ByteArray → Int → Int → Bool → Option (List ByteArray)
  | 0, _, _, _, _, _, _, _ => none
  | k + 1, x0, x1, x2, x7, x8, x9, x20 => if x20 = true then (if 0 ≤ x9 then (if x9 < (x0.size : Int) then (if (bt x0 x9) = x1 then (if 0 ≤ x8 then (if x8 ≤ x9 then (if x9 ≤ (x0.size : Int) then (if x7.length < 8796093022208 then (spec_ScParts.l0 k x0 x1 x2 (x7 ++ [x0.extract (x8 : Int).toNat (x9 : Int).toNat]) (wrap64 (x9 + 1)) (wrap64 (x9 + 1))) else (none)) else (none)) else (none)) else (none)) else (spec_ScParts.l0 k x0 x1 x2 x7 x8 (wrap64 (x9 + 1)))) else (none)) else (none)) else (if 0 ≤ x8 then (if x8 ≤ (x0.size : Int) then (if x7.length < 8796093022208 then (some (x7 ++ [x0.extract (x8 : Int).toNat x0.size])) else (none)) else (none)) else (none))
end
def spec_ScParts.f (k : Nat) (a0 : ByteArray) (a1 : Int) (a2 : Int) : Option (List ByteArray) := spec_ScParts.l0 k a0 a1 a2 ([] : List ByteArray) 0 0
theorem spec_ScParts.mono_l : ∀ k, (∀ y0 y1 y2 y3 y4 y5, LeO (spec_ScParts.l0 k y0 y1 y2 y3 y4 y5) (spec_ScParts.l0 (k + 1) y0 y1 y2 y3 y4 y5)) ∧ (∀ y0 y1 y2 y3 y4 y5 y6, LeO (spec_ScParts.j1 k y0 y1 y2 y3 y4 y5 y6) (spec_ScParts.j1 (k + 1) y0 y1 y2 y3 y4 y5 y6))
  | 0 => ⟨fun _ _ _ _ _ _ r h => by simp [spec_ScParts.l0] at h, fun _ _ _ _ _ _ _ r h => by simp [spec_ScParts.j1] at h⟩
  | k + 1 => by
    obtain ⟨ih0, ih1⟩ := spec_ScParts.mono_l k
    refine ⟨?_, ?_⟩
    · intro y0 y1 y2 y3 y4 y5
      unfold spec_ScParts.l0
      repeat' first
      | (with_reducible exact ih0 _ _ _ _ _ _)
      | (with_reducible exact ih1 _ _ _ _ _ _ _)
      | (with_reducible exact LeO.refl _)
      | (with_reducible exact LeO.none _)
      | (with_reducible refine LeO.ite ?_ ?_)
      | (with_reducible refine LeO.bind ?_ (fun _ => ?_))
      | exact ih0 _ _ _ _ _ _
      | exact ih1 _ _ _ _ _ _ _
      | exact LeO.none _
      | refine LeO.ite ?_ ?_
      | refine LeO.bind ?_ (fun _ => ?_)
    · intro y0 y1 y2 y3 y4 y5 y6
      unfold spec_ScParts.j1
      repeat' first
      | (with_reducible exact ih0 _ _ _ _ _ _)
      | (with_reducible exact ih1 _ _ _ _ _ _ _)
      | (with_reducible exact LeO.refl _)
      | (with_reducible exact LeO.none _)
      | (with_reducible refine LeO.ite ?_ ?_)
      | (with_reducible refine LeO.bind ?_ (fun _ => ?_))
      | exact ih0 _ _ _ _ _ _
      | exact ih1 _ _ _ _ _ _ _
      | exact LeO.none _
      | refine LeO.ite ?_ ?_
      | refine LeO.bind ?_ (fun _ => ?_)
theorem spec_ScParts.mono : ∀ a0 a1 a2 k, LeO (spec_ScParts.f k a0 a1 a2) (spec_ScParts.f (k + 1) a0 a1 a2) := by
  intro a0 a1 a2 k
  obtain ⟨ih0, ih1⟩ := spec_ScParts.mono_l k
  unfold spec_ScParts.f
  repeat' first
      | (with_reducible exact ih0 _ _ _ _ _ _)
      | (with_reducible exact ih1 _ _ _ _ _ _ _)
      | (with_reducible exact LeO.refl _)
      | (with_reducible exact LeO.none _)
      | (with_reducible refine LeO.ite ?_ ?_)
      | (with_reducible refine LeO.bind ?_ (fun _ => ?_))
      | exact ih0 _ _ _ _ _ _
      | exact ih1 _ _ _ _ _ _ _
      | exact LeO.none _
      | refine LeO.ite ?_ ?_
      | refine LeO.bind ?_ (fun _ => ?_)
set_option maxHeartbeats 8000000 in
set_option maxRecDepth 100000 in
theorem spec_ScParts.calls (k : Nat) (a0 : ByteArray) (a1 : Int) (a2 : Int) (r : List ByteArray) (w : World) (h : spec_ScParts.f k a0 a1 a2 = some r) :
    Calls Try.prog 24 #[.string a0, .int .u8 a1, .int .i64 a2] w fun e w' => ∃ v0_ : Value, e = .returned (v0_) ∧ Kd.R Kd.string 9 w' w.heap.size (fun _ => True) v0_ r ∧ Below w.heap.size w w' := by
  have HB := Aside0.mk (Below.refl w.heap.size w)
  have H : (spec_ScParts.l0 k a0 a1 a2 ([] : List ByteArray) 0 0) = some r := h
  clear h
  have H' := Aside0.mk H
  clear H
  go_enter Try.func24, Try.ntmps24
  go_wp2
  go_loopg [7, 8, 9] k (fun kq v7 v8 v9 w' => ∃ (x7_1 : List ByteArray) (x8_1 : Int) (x9_1 : Int), v8 = .int .i64 x8_1 ∧ v9 = .int .i64 x9_1 ∧ Aside0 (spec_ScParts.l0 kq a0 a1 a2 x7_1 x8_1 x9_1 = some r) ∧ Aside0 (kq ≤ k) ∧ Aside0 (Kd.R Kd.string 9 w' w.heap.size (fun _ => True) v7 x7_1) ∧ Aside0 (Below w.heap.size w w'))
  case atStart => exact ⟨(([] : List ByteArray)), (0), (0), (by first | rfl | (simp; done) | (simp [*]; done)), (by first | rfl | (simp; done) | (simp [*]; done)), H', ⟨Nat.le_refl _⟩, ⟨by first | exact Kd.R_nil _ _ _ _ _ | exact Kd.N_nil _ _ _ _ _ | exact Kd.V_nil _ _ _ _ _ | exact Kd.Q_nil _ _ _ _ _ | exact Kd.S_nil _ _ _ _ _⟩, ⟨by repeat (first | (with_reducible first | exact HB.out | apply below_alloc | apply pw_below_drewN | apply below_drew1) | exact HB.out)⟩⟩
  case round =>
    clear H'
    try clear c2
    try clear p2
    obtain ⟨x7_1, x8_1, x9_1, rfl, rfl, HA, HK1, HO_7, HB⟩ := hrel
    cases gk with
    | zero => exact absurd HA.out (by simp [spec_ScParts.l0])
    | succ k1 =>
      have H := HA.out
      clear HA
      simp only [spec_ScParts.l0] at H
      have HC4 := Aside0.mk H
      clear H
      go_upto_region 4 with (fail)
      go_cut [20] (fun v20 wc => ∃ (kq : Nat) (x20_3 : Bool), v20 = .bool x20_3 ∧ Aside0 (spec_ScParts.j1 kq a0 a1 a2 x7_1 x8_1 x9_1 x20_3 = some r) ∧ Aside0 (kq ≤ k1) ∧ Aside0 (Kd.R Kd.string 9 wc w.heap.size (fun _ => True) u7 x7_1) ∧ Aside0 (Below w.heap.size w wc))
      case first =>
        have H := HC4.out
        clear HC4
        by_cases c5 : x9_1 < (a0.size : Int)
        · rw [if_pos c5] at H
          have c5b0 : decide (x9_1 < (a0.size : Int)) = true := decide_eq_true c5
          clear c5
          (first | rw [c5b0] | (simp only [i64_w, i32_w]; rw [c5b0]) | skip)
          have H' := Aside0.mk H
          clear H
          obtain ⟨Ao6, co6, eo6⟩ := Kd.R_slice HO_7.out
          subst eo6
          go_wp2
          go_meet
          case rel => exact ⟨_, (decide ((x7_1.length : Int) < (wrap64 (a2 - 1)))), (by first | rfl | (simp; done) | (simp [*]; done)), H', ⟨by have := HK1.out; first | omega | exact Nat.le_refl _⟩, ⟨by (with_reducible repeat (first | apply Kd.R_alloc | apply Kd.R_drewN | apply Kd.R_drew)); exact HO_7.out⟩, ⟨by repeat (first | (with_reducible first | exact HB.out | apply below_alloc | apply pw_below_drewN | apply below_drew1) | exact HB.out)⟩⟩
        · rw [if_neg c5] at H
          have c5b0 : decide (x9_1 < (a0.size : Int)) = false := decide_eq_false c5
          clear c5
          (first | rw [c5b0] | (simp only [i64_w, i32_w]; rw [c5b0]) | skip)
          have H' := Aside0.mk H
          clear H
          go_wp2
          go_meet
          case rel => exact ⟨_, (false), (by first | rfl | (simp; done) | (simp [*]; done)), H', ⟨by have := HK1.out; first | omega | exact Nat.le_refl _⟩, ⟨by (with_reducible repeat (first | apply Kd.R_alloc | apply Kd.R_drewN | apply Kd.R_drew)); exact HO_7.out⟩, ⟨by repeat (first | (with_reducible first | exact HB.out | apply below_alloc | apply pw_below_drewN | apply below_drew1) | exact HB.out)⟩⟩
      case rest =>
        clear HC4
        try clear c2
        try clear p2
        try clear c5
        try clear c5b0
        try clear p6
        try clear p2
        obtain ⟨kq, x20_3, rfl, HA, HJ3, HO_7, HB⟩ := hcut
        cases kq with
        | zero => exact absurd HA.out (by simp [spec_ScParts.j1])
        | succ kj3 =>
          have H := HA.out
          clear HA
          simp only [spec_ScParts.j1] at H
          by_cases c7 : x20_3 = true
          · subst c7
            have H1 : (if 0 ≤ x9_1 then (if x9_1 < (a0.size : Int) then (if (bt a0 x9_1) = a1 then (if 0 ≤ x8_1 then (if x8_1 ≤ x9_1 then (if x9_1 ≤ (a0.size : Int) then (if x7_1.length < 8796093022208 then (spec_ScParts.l0 kj3 a0 a1 a2 (x7_1 ++ [a0.extract (x8_1 : Int).toNat (x9_1 : Int).toNat]) (wrap64 (x9_1 + 1)) (wrap64 (x9_1 + 1))) else (none)) else (none)) else (none)) else (none)) else (spec_ScParts.l0 kj3 a0 a1 a2 x7_1 x8_1 (wrap64 (x9_1 + 1)))) else (none)) else (none)) = some r := by rw [if_pos rfl] at H; exact H
            clear H
            have H := H1
            clear H1
            by_cases c8 : 0 ≤ x9_1
            · rw [if_pos c8] at H
              have c8b0 : decide (0 ≤ x9_1) = true := decide_eq_true c8
              clear c8
              by_cases c9 : x9_1 < (a0.size : Int)
              · rw [if_pos c9] at H
                have c9b0 : decide (x9_1 < (a0.size : Int)) = true := decide_eq_true c9
                clear c9
                by_cases c11 : (bt a0 x9_1) = a1
                · rw [if_pos c11] at H
                  have c11b0 : ((bt a0 x9_1) == a1) = true := beq_iff_eq.mpr c11
                  have c11b1 : ((bt a0 x9_1) != a1) = false := bne_eq_false_iff_eq.mpr c11
                  clear c11
                  by_cases c12 : 0 ≤ x8_1
                  · rw [if_pos c12] at H
                    have c12b0 := eq_true c12
                    have c12b1 : decide (0 ≤ x8_1) = true := decide_eq_true c12
                    clear c12
                    by_cases c13 : x8_1 ≤ x9_1
                    · rw [if_pos c13] at H
                      have c13b0 := eq_true c13
                      have c13b1 : decide (x8_1 ≤ x9_1) = true := decide_eq_true c13
                      clear c13
                      by_cases c14 : x9_1 ≤ (a0.size : Int)
                      · rw [if_pos c14] at H
                        have c14b0 := eq_true c14
                        have c14b1 : decide (x9_1 ≤ (a0.size : Int)) = true := decide_eq_true c14
                        clear c14
                        by_cases c15 : x7_1.length < 8796093022208
                        · rw [if_pos c15] at H
                          have LMc15 := Aside0.mk c15
                          clear c15
                          obtain ⟨y101, hy101⟩ : ∃ y_ : List ByteArray, y_ = (x7_1 ++ [a0.extract (x8_1 : Int).toNat (x9_1 : Int).toNat]) := ⟨_, rfl⟩
                          replace H : (spec_ScParts.l0 kj3 a0 a1 a2 y101 (wrap64 (x9_1 + 1)) (wrap64 (x9_1 + 1))) = some r := by first | (rw [hy101]; with_reducible exact H) | (have H2_ := (Option.bind_some _ _).symm.trans H; rw [hy101]; with_reducible exact H2_) | (have H2_ := (Option.bind_some _ _).symm.trans H; with_reducible exact H2_) | with_reducible exact H | (rw [hy101]; exact H) | exact H
                          have Ny101 := Aside0.mk hy101
                          clear hy101
                          have H' := Aside0.mk H
                          clear H
                          have p10 : 0 ≤ (x9_1 : Int) := of_decide_eq_true (by first | (with_reducible assumption) | assumption)
                          have q10 : x9_1 < (a0.size : Int) := of_decide_eq_true (by first | (with_reducible assumption) | assumption)
                          have hx10 := bt_at a0 x9_1
                          replace p10 := eq_true p10
                          replace q10 := eq_true q10
                          go_wp2_with (first | ((with_reducible refine gate_builtin (b := .append) (xs := #[.tmp 28, .tmp 33]) rfl ?_); (try (refine gate_guard (by rfl) ?_; dsimp only)); at_builtin; refine Kd.R_append Kd.string (w0 := w) w.heap.size rfl (.tmp 28) (.tmp 33) 47 9 (.string ⟨#[]⟩) 16 rfl Try.underlying47 info9 rfl (by decide) (by omega) u7 x7_1 (a0.extract (x8_1 : Int).toNat (x9_1 : Int).toNat) [.string (a0.extract (x8_1 : Int).toNat (x9_1 : Int).toNat)] (fun _ => True) (fun _ => False) rfl rfl ?aP (fun _ hk => hk.elim) ?aF ?aO ?aB ?aS ?aL ?_; (case aP => exact rfl); (case aB => exact (by repeat (first | (with_reducible first | exact HB.out | apply below_alloc | apply pw_below_drewN | apply below_drew1) | exact HB.out))); (case aF => exact (fun _ _ => trivial)); (case aO => exact (by (with_reducible repeat (first | apply Kd.R_alloc | apply Kd.R_drewN | apply Kd.R_drew)); exact HO_7.out)); (case aS => exact (below_size (by repeat (first | (with_reducible first | exact HB.out | apply below_alloc | apply pw_below_drewN | apply below_drew1) | exact HB.out)))); (case aL => have := LMc15.out; omega); intro v102 w16 ho hb hg hat; rw [← Ny101.out] at ho; have n0_ := Aside0.mk (hb); have n1_ := Aside0.mk (ho); clear HB; clear HO_7; have HB := n0_; have HO103 := n1_; clear n0_ n1_; clear ho hb hg hat))
                          go_roundg kj3
                          case measure => have := HK1.out; have := HJ3.out; omega
                          case rel => exact ⟨(y101), (wrap64 (x9_1 + 1)), (wrap64 (x9_1 + 1)), (by first | rfl | (simp; done) | (simp [*]; done)), (by first | rfl | (simp; done) | (simp [*]; done)), H', ⟨by have := HK1.out; have := HJ3.out; omega⟩, ⟨by (with_reducible repeat (first | apply Kd.R_alloc | apply Kd.R_drewN | apply Kd.R_drew)); exact HO103.out⟩, ⟨by repeat (first | (with_reducible first | exact HB.out | apply below_alloc | apply pw_below_drewN | apply below_drew1) | exact HB.out)⟩⟩
                        · rw [if_neg c15] at H
                          exact absurd H (by simp)
                      · rw [if_neg c14] at H
                        exact absurd H (by simp)
                    · rw [if_neg c13] at H
                      exact absurd H (by simp)
                  · rw [if_neg c12] at H
                    exact absurd H (by simp)
                · rw [if_neg c11] at H
                  have c11b0 : ((bt a0 x9_1) == a1) = false := beq_eq_false_iff_ne.mpr c11
                  have c11b1 : ((bt a0 x9_1) != a1) = true := bne_iff_ne.mpr c11
                  have H' := Aside0.mk H
                  clear H
                  have p10 : 0 ≤ (x9_1 : Int) := of_decide_eq_true (by first | (with_reducible assumption) | assumption)
                  have q10 : x9_1 < (a0.size : Int) := of_decide_eq_true (by first | (with_reducible assumption) | assumption)
                  have hx10 := bt_at a0 x9_1
                  replace p10 := eq_true p10
                  replace q10 := eq_true q10
                  go_wp2
                  go_roundg kj3
                  case measure => have := HK1.out; have := HJ3.out; omega
                  case rel => exact ⟨(x7_1), (x8_1), (wrap64 (x9_1 + 1)), (by first | rfl | (simp; done) | (simp [*]; done)), (by first | rfl | (simp; done) | (simp [*]; done)), H', ⟨by have := HK1.out; have := HJ3.out; omega⟩, ⟨by (with_reducible repeat (first | apply Kd.R_alloc | apply Kd.R_drewN | apply Kd.R_drew)); exact HO_7.out⟩, ⟨by repeat (first | (with_reducible first | exact HB.out | apply below_alloc | apply pw_below_drewN | apply below_drew1) | exact HB.out)⟩⟩
              · rw [if_neg c9] at H
                exact absurd H (by simp)
            · rw [if_neg c8] at H
              exact absurd H (by simp)
          · replace c7 := Bool.eq_false_iff.mpr c7
            subst c7
            have H1 : (if 0 ≤ x8_1 then (if x8_1 ≤ (a0.size : Int) then (if x7_1.length < 8796093022208 then (some (x7_1 ++ [a0.extract (x8_1 : Int).toNat a0.size])) else (none)) else (none)) else (none)) = some r := by rw [if_neg (show ¬ (false = true) by decide)] at H; exact H
            clear H
            have H := H1
            clear H1
            by_cases c17 : 0 ≤ x8_1
            · rw [if_pos c17] at H
              have c17b0 := eq_true c17
              have c17b1 : decide (0 ≤ x8_1) = true := decide_eq_true c17
              clear c17
              by_cases c18 : x8_1 ≤ (a0.size : Int)
              · rw [if_pos c18] at H
                have c18b0 := eq_true c18
                have c18b1 : decide (x8_1 ≤ (a0.size : Int)) = true := decide_eq_true c18
                clear c18
                by_cases c19 : x7_1.length < 8796093022208
                · rw [if_pos c19] at H
                  have LMc19 := Aside0.mk c19
                  clear c19
                  obtain ⟨y104, hy104⟩ : ∃ y_ : List ByteArray, y_ = (x7_1 ++ [a0.extract (x8_1 : Int).toNat a0.size]) := ⟨_, rfl⟩
                  replace H : (some y104) = some r := by first | (rw [hy104]; with_reducible exact H) | (have H2_ := (Option.bind_some _ _).symm.trans H; rw [hy104]; with_reducible exact H2_) | (have H2_ := (Option.bind_some _ _).symm.trans H; with_reducible exact H2_) | with_reducible exact H | (rw [hy104]; exact H) | exact H
                  have Ny104 := Aside0.mk hy104
                  clear hy104
                  obtain rfl := Option.some.inj H
                  go_wp2_with (first | ((with_reducible refine gate_builtin (b := .append) (xs := #[.tmp 37, .tmp 41]) rfl ?_); (try (refine gate_guard (by rfl) ?_; dsimp only)); at_builtin; refine Kd.R_append Kd.string (w0 := w) w.heap.size rfl (.tmp 37) (.tmp 41) 47 9 (.string ⟨#[]⟩) 16 rfl Try.underlying47 info9 rfl (by decide) (by omega) u7 x7_1 (a0.extract (x8_1 : Int).toNat a0.size) [.string (a0.extract (x8_1 : Int).toNat a0.size)] (fun _ => True) (fun _ => False) rfl rfl ?aP (fun _ hk => hk.elim) ?aF ?aO ?aB ?aS ?aL ?_; (case aP => exact rfl); (case aB => exact (by repeat (first | (with_reducible first | exact HB.out | apply below_alloc | apply pw_below_drewN | apply below_drew1) | exact HB.out))); (case aF => exact (fun _ _ => trivial)); (case aO => exact (by (with_reducible repeat (first | apply Kd.R_alloc | apply Kd.R_drewN | apply Kd.R_drew)); exact HO_7.out)); (case aS => exact (below_size (by repeat (first | (with_reducible first | exact HB.out | apply below_alloc | apply pw_below_drewN | apply below_drew1) | exact HB.out)))); (case aL => have := LMc19.out; omega); intro v105 w20 ho hb hg hat; rw [← Ny104.out] at ho; have n0_ := Aside0.mk (hb); have n1_ := Aside0.mk (ho); clear HB; clear HO_7; have HB := n0_; have HO106 := n1_; clear n0_ n1_; clear ho hb hg hat))
                  go_ret
                  exact ⟨_, by first | rfl | (simp [errW_none, errW_some] <;> rfl) | (simp [*, errW_none, errW_some] <;> rfl), by (with_reducible repeat (first | apply Kd.R_alloc | apply Kd.R_drewN | apply Kd.R_drew)); exact HO106.out, by repeat (first | (with_reducible first | exact HB.out | apply below_alloc | apply pw_below_drewN | apply below_drew1) | exact HB.out)⟩
                · rw [if_neg c19] at H
                  exact absurd H (by simp)
              · rw [if_neg c18] at H
                exact absurd H (by simp)
            · rw [if_neg c17] at H
              exact absurd H (by simp)

/-! ### driver_zzIndex: function 105 -/
def driver_zzIndex.l0 : Nat → ByteArray → ByteArray → Int → Option (Int)
  | 0, _, _, _ => none
  | k + 1, x0, x1, x5 => if (wrap64 (x5 + (x1.size : Int))) ≤ (x0.size : Int) then (if 0 ≤ x5 then (if x5 ≤ (wrap64 (x5 + (x1.size : Int))) then (if (x0.extract (x5 : Int).toNat ((wrap64 (x5 + (x1.size : Int))) : Int).toNat).toList = x1.toList then (some x5) else (driver_zzIndex.l0 k x0 x1 (wrap64 (x5 + 1)))) else (none)) else (none)) else (some (-1))
def driver_zzIndex.f (k : Nat) (a0 : ByteArray) (a1 : ByteArray) : Option (Int) := driver_zzIndex.l0 k a0 a1 0
theorem driver_zzIndex.mono_l : ∀ k, (∀ y0 y1 y2, LeO (driver_zzIndex.l0 k y0 y1 y2) (driver_zzIndex.l0 (k + 1) y0 y1 y2))
  | 0 => fun _ _ _ r h => by simp [driver_zzIndex.l0] at h
  | k + 1 => by
    have ih0 := driver_zzIndex.mono_l k
    · intro y0 y1 y2
      unfold driver_zzIndex.l0
      repeat' first
      | (with_reducible exact ih0 _ _ _)
      | (with_reducible exact LeO.refl _)
      | (with_reducible exact LeO.none _)
      | (with_reducible refine LeO.ite ?_ ?_)
      | (with_reducible refine LeO.bind ?_ (fun _ => ?_))
      | exact ih0 _ _ _
      | exact LeO.none _
      | refine LeO.ite ?_ ?_
      | refine LeO.bind ?_ (fun _ => ?_)
theorem driver_zzIndex.mono : ∀ a0 a1 k, LeO (driver_zzIndex.f k a0 a1) (driver_zzIndex.f (k + 1) a0 a1) := by
  intro a0 a1 k
  have ih0 := driver_zzIndex.mono_l k
  unfold driver_zzIndex.f
  repeat' first
      | (with_reducible exact ih0 _ _ _)
      | (with_reducible exact LeO.refl _)
      | (with_reducible exact LeO.none _)
      | (with_reducible refine LeO.ite ?_ ?_)
      | (with_reducible refine LeO.bind ?_ (fun _ => ?_))
      | exact ih0 _ _ _
      | exact LeO.none _
      | refine LeO.ite ?_ ?_
      | refine LeO.bind ?_ (fun _ => ?_)
set_option maxHeartbeats 8000000 in
set_option maxRecDepth 100000 in
theorem driver_zzIndex.calls (k : Nat) (a0 : ByteArray) (a1 : ByteArray) (r : Int) (w : World) (h : driver_zzIndex.f k a0 a1 = some r) :
    Calls Try.prog 105 #[.string a0, .string a1] w fun e w' => e = .returned (.int .i64 r) ∧ Drawn0 w w' := by
  have H : (driver_zzIndex.l0 k a0 a1 0) = some r := h
  clear h
  have H' := Aside0.mk H
  clear H
  go_enter Try.func105, Try.ntmps105
  go_wp2
  go_loopg [5] k (fun kq v5 w' => ∃ (x5_1 : Int), v5 = .int .i64 x5_1 ∧ Aside0 (driver_zzIndex.l0 kq a0 a1 x5_1 = some r) ∧ Aside0 (kq ≤ k) ∧ Drawn0 w w')
  case atStart => exact ⟨(0), (by first | rfl | (simp; done) | (simp [*]; done)), H', ⟨Nat.le_refl _⟩, by repeat (first | exact Drawn0.refl _ | apply Drawn0.step)⟩
  case round =>
    clear H'
    try clear c1
    try clear p2
    obtain ⟨x5_1, rfl, HA, HK1, ⟨m1, rfl⟩⟩ := hrel
    cases gk with
    | zero => exact absurd HA.out (by simp [driver_zzIndex.l0])
    | succ k1 =>
      have H := HA.out
      clear HA
      simp only [driver_zzIndex.l0] at H
      by_cases c3 : (wrap64 (x5_1 + (a1.size : Int))) ≤ (a0.size : Int)
      · rw [if_pos c3] at H
        have c3b0 : decide ((wrap64 (x5_1 + (a1.size : Int))) ≤ (a0.size : Int)) = true := decide_eq_true c3
        clear c3
        by_cases c4 : 0 ≤ x5_1
        · rw [if_pos c4] at H
          have c4b0 := eq_true c4
          have c4b1 : decide (0 ≤ x5_1) = true := decide_eq_true c4
          clear c4
          by_cases c5 : x5_1 ≤ (wrap64 (x5_1 + (a1.size : Int)))
          · rw [if_pos c5] at H
            have c5b0 := eq_true c5
            have c5b1 : decide (x5_1 ≤ (wrap64 (x5_1 + (a1.size : Int)))) = true := decide_eq_true c5
            have c6b0 := eq_true (of_decide_eq_true (by first | (with_reducible assumption) | assumption) : (wrap64 (x5_1 + (a1.size : Int))) ≤ (a0.size : Int))
            by_cases c7 : (a0.extract (x5_1 : Int).toNat ((wrap64 (x5_1 + (a1.size : Int))) : Int).toNat).toList = a1.toList
            · rw [if_pos c7] at H
              have c7b0 : ((a0.extract (x5_1 : Int).toNat ((wrap64 (x5_1 + (a1.size : Int))) : Int).toNat).toList == a1.toList) = true := beq_iff_eq.mpr c7
              have c7b1 : ((a0.extract (x5_1 : Int).toNat ((wrap64 (x5_1 + (a1.size : Int))) : Int).toNat).toList != a1.toList) = false := bne_eq_false_iff_eq.mpr c7
              clear c7
              obtain rfl := Option.some.inj H
              go_wp2
              go_ret
              exact ⟨by first | rfl | (simp; done) | (simp [*]; done), by repeat (first | exact Drawn0.refl _ | apply Drawn0.step)⟩
            · rw [if_neg c7] at H
              have c7b0 : ((a0.extract (x5_1 : Int).toNat ((wrap64 (x5_1 + (a1.size : Int))) : Int).toNat).toList == a1.toList) = false := beq_eq_false_iff_ne.mpr c7
              have c7b1 : ((a0.extract (x5_1 : Int).toNat ((wrap64 (x5_1 + (a1.size : Int))) : Int).toNat).toList != a1.toList) = true := bne_iff_ne.mpr c7
              have H' := Aside0.mk H
              clear H
              go_wp2
              go_roundg k1
              case measure => have := HK1.out; omega
              case rel => exact ⟨(wrap64 (x5_1 + 1)), (by first | rfl | (simp; done) | (simp [*]; done)), H', ⟨by have := HK1.out; omega⟩, by repeat (first | exact Drawn0.refl _ | apply Drawn0.step)⟩
          · rw [if_neg c5] at H
            exact absurd H (by simp)
        · rw [if_neg c4] at H
          exact absurd H (by simp)
      · rw [if_neg c3] at H
        have c3b0 : decide ((wrap64 (x5_1 + (a1.size : Int))) ≤ (a0.size : Int)) = false := decide_eq_false c3
        clear c3
        obtain rfl := Option.some.inj H
        go_wp2
        go_ret
        exact ⟨by first | rfl | (simp; done) | (simp [*]; done), by repeat (first | exact Drawn0.refl _ | apply Drawn0.step)⟩

/-! ### driver_zzCut: function 89 -/
def driver_zzCut.f (k : Nat) (a0 : ByteArray) (a1 : ByteArray) : Option (ByteArray × ByteArray × Bool) := (driver_zzIndex.f k a0 a1).bind fun t107 => (if t107 ≥ 0 then (if 0 ≤ t107 then (if t107 ≤ (a0.size : Int) then (if 0 ≤ (wrap64 (t107 + (a1.size : Int))) then (if (wrap64 (t107 + (a1.size : Int))) ≤ (a0.size : Int) then (some (a0.extract 0 (t107 : Int).toNat, a0.extract ((wrap64 (t107 + (a1.size : Int))) : Int).toNat a0.size, true)) else (none)) else (none)) else (none)) else (none)) else (some (a0, (⟨#[]⟩ : ByteArray), false)))
theorem driver_zzCut.mono : ∀ a0 a1 k, LeO (driver_zzCut.f k a0 a1) (driver_zzCut.f (k + 1) a0 a1) := by
  intro a0 a1 k
  unfold driver_zzCut.f
  repeat' first
      | (with_reducible exact driver_zzIndex.mono _ _ _)
      | (with_reducible exact LeO.refl _)
      | (with_reducible exact LeO.none _)
      | (with_reducible refine LeO.ite ?_ ?_)
      | (with_reducible refine LeO.bind ?_ (fun _ => ?_))
      | exact driver_zzIndex.mono _ _ _
      | exact LeO.none _
      | refine LeO.ite ?_ ?_
      | refine LeO.bind ?_ (fun _ => ?_)
set_option maxHeartbeats 8000000 in
set_option maxRecDepth 100000 in
theorem driver_zzCut.calls (k : Nat) (a0 : ByteArray) (a1 : ByteArray) (r1 : ByteArray) (r2 : ByteArray) (r3 : Bool) (w : World) (h : driver_zzCut.f k a0 a1 = some (r1, r2, r3)) :
    Calls Try.prog 89 #[.string a0, .string a1] w fun e w' => e = .returned (.tuple #[.string r1, .string r2, .bool r3]) ∧ Drawn0 w w' := by
  have H : ((driver_zzIndex.f k a0 a1).bind fun t107 => (if t107 ≥ 0 then (if 0 ≤ t107 then (if t107 ≤ (a0.size : Int) then (if 0 ≤ (wrap64 (t107 + (a1.size : Int))) then (if (wrap64 (t107 + (a1.size : Int))) ≤ (a0.size : Int) then (some (a0.extract 0 (t107 : Int).toNat, a0.extract ((wrap64 (t107 + (a1.size : Int))) : Int).toNat a0.size, true)) else (none)) else (none)) else (none)) else (none)) else (some (a0, (⟨#[]⟩ : ByteArray), false)))) = some (r1, r2, r3) := h
  clear h
  replace H := Option.bind_eq_some_iff.mp H
  obtain ⟨t107, A30, H⟩ := H
  replace H : (if t107 ≥ 0 then (if 0 ≤ t107 then (if t107 ≤ (a0.size : Int) then (if 0 ≤ (wrap64 (t107 + (a1.size : Int))) then (if (wrap64 (t107 + (a1.size : Int))) ≤ (a0.size : Int) then (some (a0.extract 0 (t107 : Int).toNat, a0.extract ((wrap64 (t107 + (a1.size : Int))) : Int).toNat a0.size, true)) else (none)) else (none)) else (none)) else (none)) else (some (a0, (⟨#[]⟩ : ByteArray), false))) = some (r1, r2, r3) := H
  have A3 := Aside0.mk A30
  clear A30
  by_cases c4 : t107 ≥ 0
  · rw [if_pos c4] at H
    have c4b0 : decide (0 ≤ t107) = true := decide_eq_true c4
    clear c4
    by_cases c5 : 0 ≤ t107
    · rw [if_pos c5] at H
      have c5b0 := eq_true c5
      have c5b1 : decide (0 ≤ t107) = true := decide_eq_true c5
      clear c5
      by_cases c6 : t107 ≤ (a0.size : Int)
      · rw [if_pos c6] at H
        have c6b0 := eq_true c6
        have c6b1 : decide (t107 ≤ (a0.size : Int)) = true := decide_eq_true c6
        clear c6
        obtain ⟨ji7, hji7⟩ : ∃ j_ : Int, (wrap64 (t107 + (a1.size : Int))) = j_ := ⟨_, rfl⟩
        replace H : (if 0 ≤ (ji7) then (if (ji7) ≤ (a0.size : Int) then (some (a0.extract 0 (t107 : Int).toNat, a0.extract ((ji7) : Int).toNat a0.size, true)) else (none)) else (none)) = some (r1, r2, r3) := by first | (rw [hji7] at H; exact H) | (simp only [hji7] at H ⊢; exact H)
        (try rw [hji7] at A3)
        have hji7w : (IntKind.i64.wrap (t107 + (a1.size : Int))) = ji7 := (i64_w _).trans hji7
        by_cases c8 : 0 ≤ (ji7)
        · rw [if_pos c8] at H
          have c8b0 := eq_true c8
          have c8b1 : decide (0 ≤ (ji7)) = true := decide_eq_true c8
          clear c8
          by_cases c9 : (ji7) ≤ (a0.size : Int)
          · rw [if_pos c9] at H
            have c9b0 := eq_true c9
            have c9b1 : decide ((ji7) ≤ (a0.size : Int)) = true := decide_eq_true c9
            clear c9
            simp only [Option.some.injEq, Prod.mk.injEq] at H
            obtain ⟨rfl, rfl, rfl⟩ := H
            go_enter Try.func89, Try.ntmps89
            go_wp2_with (first | (go_at_call 105; (with_reducible refine (driver_zzIndex.calls k a0 a1 t107 _ A3.out).mono ?_); rintro e w' ⟨rfl, ⟨nd, rfl⟩⟩; (try first | exact ⟨rfl, _, World.drewN_drewN _ _ _⟩ | exact ⟨rfl, _, Eq.trans (World.drewN_drewN _ _ _) (congrArg (World.drewN _) (Nat.add_assoc _ _ _))⟩)))
            repeat (go_quiet (first | (go_at_call 105; (with_reducible refine (driver_zzIndex.calls k a0 a1 t107 _ A3.out).mono ?_); rintro e w' ⟨rfl, ⟨nd, rfl⟩⟩; (try first | exact ⟨rfl, _, World.drewN_drewN _ _ _⟩ | exact ⟨rfl, _, Eq.trans (World.drewN_drewN _ _ _) (congrArg (World.drewN _) (Nat.add_assoc _ _ _))⟩))); try go_wp2_with (first | (go_at_call 105; (with_reducible refine (driver_zzIndex.calls k a0 a1 t107 _ A3.out).mono ?_); rintro e w' ⟨rfl, ⟨nd, rfl⟩⟩; (try first | exact ⟨rfl, _, World.drewN_drewN _ _ _⟩ | exact ⟨rfl, _, Eq.trans (World.drewN_drewN _ _ _) (congrArg (World.drewN _) (Nat.add_assoc _ _ _))⟩))))
            go_ret3
            exact ⟨by first | rfl | (simp; done) | (simp only [← hji7] <;> (first | rfl | simp)) | (simp [*]; done), by repeat (first | exact Drawn0.refl _ | apply Drawn0.step)⟩
          · rw [if_neg c9] at H
            exact absurd H (by simp)
        · rw [if_neg c8] at H
          exact absurd H (by simp)
      · rw [if_neg c6] at H
        exact absurd H (by simp)
    · rw [if_neg c5] at H
      exact absurd H (by simp)
  · rw [if_neg c4] at H
    have c4b0 : decide (0 ≤ t107) = false := decide_eq_false c4
    clear c4
    simp only [Option.some.injEq, Prod.mk.injEq] at H
    obtain ⟨rfl, rfl, rfl⟩ := H
    go_enter Try.func89, Try.ntmps89
    go_wp2_with (first | (go_at_call 105; (with_reducible refine (driver_zzIndex.calls k a0 a1 t107 _ A3.out).mono ?_); rintro e w' ⟨rfl, ⟨nd, rfl⟩⟩; (try first | exact ⟨rfl, _, World.drewN_drewN _ _ _⟩ | exact ⟨rfl, _, Eq.trans (World.drewN_drewN _ _ _) (congrArg (World.drewN _) (Nat.add_assoc _ _ _))⟩)))
    repeat (go_quiet (first | (go_at_call 105; (with_reducible refine (driver_zzIndex.calls k a0 a1 t107 _ A3.out).mono ?_); rintro e w' ⟨rfl, ⟨nd, rfl⟩⟩; (try first | exact ⟨rfl, _, World.drewN_drewN _ _ _⟩ | exact ⟨rfl, _, Eq.trans (World.drewN_drewN _ _ _) (congrArg (World.drewN _) (Nat.add_assoc _ _ _))⟩))); try go_wp2_with (first | (go_at_call 105; (with_reducible refine (driver_zzIndex.calls k a0 a1 t107 _ A3.out).mono ?_); rintro e w' ⟨rfl, ⟨nd, rfl⟩⟩; (try first | exact ⟨rfl, _, World.drewN_drewN _ _ _⟩ | exact ⟨rfl, _, Eq.trans (World.drewN_drewN _ _ _) (congrArg (World.drewN _) (Nat.add_assoc _ _ _))⟩))))
    go_ret3
    exact ⟨by first | rfl | (simp; done) | (simp [*]; done), by repeat (first | exact Drawn0.refl _ | apply Drawn0.step)⟩

/-! ### driver_parseSQLTag: function 72 -/
def driver_parseSQLTag.f (k : Nat) (a0 : ByteArray) : Option (ByteArray × ByteArray × ByteArray) := (driver_zzCut.f k a0 (⟨#[44]⟩ : ByteArray)).bind fun bt108 => ((driver_zzCut.f k bt108.2.1 (⟨#[44]⟩ : ByteArray)).bind fun bt111 => (some (bt108.1, bt111.1, bt111.2.1)))
theorem driver_parseSQLTag.mono : ∀ a0 k, LeO (driver_parseSQLTag.f k a0) (driver_parseSQLTag.f (k + 1) a0) := by
  intro a0 k
  unfold driver_parseSQLTag.f
  repeat' first
      | (with_reducible exact driver_zzCut.mono _ _ _)
      | (with_reducible exact LeO.refl _)
      | (with_reducible exact LeO.none _)
      | (with_reducible refine LeO.ite ?_ ?_)
      | (with_reducible refine LeO.bind ?_ (fun _ => ?_))
      | exact driver_zzCut.mono _ _ _
      | exact LeO.none _
      | refine LeO.ite ?_ ?_
      | refine LeO.bind ?_ (fun _ => ?_)
set_option maxHeartbeats 8000000 in
set_option maxRecDepth 100000 in
theorem driver_parseSQLTag.calls (k : Nat) (a0 : ByteArray) (r1 : ByteArray) (r2 : ByteArray) (r3 : ByteArray) (w : World) (h : driver_parseSQLTag.f k a0 = some (r1, r2, r3)) :
    Calls Try.prog 72 #[.string a0] w fun e w' => e = .returned (.tuple #[.string r1, .string r2, .string r3]) ∧ Drawn0 w w' := by
  have H : ((driver_zzCut.f k a0 (⟨#[44]⟩ : ByteArray)).bind fun bt108 => ((driver_zzCut.f k bt108.2.1 (⟨#[44]⟩ : ByteArray)).bind fun bt111 => (some (bt108.1, bt111.1, bt111.2.1)))) = some (r1, r2, r3) := h
  clear h
  replace H := Option.bind_eq_some_iff.mp H
  obtain ⟨⟨t108, t109, t110⟩, A20, H⟩ := H
  replace H : ((driver_zzCut.f k t109 (⟨#[44]⟩ : ByteArray)).bind fun bt111 => (some (t108, bt111.1, bt111.2.1))) = some (r1, r2, r3) := H
  have A2 := Aside0.mk A20
  clear A20
  replace H := Option.bind_eq_some_iff.mp H
  obtain ⟨⟨t111, t112, t113⟩, A30, H⟩ := H
  replace H : (some (t108, t111, t112)) = some (r1, r2, r3) := H
  have A3 := Aside0.mk A30
  clear A30
  simp only [Option.some.injEq, Prod.mk.injEq] at H
  obtain ⟨rfl, rfl, rfl⟩ := H
  go_enter Try.func72, Try.ntmps72
  go_wp2_with (first | ((with_reducible refine gate_callee (f := 89) rfl ?_); refine goesL_ (some 13) rfl rfl Try.func89 (by kernel_rfl) rfl #[.string a0, .string (⟨#[44]⟩ : ByteArray)] rfl (by (try simp only [List.map_toArray, List.map_cons, List.map_nil]); first | done | rfl | (simp only [List.length_drop, List.length_take]; rfl)) ?_; (with_reducible refine (driver_zzCut.calls k a0 (⟨#[44]⟩ : ByteArray) t108 t109 t110 _ A2.out).mono ?_); rintro e w' ⟨rfl, ⟨nd, rfl⟩⟩; refine ⟨_, rfl, ?_⟩) | ((with_reducible refine gate_callee (f := 89) rfl ?_); refine goesL_ (some 19) rfl rfl Try.func89 (by kernel_rfl) rfl #[.string t109, .string (⟨#[44]⟩ : ByteArray)] rfl (by (try simp only [List.map_toArray, List.map_cons, List.map_nil]); first | done | rfl | (simp only [List.length_drop, List.length_take]; rfl)) ?_; (with_reducible refine (driver_zzCut.calls k t109 (⟨#[44]⟩ : ByteArray) t111 t112 t113 _ A3.out).mono ?_); rintro e w' ⟨rfl, ⟨nd, rfl⟩⟩; refine ⟨_, rfl, ?_⟩))
  go_ret3
  exact ⟨by first | rfl | (simp; done) | (simp [*]; done), by repeat (first | exact Drawn0.refl _ | apply Drawn0.step)⟩

/-! ### driver_ZzTag: function 47 -/
def driver_ZzTag.f (k : Nat) (a0 : ByteArray) : Option (ByteArray × ByteArray × ByteArray) := (driver_parseSQLTag.f k a0).bind fun bt114 => (some (bt114.1, bt114.2.1, bt114.2.2))
theorem driver_ZzTag.mono : ∀ a0 k, LeO (driver_ZzTag.f k a0) (driver_ZzTag.f (k + 1) a0) := by
  intro a0 k
  unfold driver_ZzTag.f
  repeat' first
      | (with_reducible exact driver_parseSQLTag.mono _ _)
      | (with_reducible exact LeO.refl _)
      | (with_reducible exact LeO.none _)
      | (with_reducible refine LeO.ite ?_ ?_)
      | (with_reducible refine LeO.bind ?_ (fun _ => ?_))
      | exact driver_parseSQLTag.mono _ _
      | exact LeO.none _
      | refine LeO.ite ?_ ?_
      | refine LeO.bind ?_ (fun _ => ?_)
set_option maxHeartbeats 8000000 in
set_option maxRecDepth 100000 in
theorem driver_ZzTag.calls (k : Nat) (a0 : ByteArray) (r1 : ByteArray) (r2 : ByteArray) (r3 : ByteArray) (w : World) (h : driver_ZzTag.f k a0 = some (r1, r2, r3)) :
    Calls Try.prog 47 #[.string a0] w fun e w' => e = .returned (.tuple #[.string r1, .string r2, .string r3]) ∧ Drawn0 w w' := by
  have H : ((driver_parseSQLTag.f k a0).bind fun bt114 => (some (bt114.1, bt114.2.1, bt114.2.2))) = some (r1, r2, r3) := h
  clear h
  replace H := Option.bind_eq_some_iff.mp H
  obtain ⟨⟨t114, t115, t116⟩, A20, H⟩ := H
  replace H : (some (t114, t115, t116)) = some (r1, r2, r3) := H
  have A2 := Aside0.mk A20
  clear A20
  simp only [Option.some.injEq, Prod.mk.injEq] at H
  obtain ⟨rfl, rfl, rfl⟩ := H
  go_enter Try.func47, Try.ntmps47
  go_wp2_with (first | ((with_reducible refine gate_callee (f := 72) rfl ?_); refine goesL_ (some 10) rfl rfl Try.func72 (by kernel_rfl) rfl #[.string a0] rfl (by (try simp only [List.map_toArray, List.map_cons, List.map_nil]); first | done | rfl | (simp only [List.length_drop, List.length_take]; rfl)) ?_; (with_reducible refine (driver_parseSQLTag.calls k a0 t114 t115 t116 _ A2.out).mono ?_); rintro e w' ⟨rfl, ⟨nd, rfl⟩⟩; refine ⟨_, rfl, ?_⟩))
  go_ret3
  exact ⟨by first | rfl | (simp; done) | (simp [*]; done), by repeat (first | exact Drawn0.refl _ | apply Drawn0.step)⟩

/-! ### impl_TagOf: function 25 -/
def impl_TagOf.f (k : Nat) (a0 : ByteArray) : Option (ByteArray × ByteArray × ByteArray) := (driver_ZzTag.f k a0).bind fun bt117 => (some (bt117.1, bt117.2.1, bt117.2.2))
theorem impl_TagOf.mono : ∀ a0 k, LeO (impl_TagOf.f k a0) (impl_TagOf.f (k + 1) a0) := by
  intro a0 k
  unfold impl_TagOf.f
  repeat' first
      | (with_reducible exact driver_ZzTag.mono _ _)
      | (with_reducible exact LeO.refl _)
      | (with_reducible exact LeO.none _)
      | (with_reducible refine LeO.ite ?_ ?_)
      | (with_reducible refine LeO.bind ?_ (fun _ => ?_))
      | exact driver_ZzTag.mono _ _
      | exact LeO.none _
      | refine LeO.ite ?_ ?_
      | refine LeO.bind ?_ (fun _ => ?_)
set_option maxHeartbeats 8000000 in
set_option maxRecDepth 100000 in
theorem impl_TagOf.calls (k : Nat) (a0 : ByteArray) (r1 : ByteArray) (r2 : ByteArray) (r3 : ByteArray) (w : World) (h : impl_TagOf.f k a0 = some (r1, r2, r3)) :
    Calls Try.prog 25 #[.string a0] w fun e w' => e = .returned (.tuple #[.string r1, .string r2, .string r3]) ∧ Drawn0 w w' := by
  have H : ((driver_ZzTag.f k a0).bind fun bt117 => (some (bt117.1, bt117.2.1, bt117.2.2))) = some (r1, r2, r3) := h
  clear h
  replace H := Option.bind_eq_some_iff.mp H
  obtain ⟨⟨t117, t118, t119⟩, A20, H⟩ := H
  replace H : (some (t117, t118, t119)) = some (r1, r2, r3) := H
  have A2 := Aside0.mk A20
  clear A20
  simp only [Option.some.injEq, Prod.mk.injEq] at H
  obtain ⟨rfl, rfl, rfl⟩ := H
  go_enter Try.func25, Try.ntmps25
  go_wp2_with (first | ((with_reducible refine gate_callee (f := 47) rfl ?_); refine goesL_ (some 6) rfl rfl Try.func47 (by kernel_rfl) rfl #[.string a0] rfl (by (try simp only [List.map_toArray, List.map_cons, List.map_nil]); first | done | rfl | (simp only [List.length_drop, List.length_take]; rfl)) ?_; (with_reducible refine (driver_ZzTag.calls k a0 t117 t118 t119 _ A2.out).mono ?_); rintro e w' ⟨rfl, ⟨nd, rfl⟩⟩; refine ⟨_, rfl, ?_⟩))
  go_ret3
  exact ⟨by first | rfl | (simp; done) | (simp [*]; done), by repeat (first | exact Drawn0.refl _ | apply Drawn0.step)⟩

/-! ### driver_sqlTagOptions_Contains: function 73 -/
def driver_sqlTagOptions_Contains.l0 : Nat → ByteArray → ByteArray → Option (Bool)
  | 0, _, _ => none
  | k + 1, x1, x5 => if x5.toList = ([] : List UInt8) then (some false) else ((driver_zzCut.f k x5 (⟨#[44]⟩ : ByteArray)).bind fun bt120 => (if bt120.1.toList = x1.toList then (some true) else (driver_sqlTagOptions_Contains.l0 k x1 bt120.2.1)))
def driver_sqlTagOptions_Contains.f (k : Nat) (a0 : ByteArray) (a1 : ByteArray) : Option (Bool) := if (a0.size : Int) = 0 then (some false) else (driver_sqlTagOptions_Contains.l0 k a1 a0)
theorem driver_sqlTagOptions_Contains.mono_l : ∀ k, (∀ y0 y1, LeO (driver_sqlTagOptions_Contains.l0 k y0 y1) (driver_sqlTagOptions_Contains.l0 (k + 1) y0 y1))
  | 0 => fun _ _ r h => by simp [driver_sqlTagOptions_Contains.l0] at h
  | k + 1 => by
    have ih0 := driver_sqlTagOptions_Contains.mono_l k
    · intro y0 y1
      unfold driver_sqlTagOptions_Contains.l0
      repeat' first
      | (with_reducible exact ih0 _ _)
      | (with_reducible exact driver_zzCut.mono _ _ _)
      | (with_reducible exact LeO.refl _)
      | (with_reducible exact LeO.none _)
      | (with_reducible refine LeO.ite ?_ ?_)
      | (with_reducible refine LeO.bind ?_ (fun _ => ?_))
      | exact ih0 _ _
      | exact driver_zzCut.mono _ _ _
      | exact LeO.none _
      | refine LeO.ite ?_ ?_
      | refine LeO.bind ?_ (fun _ => ?_)
theorem driver_sqlTagOptions_Contains.mono : ∀ a0 a1 k, LeO (driver_sqlTagOptions_Contains.f k a0 a1) (driver_sqlTagOptions_Contains.f (k + 1) a0 a1) := by
  intro a0 a1 k
  have ih0 := driver_sqlTagOptions_Contains.mono_l k
  unfold driver_sqlTagOptions_Contains.f
  repeat' first
      | (with_reducible exact ih0 _ _)
      | (with_reducible exact driver_zzCut.mono _ _ _)
      | (with_reducible exact LeO.refl _)
      | (with_reducible exact LeO.none _)
      | (with_reducible refine LeO.ite ?_ ?_)
      | (with_reducible refine LeO.bind ?_ (fun _ => ?_))
      | exact ih0 _ _
      | exact driver_zzCut.mono _ _ _
      | exact LeO.none _
      | refine LeO.ite ?_ ?_
      | refine LeO.bind ?_ (fun _ => ?_)
set_option maxHeartbeats 8000000 in
set_option maxRecDepth 100000 in
theorem driver_sqlTagOptions_Contains.calls (k : Nat) (a0 : ByteArray) (a1 : ByteArray) (r : Bool) (w : World) (h : driver_sqlTagOptions_Contains.f k a0 a1 = some r) :
    Calls Try.prog 73 #[.string a0, .string a1] w fun e w' => e = .returned (.bool r) ∧ Drawn0 w w' := by
  have H : (if (a0.size : Int) = 0 then (some false) else (driver_sqlTagOptions_Contains.l0 k a1 a0)) = some r := h
  clear h
  by_cases c3 : (a0.size : Int) = 0
  · rw [if_pos c3] at H
    have c3b0 : ((a0.size : Int) == 0) = true := beq_iff_eq.mpr c3
    have c3b1 : ((a0.size : Int) != 0) = false := bne_eq_false_iff_eq.mpr c3
    clear c3
    obtain rfl := Option.some.inj H
    go_enter Try.func73, Try.ntmps73
    go_wp2
    go_ret
    exact ⟨by first | rfl | (simp; done) | (simp [*]; done), by repeat (first | exact Drawn0.refl _ | apply Drawn0.step)⟩
  · rw [if_neg c3] at H
    have c3b0 : ((a0.size : Int) == 0) = false := beq_eq_false_iff_ne.mpr c3
    have c3b1 : ((a0.size : Int) != 0) = true := bne_iff_ne.mpr c3
    have H' := Aside0.mk H
    clear H
    go_enter Try.func73, Try.ntmps73
    go_wp2
    go_loopg [5] k (fun kq v5 w' => ∃ (x5_1 : ByteArray), v5 = .string x5_1 ∧ Aside0 (driver_sqlTagOptions_Contains.l0 kq a1 x5_1 = some r) ∧ Aside0 (kq ≤ k) ∧ Drawn0 w w')
    case atStart => exact ⟨(a0), (by first | rfl | (simp; done) | (simp [*]; done)), H', ⟨Nat.le_refl _⟩, by repeat (first | exact Drawn0.refl _ | apply Drawn0.step)⟩
    case round =>
      clear H'
      try clear p2
      try clear c3
      try clear c3b0
      try clear c3b1
      obtain ⟨x5_1, rfl, HA, HK1, ⟨m1, rfl⟩⟩ := hrel
      cases gk with
      | zero => exact absurd HA.out (by simp [driver_sqlTagOptions_Contains.l0])
      | succ k1 =>
        have H := HA.out
        clear HA
        simp only [driver_sqlTagOptions_Contains.l0] at H
        by_cases c4 : x5_1.toList = ([] : List UInt8)
        · rw [if_pos c4] at H
          have c4b0 : (x5_1.toList == ([] : List UInt8)) = true := beq_iff_eq.mpr c4
          have c4b1 : (x5_1.toList != ([] : List UInt8)) = false := bne_eq_false_iff_eq.mpr c4
          clear c4
          obtain rfl := Option.some.inj H
          go_wp2
          go_ret
          exact ⟨by first | rfl | (simp; done) | (simp [*]; done), by repeat (first | exact Drawn0.refl _ | apply Drawn0.step)⟩
        · rw [if_neg c4] at H
          have c4b0 : (x5_1.toList == ([] : List UInt8)) = false := beq_eq_false_iff_ne.mpr c4
          have c4b1 : (x5_1.toList != ([] : List UInt8)) = true := bne_iff_ne.mpr c4
          replace H := Option.bind_eq_some_iff.mp H
          obtain ⟨⟨t120, t121, t122⟩, A50, H⟩ := H
          replace H : (if t120.toList = a1.toList then (some true) else (driver_sqlTagOptions_Contains.l0 k1 a1 t121)) = some r := H
          have A5 := Aside0.mk A50
          clear A50
          by_cases c6 : t120.toList = a1.toList
          · rw [if_pos c6] at H
            have c6b0 : (t120.toList == a1.toList) = true := beq_iff_eq.mpr c6
            have c6b1 : (t120.toList != a1.toList) = false := bne_eq_false_iff_eq.mpr c6
            clear c6
            obtain rfl := Option.some.inj H
            go_wp2_with (first | ((with_reducible refine gate_callee (f := 89) rfl ?_); refine goesL_ (some 15) rfl rfl Try.func89 (by kernel_rfl) rfl #[.string x5_1, .string (⟨#[44]⟩ : ByteArray)] rfl (by (try simp only [List.map_toArray, List.map_cons, List.map_nil]); first | done | rfl | (simp only [List.length_drop, List.length_take]; rfl)) ?_; (with_reducible refine (driver_zzCut.calls k1 x5_1 (⟨#[44]⟩ : ByteArray) t120 t121 t122 _ A5.out).mono ?_); rintro e w' ⟨rfl, ⟨nd, rfl⟩⟩; refine ⟨_, rfl, ?_⟩))
            go_ret
            exact ⟨by first | rfl | (simp; done) | (simp [*]; done), by repeat (first | exact Drawn0.refl _ | apply Drawn0.step)⟩
          · rw [if_neg c6] at H
            have c6b0 : (t120.toList == a1.toList) = false := beq_eq_false_iff_ne.mpr c6
            have c6b1 : (t120.toList != a1.toList) = true := bne_iff_ne.mpr c6
            have H' := Aside0.mk H
            clear H
            go_wp2_with (first | ((with_reducible refine gate_callee (f := 89) rfl ?_); refine goesL_ (some 15) rfl rfl Try.func89 (by kernel_rfl) rfl #[.string x5_1, .string (⟨#[44]⟩ : ByteArray)] rfl (by (try simp only [List.map_toArray, List.map_cons, List.map_nil]); first | done | rfl | (simp only [List.length_drop, List.length_take]; rfl)) ?_; (with_reducible refine (driver_zzCut.calls k1 x5_1 (⟨#[44]⟩ : ByteArray) t120 t121 t122 _ A5.out).mono ?_); rintro e w' ⟨rfl, ⟨nd, rfl⟩⟩; refine ⟨_, rfl, ?_⟩))
            go_roundg k1
            case measure => have := HK1.out; omega
            case rel => exact ⟨(t121), (by first | rfl | (simp; done) | (simp [*]; done)), H', ⟨by have := HK1.out; omega⟩, by repeat (first | exact Drawn0.refl _ | apply Drawn0.step)⟩

/-! ### driver_ZzTagHas: function 48 -/
def driver_ZzTagHas.f (k : Nat) (a0 : ByteArray) (a1 : ByteArray) : Option (Bool) := (driver_sqlTagOptions_Contains.f k a0 a1).bind fun t123 => (some t123)
theorem driver_ZzTagHas.mono : ∀ a0 a1 k, LeO (driver_ZzTagHas.f k a0 a1) (driver_ZzTagHas.f (k + 1) a0 a1) := by
  intro a0 a1 k
  unfold driver_ZzTagHas.f
  repeat' first
      | (with_reducible exact driver_sqlTagOptions_Contains.mono _ _ _)
      | (with_reducible exact LeO.refl _)
      | (with_reducible exact LeO.none _)
      | (with_reducible refine LeO.ite ?_ ?_)
      | (with_reducible refine LeO.bind ?_ (fun _ => ?_))
      | exact driver_sqlTagOptions_Contains.mono _ _ _
      | exact LeO.none _
      | refine LeO.ite ?_ ?_
      | refine LeO.bind ?_ (fun _ => ?_)
set_option maxHeartbeats 8000000 in
set_option maxRecDepth 100000 in
theorem driver_ZzTagHas.calls (k : Nat) (a0 : ByteArray) (a1 : ByteArray) (r : Bool) (w : World) (h : driver_ZzTagHas.f k a0 a1 = some r) :
    Calls Try.prog 48 #[.string a0, .string a1] w fun e w' => e = .returned (.bool r) ∧ Drawn0 w w' := by
  have H : ((driver_sqlTagOptions_Contains.f k a0 a1).bind fun t123 => (some t123)) = some r := h
  clear h
  replace H := Option.bind_eq_some_iff.mp H
  obtain ⟨t123, A30, H⟩ := H
  replace H : (some t123) = some r := H
  have A3 := Aside0.mk A30
  clear A30
  obtain rfl := Option.some.inj H
  go_enter Try.func48, Try.ntmps48
  go_wp2_with (first | ((with_reducible refine gate_callee (f := 73) rfl ?_); refine goesL_ (some 7) rfl rfl Try.func73 (by kernel_rfl) rfl #[.string a0, .string a1] rfl (by (try simp only [List.map_toArray, List.map_cons, List.map_nil]); first | done | rfl | (simp only [List.length_drop, List.length_take]; rfl)) ?_; (with_reducible refine (driver_sqlTagOptions_Contains.calls k a0 a1 t123 _ A3.out).mono ?_); rintro e w' ⟨rfl, ⟨nd, rfl⟩⟩; refine ⟨_, rfl, ?_⟩))
  go_ret
  exact ⟨by first | rfl | (simp; done) | (simp [*]; done), by repeat (first | exact Drawn0.refl _ | apply Drawn0.step)⟩

/-! ### impl_TagHas: function 26 -/
def impl_TagHas.f (k : Nat) (a0 : ByteArray) (a1 : ByteArray) : Option (Bool) := (driver_ZzTagHas.f k a0 a1).bind fun t124 => (some t124)
theorem impl_TagHas.mono : ∀ a0 a1 k, LeO (impl_TagHas.f k a0 a1) (impl_TagHas.f (k + 1) a0 a1) := by
  intro a0 a1 k
  unfold impl_TagHas.f
  repeat' first
      | (with_reducible exact driver_ZzTagHas.mono _ _ _)
      | (with_reducible exact LeO.refl _)
      | (with_reducible exact LeO.none _)
      | (with_reducible refine LeO.ite ?_ ?_)
      | (with_reducible refine LeO.bind ?_ (fun _ => ?_))
      | exact driver_ZzTagHas.mono _ _ _
      | exact LeO.none _
      | refine LeO.ite ?_ ?_
      | refine LeO.bind ?_ (fun _ => ?_)
set_option maxHeartbeats 8000000 in
set_option maxRecDepth 100000 in
theorem impl_TagHas.calls (k : Nat) (a0 : ByteArray) (a1 : ByteArray) (r : Bool) (w : World) (h : impl_TagHas.f k a0 a1 = some r) :
    Calls Try.prog 26 #[.string a0, .string a1] w fun e w' => e = .returned (.bool r) ∧ Drawn0 w w' := by
  have H : ((driver_ZzTagHas.f k a0 a1).bind fun t124 => (some t124)) = some r := h
  clear h
  replace H := Option.bind_eq_some_iff.mp H
  obtain ⟨t124, A30, H⟩ := H
  replace H : (some t124) = some r := H
  have A3 := Aside0.mk A30
  clear A30
  obtain rfl := Option.some.inj H
  go_enter Try.func26, Try.ntmps26
  go_wp2_with (first | ((with_reducible refine gate_callee (f := 48) rfl ?_); refine goesL_ (some 7) rfl rfl Try.func48 (by kernel_rfl) rfl #[.string a0, .string a1] rfl (by (try simp only [List.map_toArray, List.map_cons, List.map_nil]); first | done | rfl | (simp only [List.length_drop, List.length_take]; rfl)) ?_; (with_reducible refine (driver_ZzTagHas.calls k a0 a1 t124 _ A3.out).mono ?_); rintro e w' ⟨rfl, ⟨nd, rfl⟩⟩; refine ⟨_, rfl, ?_⟩))
  go_ret
  exact ⟨by first | rfl | (simp; done) | (simp [*]; done), by repeat (first | exact Drawn0.refl _ | apply Drawn0.step)⟩

end Go.Proofs.Ytlbbdnngjkjafaa.PFnTag
