/- spec.VaSame; FnVaDecimalBack: the bytes of a decimal, read. -/
import Derived.Test.YtjikodjljocpmaaBigJ
import Derived.Test.YtjikodjljocpmaaBigL
namespace Go.Proofs.Ytjikodjljocpmaa.Kb
open Go Go.RowKit
set_option linter.unusedVariables false
set_option linter.unusedSimpArgs false
set_option maxHeartbeats 2000000
set_option maxRecDepth 100000 in
theorem vaSame (neg : Bool) (A1 A2 : Option Addr) (n1 n2 c1 c2 : Nat) (xs : List Int) (w : World) (h1 : Rd w [] A1 n1 xs) (h2 : Rd w [] A2 n2 xs) :
    Calls Try.prog 12 #[.agg #[.bool neg, .slice A1 n1 c1], .agg #[.bool neg, .slice A2 n2 c2]] w fun e w' => e = .returned (.bool true) ∧ Below w.heap.size w w' := by
  have HB := Hd.mk (show Below w.heap.size w ((w.alloc (.cells #[.bool neg, .slice A1 n1 c1] 24)).alloc (.cells #[.bool neg, .slice A2 n2 c2] 24)) from ((Below.refl _ _).alloc (Nat.le_refl _) _).alloc (by simp) _)
  have s1 := str_run (P := Try.prog) (src := 22) (dst := 9) (c := c1) Try.underlying22 Try.underlying5 Try.underlying9 (h1.below HB.out)
  have s2 := str_run (P := Try.prog) (src := 22) (dst := 9) (c := c2) Try.underlying22 Try.underlying5 Try.underlying9 (h2.below HB.out)
  clear h1 h2
  cases neg
  all_goals
    go_enter Try.func12, Try.ntmps12
    go_wp2
    go_ret
    exact ⟨by simp, HB.out⟩
theorem okB_ge {neg : Bool} {xs : List Int} (hby : ∀ x ∈ xs, 0 ≤ x ∧ x < 256) (h : okB neg xs = true) : xs.length = 0 ∨ 256 ^ (xs.length - 1) ≤ beN xs := by
  cases xs with
  | nil => exact .inl rfl
  | cons x xs =>
    simp [okB] at h
    have hx := hby x (by simp)
    have e : beN (x :: xs) = beN [x] * 256 ^ xs.length + beN xs := beN_append [x] xs
    refine .inr ?_
    rw [e]
    have h1 : beN [x] = x.toNat := by simp [beN]
    rw [h1]
    have h2 : 1 ≤ x.toNat := by omega
    have := Nat.mul_le_mul_right (256 ^ xs.length) h2
    simp
    omega
theorem beL_beN {xs : List Int} (hby : ∀ x ∈ xs, 0 ≤ x ∧ x < 256) : beL (beN xs) xs.length = xs := by
  apply List.ext_getElem
  · rw [beL_len]
  · intro j h1 h2
    simp only [beL, List.getElem_map, List.getElem_range]
    have hb := hby xs[j] (List.getElem_mem h2)
    have e : limb 256 (beN xs) (xs.length - 1 - j) = (xs[j]).toNat := by
      unfold limb
      rw [show xs.length - 1 - j = xs.length - (j + 1) by omega, beN_div hby (by omega), List.take_succ_eq_append_getElem h2, beN_snoc]
      omega
    rw [e]
    omega
set_option maxRecDepth 100000 in
theorem law_decimalBack_no (neg : Bool) (A : Option Addr) (n c : Nat) (x : Int) (w : World) (hf : ¬ n ≤ 2147483647) (hs : n ≤ 9223372036854775807) :
    Calls Try.prog 4 #[.agg #[.bool neg, .slice A n c], .int .i64 x] w fun e w' => e = .returned (.bool true) ∧ Below w.heap.size w w' := by
  have B0 := Hd.mk (show Below w.heap.size w (w.alloc (.cells #[.bool neg, .slice A n c] 24)) from (Below.refl _ _).alloc (Nat.le_refl _) _)
  have CF := Hd.mk (fits4 neg A n c (w.alloc (.cells #[.bool neg, .slice A n c] 24)) hs)
  have hd : decide (n ≤ 2147483647) = false := decide_eq_false hf
  rw [hd] at CF
  clear hd
  go_enter Try.func4, Try.ntmps4
  go_wp2_with fail
  with_reducible refine CF.out.mono ?_
  rintro e w1 ⟨rfl, hb1⟩
  have B1 := Hd.mk (B0.out.trans (hb1.mono B0.out.size))
  clear hb1 CF
  go_wp2_with fail
  go_ret
  exact ⟨rfl, B1.out⟩
set_option maxRecDepth 100000 in
theorem law_decimalBack (neg : Bool) (A : Option Addr) (n c : Nat) (xs : List Int) (x : Int) (w : World) (hr : Rd w [] A n xs) (hby : ∀ x ∈ xs, 0 ≤ x ∧ x < 256) (hnc : n ≤ c) (hc : c ≤ 9223372036854775807)
    (hx : -9223372036854775808 ≤ x ∧ x ≤ 9223372036854775807) :
    Calls Try.prog 4 #[.agg #[.bool neg, .slice A n c], .int .i64 x] w fun e w' => e = .returned (.bool true) ∧ Below w.heap.size w w' := by
  have hs : n ≤ 9223372036854775807 := by have := hr.small; omega
  by_cases hf : n ≤ 2147483647
  · have B0 := Hd.mk (show Below w.heap.size w (w.alloc (.cells #[.bool neg, .slice A n c] 24)) from (Below.refl _ _).alloc (Nat.le_refl _) _)
    have P0 := Hd.mk (Blk.new w #[.bool neg, .slice A n c] 24)
    have CF := Hd.mk (fits4 neg A n c (w.alloc (.cells #[.bool neg, .slice A n c] 24)) hs)
    have HR := Hd.mk hr; have HY := Hd.mk hby; have HX := Hd.mk hx; have LN := Hd.mk hr.len
    clear hr hby hx
    have hd : decide (n ≤ 2147483647) = true := decide_eq_true hf
    rw [hd] at CF
    clear hd
    go_enter Try.func4, Try.ntmps4
    go_wp2_with fail
    with_reducible refine CF.out.mono ?_
    rintro e w1 ⟨rfl, hb1⟩
    have B1 := Hd.mk (B0.out.trans (hb1.mono B0.out.size))
    have hp1 := P0.out.below hb1 P0.out.lt
    have P1 := Hd.mk hp1
    have y0 : w1.cell? ⟨w.heap.size, 0, none⟩ = some (.bool neg) := hp1.cell 0 rfl
    have y1 : w1.cell? ⟨w.heap.size, 1, none⟩ = some (.slice A n c) := hp1.cell 1 rfl
    clear hb1 hp1 CF
    have CV := Hd.mk (vaBig neg A n c 15 15 xs w1 (HR.out.below B1.out) HY.out (by omega) hnc hc rfl (by decide))
    go_wp2_with fail
    with_reducible refine CV.out.mono ?_
    rintro e w2 ⟨A2, l2, c2, rfl, hd2, hb2, _⟩
    have OK := Hd.mk (fun h => okB_ne (neg := neg) HY.out h)
    have B2 := Hd.mk (B1.out.trans (hb2.mono B1.out.size))
    have P2 := Hd.mk (P1.out.below hb2 P1.out.lt)
    have D2 := Hd.mk hd2
    clear hb2 hd2 CV y0 y1
    have B3 := Hd.mk (B2.out.alloc B2.out.size (.cells #[.bool neg, .slice A2 l2 c2] 29))
    have P3 := Hd.mk (P2.out.alloc (.cells #[.bool neg, .slice A2 l2 c2] 29))
    have D3 := Hd.mk (D2.out.below ((Below.refl _ _).alloc (Nat.le_refl _) _ : Below w2.heap.size w2 (w2.alloc (.cells #[.bool neg, .slice A2 l2 c2] 29))))
    generalize hok : (okB neg xs && decide (n ≤ 15)) = ok
    have HOK := Hd.mk hok
    clear hok
    by_cases hyes : beN xs < 2 ^ 113 ∧ -6176 ≤ x ∧ x ≤ 6111
    · obtain ⟨y, hy⟩ : ∃ y : Nat, x + 6176 = y := ⟨(x + 6176).toNat, by omega⟩
      have CD := Hd.mk (vaDecimal_yes neg A2 l2 c2 (beN xs) y x _ D3.out hy (by omega) hyes.1)
      have HYES := Hd.mk hyes; have HYY := Hd.mk hy
      clear hyes hy
      go_wp2_with fail
      with_reducible refine CD.out.mono ?_
      rintro e w4 ⟨g, rfl, hb4, hg4, hl4⟩
      have B4 := Hd.mk (B3.out.trans (hl4.mono B3.out.size))
      have P4 := Hd.mk (P3.out.below hl4 P3.out.lt)
      have Q4 := Hd.mk hb4
      clear hb4 hl4 CD
      cases ok
      · go_wp2_with fail
        go_ret
        exact ⟨rfl, B4.out⟩
      · have hok1 : okB neg xs = true := by have := HOK.out; simp at this; exact this.1
        have hne := OK.out hok1
        have GE := Hd.mk (okB_ge HY.out hok1)
        have hneg : (neg && decide (beN xs ≠ 0)) = neg := by
          cases neg
          · rfl
          · simp [hne rfl]
        have rq : Rd w4 [] (some ⟨g, 0, none⟩) 16 (leL (decN neg (beN xs) y) 16) := by
          have := rd_row Q4.out (leL (decN neg (beN xs) y) 16) (fun j hj => by simp [hj]) (by rw [leL_len]; omega)
          rwa [leL_len] at this
        have CX := Hd.mk (decimalOf (some ⟨g, 0, none⟩) 16 w4 neg (beN xs) y rq (Nat.le_refl _) (by decide) (leL_byte _ _) HYES.out.1 (by have := HYY.out; have := HYES.out; omega) x (by have := HYY.out; omega))
        rw [hneg] at CX
        clear hne rq hok1 hneg
        go_wp2_with fail
        with_reducible refine CX.out.mono ?_
        rintro e w5 ⟨A6, m, c6, rfl, k1, k2, k3, k4, k5, k6⟩
        have hm : m = n := lens_eq B256 k3 k4 (by have := beN_lt xs HY.out; rwa [LN.out] at this) (by have := GE.out; rwa [LN.out] at this)
        subst hm
        have e5 : beL (beN xs) m = xs := by have := beL_beN HY.out; rwa [LN.out] at this
        rw [e5] at k5
        have B5 := Hd.mk (B4.out.trans (k6.mono B4.out.size))
        have P5 := Hd.mk ((P4.out.below k6 P4.out.lt).alloc (.cells #[.bool neg, .slice A6 m c6] 24))
        have B6 := Hd.mk (B5.out.alloc B5.out.size (.cells #[.bool neg, .slice A6 m c6] 24))
        have CS := Hd.mk (vaSame neg A6 A m m c6 c xs (w5.alloc (.cells #[.bool neg, .slice A6 m c6] 24)) (k5.below ((Below.refl _ _).alloc (Nat.le_refl _) _)) (HR.out.below B6.out))
        have z0 : (w5.alloc (.cells #[.bool neg, .slice A6 m c6] 24)).cell? ⟨w.heap.size, 0, none⟩ = some (.bool neg) := P5.out.cell 0 rfl
        have z1 : (w5.alloc (.cells #[.bool neg, .slice A6 m c6] 24)).cell? ⟨w.heap.size, 1, none⟩ = some (.slice A m c) := P5.out.cell 1 rfl
        have z2 := (P4.out.below k6 P4.out.lt).cell 0 rfl
        have z3 := (P4.out.below k6 P4.out.lt).cell 1 rfl
        clear k1 k2 k3 k4 k5 k6 CX e5
        go_wp2_with fail
        with_reducible refine CS.out.mono ?_
        rintro e w7 ⟨rfl, hb7⟩
        have B7 := Hd.mk (B6.out.trans (hb7.mono B6.out.size))
        clear hb7 CS z0 z1
        go_wp2_with fail
        go_ret
        exact ⟨by simp, B7.out⟩
    · have CD := Hd.mk (vaDecimal_no neg A2 l2 c2 (beN xs) x _ D3.out HX.out (by omega))
      clear hyes
      go_wp2_with fail
      with_reducible refine CD.out.mono ?_
      rintro e w4 ⟨rfl, hl4⟩
      have B4 := Hd.mk (B3.out.trans (hl4.mono B3.out.size))
      clear hl4 CD
      cases ok
      all_goals
        go_wp2_with fail
        go_ret
        exact ⟨rfl, B4.out⟩
  · exact law_decimalBack_no neg A n c x w hf hs
theorem FnVaDecimalBack (neg : Bool) (a : Option Addr) (len cap : Nat) (zs : List Int) (x : Int) (w : World) (h : (a = none ∧ len = 0 ∧ cap = 0 ∧ zs = []) ∨ ∃ x, a = some x ∧ len ≤ cap ∧ cap ≤ maxLen ∧ zs.length = cap ∧ (∀ i, i < zs.length → w.cell? (x.add i) = some (.int .u8 (zs.getD i 0))) ∧ ∀ n ∈ zs, (Lit.int .u8 n).wf = true) (hx : (Lit.int .i64 x).wf = true) :
    Calls Try.prog 4 #[.agg #[.bool neg, .slice a len cap], .int .i64 x] w fun e w' => e = .returned (.bool true) ∧ Below w.heap.size w w' := by
  have hcap : len ≤ cap ∧ cap ≤ maxLen := by
    rcases h with ⟨rfl, rfl, rfl, rfl⟩ | ⟨x, rfl, h1, h2, _⟩
    · exact ⟨Nat.le_refl _, by decide⟩
    · exact ⟨h1, h2⟩
  unfold maxLen at hcap
  by_cases hf : len ≤ 2147483647
  · obtain ⟨h1, h2, hr, hb⟩ := rd_row_in h (by omega)
    exact law_decimalBack neg a len cap _ x w hr hb h1 hcap.2 (Kb.bounds_i64 hx)
  · exact law_decimalBack_no neg a len cap x w hf (by omega)
end Go.Proofs.Ytjikodjljocpmaa.Kb
