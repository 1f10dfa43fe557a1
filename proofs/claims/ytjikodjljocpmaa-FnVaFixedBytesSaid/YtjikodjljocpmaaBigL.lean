/- FnVaDecimalBytes: the bytes of a decimal. -/
import Derived.Test.YtjikodjljocpmaaBigG
namespace Go.Proofs.Ytjikodjljocpmaa.Kb
open Go Go.RowKit
set_option linter.unusedVariables false
set_option linter.unusedSimpArgs false
set_option maxHeartbeats 2000000
theorem okB_ne {neg : Bool} {xs : List Int} (hby : ∀ x ∈ xs, 0 ≤ x ∧ x < 256) (h : okB neg xs = true) : neg = true → beN xs ≠ 0 := by
  intro hn
  cases xs with
  | nil => subst hn; simp [okB] at h
  | cons x xs =>
    simp [okB] at h
    have hx := hby x (by simp)
    have e : beN (x :: xs) = beN [x] * 256 ^ xs.length + beN xs := beN_append [x] xs
    rw [e]
    have : beN [x] = x.toNat := by simp [beN]
    rw [this]
    have h1 : 0 < x.toNat := by omega
    have := Nat.mul_pos h1 (Nat.pow_pos (n := xs.length) (show 0 < 256 by decide))
    omega
theorem leL_byte (n m : Nat) : ∀ x ∈ leL n m, 0 ≤ x ∧ x < 256 := by
  intro x hx
  obtain ⟨j, _, rfl⟩ := List.mem_map.1 hx
  have := bytelt n j
  omega
set_option maxRecDepth 100000 in
theorem law_decimalBytes_no (neg : Bool) (A : Option Addr) (n c : Nat) (x : Int) (w : World) (hf : ¬ n ≤ 2147483647) (hs : n ≤ 9223372036854775807) :
    Calls Try.prog 3 #[.agg #[.bool neg, .slice A n c], .int .i64 x] w fun e w' => e = .returned (.bool true) ∧ Below w.heap.size w w' := by
  have B0 := Hd.mk (show Below w.heap.size w (w.alloc (.cells #[.bool neg, .slice A n c] 24)) from (Below.refl _ _).alloc (Nat.le_refl _) _)
  have CF := Hd.mk (fits4 neg A n c (w.alloc (.cells #[.bool neg, .slice A n c] 24)) hs)
  have hd : decide (n ≤ 2147483647) = false := decide_eq_false hf
  rw [hd] at CF
  clear hd
  go_enter Try.func3, Try.ntmps3
  go_wp2_with fail
  with_reducible refine CF.out.mono ?_
  rintro e w1 ⟨rfl, hb1⟩
  have B1 := Hd.mk (B0.out.trans (hb1.mono B0.out.size))
  clear hb1 CF
  go_wp2_with fail
  go_ret
  exact ⟨rfl, B1.out⟩
set_option maxRecDepth 100000 in
theorem law_decimalBytes (neg : Bool) (A : Option Addr) (n c : Nat) (xs : List Int) (x : Int) (w : World) (hr : Rd w [] A n xs) (hby : ∀ x ∈ xs, 0 ≤ x ∧ x < 256) (hnc : n ≤ c) (hc : c ≤ 9223372036854775807)
    (hx : -9223372036854775808 ≤ x ∧ x ≤ 9223372036854775807) :
    Calls Try.prog 3 #[.agg #[.bool neg, .slice A n c], .int .i64 x] w fun e w' => e = .returned (.bool true) ∧ Below w.heap.size w w' := by
  have hs : n ≤ 9223372036854775807 := by have := hr.small; omega
  have B0 := Hd.mk (show Below w.heap.size w (w.alloc (.cells #[.bool neg, .slice A n c] 24)) from (Below.refl _ _).alloc (Nat.le_refl _) _)
  have P0 := Hd.mk (Blk.new w #[.bool neg, .slice A n c] 24)
  have CF := Hd.mk (fits4 neg A n c (w.alloc (.cells #[.bool neg, .slice A n c] 24)) hs)
  have HR := Hd.mk hr; have HY := Hd.mk hby; have HX := Hd.mk hx
  clear hr hby hx
  by_cases hf : n ≤ 2147483647
  · have hd : decide (n ≤ 2147483647) = true := decide_eq_true hf
    rw [hd] at CF
    clear hd
    go_enter Try.func3, Try.ntmps3
    go_wp2_with fail
    with_reducible refine CF.out.mono ?_
    rintro e w1 ⟨rfl, hb1⟩
    have B1 := Hd.mk (B0.out.trans (hb1.mono B0.out.size))
    have hp1 := P0.out.below hb1 P0.out.lt
    have P1 := Hd.mk hp1
    have y0 : w1.cell? ⟨w.heap.size, 0, none⟩ = some (.bool neg) := hp1.cell 0 rfl
    have y1 : w1.cell? ⟨w.heap.size, 1, none⟩ = some (.slice A n c) := hp1.cell 1 rfl
    clear hb1 hp1 CF
    have CV := Hd.mk (vaBig neg A n c 15 15 xs w1 (HR.out.below B1.out) HY.out (by omega) hnc hc rfl (by decide))
    go_wp2_with fail
    with_reducible refine CV.out.mono ?_
    rintro e w2 ⟨A2, l2, c2, rfl, hd2, hb2, _⟩
    have OK := Hd.mk (fun h => okB_ne (neg := neg) HY.out h)
    have B2 := Hd.mk (B1.out.trans (hb2.mono B1.out.size))
    have P2 := Hd.mk (P1.out.below hb2 P1.out.lt)
    have D2 := Hd.mk hd2
    clear hb2 hd2 CV y0 y1
    have B3 := Hd.mk (B2.out.alloc B2.out.size (.cells #[.bool neg, .slice A2 l2 c2] 29))
    have P3 := Hd.mk (P2.out.alloc (.cells #[.bool neg, .slice A2 l2 c2] 29))
    have D3 := Hd.mk (D2.out.below ((Below.refl _ _).alloc (Nat.le_refl _) _ : Below w2.heap.size w2 (w2.alloc (.cells #[.bool neg, .slice A2 l2 c2] 29))))
    generalize hok : (okB neg xs && decide (n ≤ 15)) = ok
    have HOK := Hd.mk hok
    clear hok
    by_cases hyes : beN xs < 2 ^ 113 ∧ -6176 ≤ x ∧ x ≤ 6111
    · obtain ⟨y, hy⟩ : ∃ y : Nat, x + 6176 = y := ⟨(x + 6176).toNat, by omega⟩
      have CD := Hd.mk (vaDecimal_yes neg A2 l2 c2 (beN xs) y x _ D3.out hy (by omega) hyes.1)
      have HYES := Hd.mk hyes; have HYY := Hd.mk hy
      clear hyes hy
      go_wp2_with fail
      with_reducible refine CD.out.mono ?_
      rintro e w4 ⟨g, rfl, hb4, hg4, hl4⟩
      have B4 := Hd.mk (B3.out.trans (hl4.mono B3.out.size))
      have P4 := Hd.mk (P3.out.below hl4 P3.out.lt)
      have z0 : w4.cell? ⟨w.heap.size, 0, none⟩ = some (.bool neg) := P4.out.cell 0 rfl
      have z1 : w4.cell? ⟨w.heap.size, 1, none⟩ = some (.slice A n c) := P4.out.cell 1 rfl
      have Q4 := Hd.mk hb4
      clear hb4 hl4 CD
      cases ok
      · go_wp2_with fail
        go_ret
        exact ⟨rfl, B4.out⟩
      · have hn15 : n ≤ 15 := by have := HOK.out; simp at this; exact this.2
        have hne := OK.out (by have := HOK.out; simp at this; exact this.1)
        have CX := Hd.mk (decimalBytes neg A n c xs x y w4 (HR.out.below B4.out) HY.out (by omega) hnc hc HYY.out (by have := HYY.out; have := HYES.out; omega) HYES.out.1 hne)
        clear hne
        go_wp2_with fail
        with_reducible refine CX.out.mono ?_
        rintro e w5 ⟨v, rfl, hm⟩
        obtain ⟨A6, c6, he6, k1, k2, k3, _, _, k4⟩ := hm.rd (by rw [leL_len]; omega)
        cases he6
        rw [leL_len] at k1 k3
        have rq : Rd w5 [] (some ⟨g, 0, none⟩) 16 (leL (decN neg (beN xs) y) 16) := by
          have := rd_row (Q4.out.below k4 Q4.out.lt) (leL (decN neg (beN xs) y) 16) (fun j hj => by simp [hj]) (by rw [leL_len]; omega)
          rwa [leL_len] at this
        have s1 := str_run (P := Try.prog) (src := 22) (dst := 9) (c := c6) Try.underlying22 Try.underlying5 Try.underlying9 k3
        have s2 := str_run (P := Try.prog) (src := 22) (dst := 9) (c := 16) Try.underlying22 Try.underlying5 Try.underlying9 rq
        have B5 := Hd.mk (B4.out.trans (k4.mono B4.out.size))
        clear hm k1 k2 k3 k4 rq CX z0 z1
        simp only [leL_len] at *
        go_wp2_with fail
        go_ret
        exact ⟨by simp, B5.out⟩
    · have CD := Hd.mk (vaDecimal_no neg A2 l2 c2 (beN xs) x _ D3.out HX.out (by omega))
      clear hyes
      go_wp2_with fail
      with_reducible refine CD.out.mono ?_
      rintro e w4 ⟨rfl, hl4⟩
      have B4 := Hd.mk (B3.out.trans (hl4.mono B3.out.size))
      clear hl4 CD
      cases ok
      all_goals
        go_wp2_with fail
        go_ret
        exact ⟨rfl, B4.out⟩
  · exact law_decimalBytes_no neg A n c x w (by omega) (by omega)
theorem bounds_i64 {x : Int} (h : (Lit.int .i64 x).wf = true) : -9223372036854775808 ≤ x ∧ x ≤ 9223372036854775807 := by
  simp [Lit.wf, IntKind.min, IntKind.max, IntKind.wrap, IntKind.bits, IntKind.signed] at h
  omega
theorem FnVaDecimalBytes (neg : Bool) (a : Option Addr) (len cap : Nat) (zs : List Int) (x : Int) (w : World) (h : (a = none ∧ len = 0 ∧ cap = 0 ∧ zs = []) ∨ ∃ x, a = some x ∧ len ≤ cap ∧ cap ≤ maxLen ∧ zs.length = cap ∧ (∀ i, i < zs.length → w.cell? (x.add i) = some (.int .u8 (zs.getD i 0))) ∧ ∀ n ∈ zs, (Lit.int .u8 n).wf = true) (hx : (Lit.int .i64 x).wf = true) :
    Calls Try.prog 3 #[.agg #[.bool neg, .slice a len cap], .int .i64 x] w fun e w' => e = .returned (.bool true) ∧ Below w.heap.size w w' := by
  have hcap : len ≤ cap ∧ cap ≤ maxLen := by
    rcases h with ⟨rfl, rfl, rfl, rfl⟩ | ⟨x, rfl, h1, h2, _⟩
    · exact ⟨Nat.le_refl _, by decide⟩
    · exact ⟨h1, h2⟩
  unfold maxLen at hcap
  by_cases hf : len ≤ 2147483647
  · obtain ⟨h1, h2, hr, hb⟩ := rd_row_in h (by omega)
    exact law_decimalBytes neg a len cap _ x w hr hb h1 hcap.2 (bounds_i64 hx)
  · exact law_decimalBytes_no neg a len cap x w hf (by omega)
end Go.Proofs.Ytjikodjljocpmaa.Kb
