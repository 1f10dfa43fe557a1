/- FnVersionOf: the law. -/
import Derived.Test.YtagmjdhjhjlffaaDoorVofF
import Derived.Test.YtagmjdhjhjlffaaDoorVerL
namespace Go.Proofs.YtagmjdhjhjlffaaDoor.Kb
open Go Go.RowKit
set_option linter.unusedVariables false
set_option linter.unusedSimpArgs false
set_option maxHeartbeats 6400000
theorem isZ_true {F : Nat → Nat} (h : F 0 + F 1 + F 2 + F 3 + F 4 = 0) : isZ F = true := by
  unfold isZ
  rw [decide_eq_true_iff]
  omega
theorem isZ_false {F : Nat → Nat} (h : F 0 + F 1 + F 2 + F 3 + F 4 ≠ 0) : isZ F = false := by
  unfold isZ
  rw [decide_eq_false_iff_not]
  omega
theorem cmpF_4 (F G : Nat → Nat) : cmpF F G 4 = if F 0 = G 0 then (if F 1 = G 1 then (if F 2 = G 2 then (if F 3 = G 3 then 0 else cmpN (F 3) (G 3)) else cmpN (F 2) (G 2)) else cmpN (F 1) (G 1)) else cmpN (F 0) (G 0) := by
  simp [cmpF]
theorem cmpN_ge (u v : Nat) : (0 ≤ cmpN u v) ↔ v ≤ u := by
  unfold cmpN
  split
  · omega
  · split <;> omega
theorem has2_eq (F : Nat → Nat) : has2 F = decide (2 ≤ F 0) := by
  unfold has2
  rw [cmpF_4]
  simp only [ver3]
  congr 1
  apply propext
  by_cases h0 : F 0 = 2 <;> by_cases h1 : F 1 = 0 <;> by_cases h2 : F 2 = 0 <;> by_cases h3 : F 3 = 0 <;> simp [h0, h1, h2, h3, cmpN_ge] <;> omega
theorem has4_eq (F : Nat → Nat) : has4 F = decide (2 < F 0 ∨ (F 0 = 2 ∧ (0 < F 1 ∨ 42 ≤ F 2))) := by
  unfold has4
  rw [cmpF_4]
  simp only [ver3]
  congr 1
  apply propext
  by_cases h0 : F 0 = 2 <;> by_cases h1 : F 1 = 0 <;> by_cases h2 : F 2 = 42 <;> by_cases h3 : F 3 = 0 <;> simp [h0, h1, h2, h3, cmpN_ge] <;> omega
theorem feat_lo {F : Nat → Nat} (h : F 0 < 2) : featV (has2 F) (has4 F) = .int .u64 0 := by
  rw [has2_eq, has4_eq, decide_eq_false (by omega), decide_eq_false (by omega)]; rfl
theorem feat_hi {F : Nat → Nat} (h : 2 < F 0) : featV (has2 F) (has4 F) = .int .u64 6 := by
  rw [has2_eq, has4_eq, decide_eq_true (by omega), decide_eq_true (by omega)]; rfl
theorem feat_mid6 {F : Nat → Nat} (h : F 0 = 2) (h2 : 0 < F 1 ∨ 42 ≤ F 2) : featV (has2 F) (has4 F) = .int .u64 6 := by
  rw [has2_eq, has4_eq, decide_eq_true (by omega), decide_eq_true (by omega)]; rfl
theorem feat_mid2 {F : Nat → Nat} (h : F 0 = 2) (h1 : F 1 = 0) (h2 : F 2 < 42) : featV (has2 F) (has4 F) = .int .u64 2 := by
  rw [has2_eq, has4_eq, decide_eq_true (by omega), decide_eq_false (by omega)]; rfl
theorem vtext_one : S (vtext (ver3 1 0 120)) = (⟨#[49, 46, 48, 48, 46, 49, 50, 48, 46, 48, 48]⟩ : ByteArray) := by decide +kernel
set_option maxRecDepth 100000 in
theorem of_walk (n0 n1 n2 n3 n4 : Nat) (b0 : n0 < 18446744073709551616) (b1 : n1 < 18446744073709551616) (b2 : n2 < 18446744073709551616) (b3 : n3 < 18446744073709551616) (b4 : n4 < 18446744073709551616) (w : World) (hP : Pow w) :
    Calls Tryd.prog 5 #[.agg #[.int .u64 n0, .int .u64 n1, .int .u64 n2, .int .u64 n3, .int .u64 n4]] w fun e w' => e = .returned (.bool true) ∧ Below w.heap.size w w' := by
  obtain ⟨F, hF0⟩ : ∃ F : Nat → Nat, F = fun t => if t = 0 then n0 % 1000000 else if t = 1 then n1 % 100 else if t = 2 then n2 % 1000 else if t = 3 then n3 % 100 else n4 % 10000000000 := ⟨_, rfl⟩
  have e0 : n0 % 1000000 = F 0 := by rw [hF0]; rfl
  have e1 : n1 % 100 = F 1 := by rw [hF0]; rfl
  have e2 : n2 % 1000 = F 2 := by rw [hF0]; rfl
  have e3 : n3 % 100 = F 3 := by rw [hF0]; rfl
  have e4 : n4 % 10000000000 = F 4 := by rw [hF0]; rfl
  clear hF0
  have fits : Fits F := ⟨by omega, by omega, by omega, by omega, by omega⟩
  have SP1 := Hd.mk (spells_texts F 5 (by omega) (by omega) fits (fun t h1 h2 => by omega))
  have HFit := Hd.mk fits
  have C := fun w h => scNumbers n0 n1 n2 n3 n4 F F 5 (by omega) (by omega) e0 e1 e2 e3 e4 b0 b1 b2 b3 b4 (fun t h => by rw [if_pos h]) w h
  rw [show ((5 : Nat) : Int) = 5 from rfl] at C
  have HC := Hd.mk C
  have hA := Blk.new w #[.int .u64 n0, .int .u64 n1, .int .u64 n2, .int .u64 n3, .int .u64 n4] 23
  have hb0 : Below w.heap.size w (w.alloc (.cells #[.int .u64 n0, .int .u64 n1, .int .u64 n2, .int .u64 n3, .int .u64 n4] 23)) := (Below.refl _ _).alloc (Nat.le_refl _) _
  have HB0 := Hd.mk hb0
  have HP0 := Hd.mk (pow_below hP hb0)
  have HU : Hd (F 0 < 1000000 ∧ F 1 < 100 ∧ F 2 < 1000 ∧ F 3 < 100 ∧ F 4 < 10000000000) := ⟨by omega⟩
  clear C fits e0 e1 e2 e3 e4 hP hb0
  obtain ⟨L, hL⟩ : ∃ L, join (texts F 5) = L := ⟨_, rfl⟩
  rw [hL] at SP1 HC
  clear hL
  go_enter Tryd.func5, Tryd.ntmps5
  go_wp2_with fail
  with_reducible refine (HC.out _ HP0.out).mono ?_
  intro e w1 h1
  obtain ⟨g1, rfl, _, hB1, hb1⟩ := h1
  have A1 := Hd.mk hB1
  have L1 := Hd.mk (HB0.out.trans (hb1.mono HB0.out.size))
  have P1 := Hd.mk (pow_below HP0.out hb1)
  have C1 := Hd.mk (versionOf L F SP1.out w1 P1.out)
  clear hB1 hb1 HC
  go_wp2_with fail
  with_reducible refine C1.out.mono ?_
  intro e w2 h2
  obtain ⟨g2, rfl, _, hB2, hb2⟩ := h2
  have A2 := Hd.mk (A1.out.below hb2 A1.out.lt)
  have L2 := Hd.mk (L1.out.trans (hb2.mono L1.out.size))
  have P2 := Hd.mk (pow_below P1.out hb2)
  have C2 := Hd.mk (fun n => scVersion g1 5 F HFit.out (w2.drewN n) (A2.out.drewN n) P2.out (by omega) (by decide))
  have c0 := A2.out.cell 0 (five_at F 0 (by omega)); have c1 := A2.out.cell 1 (five_at F 1 (by omega)); have c2 := A2.out.cell 2 (five_at F 2 (by omega)); have c3 := A2.out.cell 3 (five_at F 3 (by omega)); have c4 := A2.out.cell 4 (five_at F 4 (by omega))
  have B2 := Hd.mk hB2
  obtain ⟨f0, h0⟩ : ∃ n, F 0 = n := ⟨_, rfl⟩
  obtain ⟨f1, h1⟩ : ∃ n, F 1 = n := ⟨_, rfl⟩
  obtain ⟨f2, h2⟩ : ∃ n, F 2 = n := ⟨_, rfl⟩
  obtain ⟨f3, h3⟩ : ∃ n, F 3 = n := ⟨_, rfl⟩
  obtain ⟨f4, h4⟩ : ∃ n, F 4 = n := ⟨_, rfl⟩
  rw [h0, h1, h2, h3, h4] at HU
  rw [h0] at c0; rw [h1] at c1; rw [h2] at c2; rw [h3] at c3; rw [h4] at c4
  have u := HU.out
  obtain ⟨s1, k1⟩ : ∃ n, f0 + f1 = n := ⟨_, rfl⟩
  obtain ⟨s2, k2⟩ : ∃ n, s1 + f2 = n := ⟨_, rfl⟩
  obtain ⟨s3, k3⟩ : ∃ n, s2 + f3 = n := ⟨_, rfl⟩
  obtain ⟨s4, k4⟩ : ∃ n, s3 + f4 = n := ⟨_, rfl⟩
  have q1 : IntKind.u64.wrap ((f0 : Int) + f1) = (s1 : Int) := by rw [IntWalk.u64_in _ (by omega)]; omega
  have q2 : IntKind.u64.wrap ((s1 : Int) + f2) = (s2 : Int) := by rw [IntWalk.u64_in _ (by omega)]; omega
  have q3 : IntKind.u64.wrap ((s2 : Int) + f3) = (s3 : Int) := by rw [IntWalk.u64_in _ (by omega)]; omega
  have q4 : IntKind.u64.wrap ((s3 : Int) + f4) = (s4 : Int) := by rw [IntWalk.u64_in _ (by omega)]; omega
  have HK := Hd.mk (And.intro h0 (And.intro h1 (And.intro h2 (And.intro h3 h4))))
  have HS : Hd (s4 = F 0 + F 1 + F 2 + F 3 + F 4) := ⟨by omega⟩
  clear hB2 hb2 C1 A1 k1 k2 k3 k4 u
  by_cases hz : s4 = 0
  · have HZ : Hd (isZ F = true) := ⟨isZ_true (by rw [← HS.out]; exact hz)⟩
    have hT : S (vtext (real F)) = (⟨#[49, 46, 48, 48, 46, 49, 50, 48, 46, 48, 48]⟩ : ByteArray) := by rw [← vtext_one]; simp [real, HZ.out]
    obtain ⟨x, hx⟩ : ∃ x : Nat, featV (has2 (real F)) (has4 (real F)) = .int .u64 x := ⟨_, rfl⟩
    rw [hT, hx]
    obtain rfl := hz
    clear h0 h1 h2 h3 h4 hT hx C2
    go_wp2
    go_quiet (fail)
    go_wp2
    go_ret
    exact ⟨rfl, L2.out.trans ((below_drewN _ _).mono L2.out.size)⟩
  · have HR : real F = F := by simp [real, isZ_false (F := F) (by rw [← HS.out]; exact hz)]
    rw [HR] at B2 ⊢
    obtain ⟨T, hT⟩ : ∃ T, S (vtext F) = T := ⟨_, rfl⟩
    simp only [Says, hT] at C2
    rw [hT]
    have hs0 : ((s4 : Int) == 0) = false := by simp; omega
    have cs : ∃ v : Nat, featV (has2 F) (has4 F) = .int .u64 v ∧ ((v = 0 ∧ f0 < 2) ∨ (v = 6 ∧ 2 < f0) ∨ (v = 6 ∧ f0 = 2 ∧ 0 < f1) ∨ (v = 6 ∧ f0 = 2 ∧ f1 = 0 ∧ 42 ≤ f2) ∨ (v = 2 ∧ f0 = 2 ∧ f1 = 0 ∧ f2 < 42)) := by
      rcases (by omega : f0 < 2 ∨ 2 < f0 ∨ (f0 = 2 ∧ 0 < f1) ∨ (f0 = 2 ∧ f1 = 0 ∧ 42 ≤ f2) ∨ (f0 = 2 ∧ f1 = 0 ∧ f2 < 42)) with h | h | h | h | h
      · exact ⟨0, feat_lo (by omega), by omega⟩
      · exact ⟨6, feat_hi (by omega), by omega⟩
      · exact ⟨6, feat_mid6 (by omega) (by omega), by omega⟩
      · exact ⟨6, feat_mid6 (by omega) (by omega), by omega⟩
      · exact ⟨2, feat_mid2 (by omega) (by omega) (by omega), by omega⟩
    obtain ⟨v, hv, cs⟩ := cs
    rw [hv]
    clear hT hv h0 h1 h2 h3 h4 hz HR
    rcases cs with ⟨rfl, g0⟩ | ⟨rfl, g0⟩ | ⟨rfl, g0, g1⟩ | ⟨rfl, g0, g1, g2⟩ | ⟨rfl, g0, g1, g2⟩
    · have i0 : ¬ (2 : Int) ≤ f0 := by omega
      have i1 : ¬ (2 : Int) < f0 := by omega
      have i2 : ((f0 : Int) == 2) = false := by simp; omega
      clear g0
      go_wp2
      go_quiet (fail)
      go_wp2_with fail
      with_reducible refine (C2.out _).mono ?_
      rintro e w4 ⟨rfl, hb4⟩
      have A4 := Hd.mk ((A2.out.drewN nq).below hb4 A2.out.lt); have B4 := Hd.mk ((B2.out.drewN nq).below hb4 B2.out.lt)
      have L4 := Hd.mk ((L2.out.trans ((below_drewN w2 nq).mono L2.out.size)).trans (hb4.mono L2.out.size))
      clear hb4 C2 c0 c1 c2 c3 c4
      go_wp2
      go_loopw [85] (fun i W => ∃ k : Nat, k ≤ 5 ∧ i = .int .i64 k ∧ Blk W g1 (five F) 22 ∧ Blk W g2 (five F) 22 ∧ Below w.heap.size w W) (fun i _ => 5 - (intOf i).toNat)
      case atStart => exact ⟨0, by omega, rfl, A4.out, B4.out, L4.out⟩
      case round =>
        obtain ⟨k, hk, rfl, hA, hB, hbw⟩ := hrel
        by_cases hlt : k < 5
        · have ca := hA.cell k (five_at F k hlt)
          have cb := hB.cell k (five_at F k hlt)
          have QA := Hd.mk hA; have QB := Hd.mk hB; have QL := Hd.mk hbw
          have hki : (k : Int) < 5 := by omega
          obtain ⟨x, hx⟩ : ∃ x, F k = x := ⟨_, rfl⟩
          rw [hx] at ca cb
          clear hA hB hbw hx
          go_wp2
          go_quiet (fail)
          go_wp2
          go_roundw
          case rel => exact ⟨k + 1, by omega, by go_num, QA.out.drewN _, QB.out.drewN _, QL.out.trans ((below_drewN _ _).mono QL.out.size)⟩
          case measure => simp [intOf]; omega
        · obtain rfl : k = 5 := by omega
          have QL := Hd.mk hbw
          clear hA hB hbw
          go_wp2
          go_ret
          exact ⟨rfl, QL.out⟩
    · have i0 : (2 : Int) ≤ f0 := by omega
      have i1 : (2 : Int) < f0 := by omega
      clear g0
      go_wp2
      go_quiet (fail)
      go_wp2_with fail
      with_reducible refine (C2.out _).mono ?_
      rintro e w4 ⟨rfl, hb4⟩
      have A4 := Hd.mk ((A2.out.drewN nq).below hb4 A2.out.lt); have B4 := Hd.mk ((B2.out.drewN nq).below hb4 B2.out.lt)
      have L4 := Hd.mk ((L2.out.trans ((below_drewN w2 nq).mono L2.out.size)).trans (hb4.mono L2.out.size))
      clear hb4 C2 c0 c1 c2 c3 c4
      go_wp2
      go_loopw [85] (fun i W => ∃ k : Nat, k ≤ 5 ∧ i = .int .i64 k ∧ Blk W g1 (five F) 22 ∧ Blk W g2 (five F) 22 ∧ Below w.heap.size w W) (fun i _ => 5 - (intOf i).toNat)
      case atStart => exact ⟨0, by omega, rfl, A4.out, B4.out, L4.out⟩
      case round =>
        obtain ⟨k, hk, rfl, hA, hB, hbw⟩ := hrel
        by_cases hlt : k < 5
        · have ca := hA.cell k (five_at F k hlt)
          have cb := hB.cell k (five_at F k hlt)
          have QA := Hd.mk hA; have QB := Hd.mk hB; have QL := Hd.mk hbw
          have hki : (k : Int) < 5 := by omega
          obtain ⟨x, hx⟩ : ∃ x, F k = x := ⟨_, rfl⟩
          rw [hx] at ca cb
          clear hA hB hbw hx
          go_wp2
          go_quiet (fail)
          go_wp2
          go_roundw
          case rel => exact ⟨k + 1, by omega, by go_num, QA.out.drewN _, QB.out.drewN _, QL.out.trans ((below_drewN _ _).mono QL.out.size)⟩
          case measure => simp [intOf]; omega
        · obtain rfl : k = 5 := by omega
          have QL := Hd.mk hbw
          clear hA hB hbw
          go_wp2
          go_ret
          exact ⟨rfl, QL.out⟩
    · have i0 : (2 : Int) ≤ f0 := by omega
      have i1 : ¬ (2 : Int) < f0 := by omega
      have i2 : ((f0 : Int) == 2) = true := by simp; omega
      have i3 : (0 : Int) < f1 := by omega
      clear g0 g1
      go_wp2
      go_quiet (fail)
      go_wp2_with fail
      with_reducible refine (C2.out _).mono ?_
      rintro e w4 ⟨rfl, hb4⟩
      have A4 := Hd.mk ((A2.out.drewN nq).below hb4 A2.out.lt); have B4 := Hd.mk ((B2.out.drewN nq).below hb4 B2.out.lt)
      have L4 := Hd.mk ((L2.out.trans ((below_drewN w2 nq).mono L2.out.size)).trans (hb4.mono L2.out.size))
      clear hb4 C2 c0 c1 c2 c3 c4
      go_wp2
      go_loopw [85] (fun i W => ∃ k : Nat, k ≤ 5 ∧ i = .int .i64 k ∧ Blk W g1 (five F) 22 ∧ Blk W g2 (five F) 22 ∧ Below w.heap.size w W) (fun i _ => 5 - (intOf i).toNat)
      case atStart => exact ⟨0, by omega, rfl, A4.out, B4.out, L4.out⟩
      case round =>
        obtain ⟨k, hk, rfl, hA, hB, hbw⟩ := hrel
        by_cases hlt : k < 5
        · have ca := hA.cell k (five_at F k hlt)
          have cb := hB.cell k (five_at F k hlt)
          have QA := Hd.mk hA; have QB := Hd.mk hB; have QL := Hd.mk hbw
          have hki : (k : Int) < 5 := by omega
          obtain ⟨x, hx⟩ : ∃ x, F k = x := ⟨_, rfl⟩
          rw [hx] at ca cb
          clear hA hB hbw hx
          go_wp2
          go_quiet (fail)
          go_wp2
          go_roundw
          case rel => exact ⟨k + 1, by omega, by go_num, QA.out.drewN _, QB.out.drewN _, QL.out.trans ((below_drewN _ _).mono QL.out.size)⟩
          case measure => simp [intOf]; omega
        · obtain rfl : k = 5 := by omega
          have QL := Hd.mk hbw
          clear hA hB hbw
          go_wp2
          go_ret
          exact ⟨rfl, QL.out⟩
    · have i0 : (2 : Int) ≤ f0 := by omega
      have i1 : ¬ (2 : Int) < f0 := by omega
      have i2 : ((f0 : Int) == 2) = true := by simp; omega
      have i3 : ¬ (0 : Int) < f1 := by omega
      have i4 : (42 : Int) ≤ f2 := by omega
      clear g0 g1 g2
      go_wp2
      go_quiet (fail)
      go_wp2_with fail
      with_reducible refine (C2.out _).mono ?_
      rintro e w4 ⟨rfl, hb4⟩
      have A4 := Hd.mk ((A2.out.drewN nq).below hb4 A2.out.lt); have B4 := Hd.mk ((B2.out.drewN nq).below hb4 B2.out.lt)
      have L4 := Hd.mk ((L2.out.trans ((below_drewN w2 nq).mono L2.out.size)).trans (hb4.mono L2.out.size))
      clear hb4 C2 c0 c1 c2 c3 c4
      go_wp2
      go_loopw [85] (fun i W => ∃ k : Nat, k ≤ 5 ∧ i = .int .i64 k ∧ Blk W g1 (five F) 22 ∧ Blk W g2 (five F) 22 ∧ Below w.heap.size w W) (fun i _ => 5 - (intOf i).toNat)
      case atStart => exact ⟨0, by omega, rfl, A4.out, B4.out, L4.out⟩
      case round =>
        obtain ⟨k, hk, rfl, hA, hB, hbw⟩ := hrel
        by_cases hlt : k < 5
        · have ca := hA.cell k (five_at F k hlt)
          have cb := hB.cell k (five_at F k hlt)
          have QA := Hd.mk hA; have QB := Hd.mk hB; have QL := Hd.mk hbw
          have hki : (k : Int) < 5 := by omega
          obtain ⟨x, hx⟩ : ∃ x, F k = x := ⟨_, rfl⟩
          rw [hx] at ca cb
          clear hA hB hbw hx
          go_wp2
          go_quiet (fail)
          go_wp2
          go_roundw
          case rel => exact ⟨k + 1, by omega, by go_num, QA.out.drewN _, QB.out.drewN _, QL.out.trans ((below_drewN _ _).mono QL.out.size)⟩
          case measure => simp [intOf]; omega
        · obtain rfl : k = 5 := by omega
          have QL := Hd.mk hbw
          clear hA hB hbw
          go_wp2
          go_ret
          exact ⟨rfl, QL.out⟩
    · have i0 : (2 : Int) ≤ f0 := by omega
      have i1 : ¬ (2 : Int) < f0 := by omega
      have i2 : ((f0 : Int) == 2) = true := by simp; omega
      have i3 : ¬ (0 : Int) < f1 := by omega
      have i4 : ¬ (42 : Int) ≤ f2 := by omega
      clear g0 g1 g2
      go_wp2
      go_quiet (fail)
      go_wp2_with fail
      with_reducible refine (C2.out _).mono ?_
      rintro e w4 ⟨rfl, hb4⟩
      have A4 := Hd.mk ((A2.out.drewN nq).below hb4 A2.out.lt); have B4 := Hd.mk ((B2.out.drewN nq).below hb4 B2.out.lt)
      have L4 := Hd.mk ((L2.out.trans ((below_drewN w2 nq).mono L2.out.size)).trans (hb4.mono L2.out.size))
      clear hb4 C2 c0 c1 c2 c3 c4
      go_wp2
      go_loopw [85] (fun i W => ∃ k : Nat, k ≤ 5 ∧ i = .int .i64 k ∧ Blk W g1 (five F) 22 ∧ Blk W g2 (five F) 22 ∧ Below w.heap.size w W) (fun i _ => 5 - (intOf i).toNat)
      case atStart => exact ⟨0, by omega, rfl, A4.out, B4.out, L4.out⟩
      case round =>
        obtain ⟨k, hk, rfl, hA, hB, hbw⟩ := hrel
        by_cases hlt : k < 5
        · have ca := hA.cell k (five_at F k hlt)
          have cb := hB.cell k (five_at F k hlt)
          have QA := Hd.mk hA; have QB := Hd.mk hB; have QL := Hd.mk hbw
          have hki : (k : Int) < 5 := by omega
          obtain ⟨x, hx⟩ : ∃ x, F k = x := ⟨_, rfl⟩
          rw [hx] at ca cb
          clear hA hB hbw hx
          go_wp2
          go_quiet (fail)
          go_wp2
          go_roundw
          case rel => exact ⟨k + 1, by omega, by go_num, QA.out.drewN _, QB.out.drewN _, QL.out.trans ((below_drewN _ _).mono QL.out.size)⟩
          case measure => simp [intOf]; omega
        · obtain rfl : k = 5 := by omega
          have QL := Hd.mk hbw
          clear hA hB hbw
          go_wp2
          go_ret
          exact ⟨rfl, QL.out⟩
theorem pow_of_of (w : World) (hL : laidMetH Tryd.prog YtagmjdhjhjlffaaDoor.Rows.fnVersionOfRow.laid w) : Pow w := by
  have h : laidMet Tryd.prog YtagmjdhjhjlffaaDoor.Rows.fnVersionOfRow.laid w := hL
  obtain ⟨ps, hv, _⟩ := h
  obtain ⟨g, t, cs, fuel, p, hg, ht, hvar, hd⟩ := Go.Lib.LaidVars_reads hv "internal/strconv.uint64pow10" YtagmjdhjhjlffaaDoor.Rows.laid_internal_strconv_uint64pow10 (by simp [YtagmjdhjhjlffaaDoor.Rows.fnVersionOfRow])
  obtain rfl := Option.some.inj ((show Tryd.prog.globalNamed "internal/strconv.uint64pow10" = some 2 by kernel_rfl).symm.trans hg)
  obtain rfl := Option.some.inj ((show (Tryd.prog.globals[2]?).map (·.type) = some 80 by kernel_rfl).symm.trans ht)
  have e : (YtagmjdhjhjlffaaDoor.Rows.laid_internal_strconv_uint64pow10 : DataW Unit) = Go.Lib.tabData .u64 Go.Lib.pow10Tab := by kernel_rfl
  rw [e] at hd
  unfold Pow Go.Lib.TabIs
  rw [hvar, ← Go.Lib.cells_of_tab Tryd.underlying80 Tryd.underlying22 (by kernel_rfl) (by kernel_rfl) hd]
theorem FnVersionOf (x0 x1 x2 x3 x4 : Int) (w : World) (h0 : (Lit.int .u64 x0).wf = true) (h1 : (Lit.int .u64 x1).wf = true) (h2 : (Lit.int .u64 x2).wf = true) (h3 : (Lit.int .u64 x3).wf = true) (h4 : (Lit.int .u64 x4).wf = true) (hL : laidMetH Tryd.prog YtagmjdhjhjlffaaDoor.Rows.fnVersionOfRow.laid w) :
    Calls Tryd.prog 5 #[.agg #[.int .u64 x0, .int .u64 x1, .int .u64 x2, .int .u64 x3, .int .u64 x4]] w fun e w' => e = .returned (.bool true) ∧ Below w.heap.size w w' := by
  obtain ⟨n0, rfl, b0⟩ := nat_u64 h0
  obtain ⟨n1, rfl, b1⟩ := nat_u64 h1
  obtain ⟨n2, rfl, b2⟩ := nat_u64 h2
  obtain ⟨n3, rfl, b3⟩ := nat_u64 h3
  obtain ⟨n4, rfl, b4⟩ := nat_u64 h4
  exact of_walk n0 n1 n2 n3 n4 b0 b1 b2 b3 b4 w (pow_of_of w hL)
end Go.Proofs.YtagmjdhjhjlffaaDoor.Kb
