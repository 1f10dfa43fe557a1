/- What the functions of a calendar compute: the date of a Julian day, by the reference and by the program; and the laws FnMadeTime and FnJulianDate over numbers. No condition beyond their ranges. -/
import Derived.Test.YtbblgpgjgkmcbaaJrc
namespace Go.Proofs.Ytbblgpgjgkmcbaa.Jr
open Go.RowKit Go.Proofs.Ytbblgpgjgkmcbaa.PJro Go.Proofs.YtbblgpgjgkmcbaaW.PrintWords Go.Proofs.YtbblgpgjgkmcbaaW.PrintLast
open Jul

theorem near0 {y m d : Int} (y0 : -10000 ≤ y) (y1 : y ≤ 30000) (m1 : 1 ≤ m) (m2 : m ≤ 12) (d0 : 0 ≤ d) (d1 : d ≤ 400) : Near y m d 0 0 0 0 := by constructor <;> omega
theorem zeros : sec 0 0 = 0 ∧ min 0 0 0 = 0 ∧ hour 0 0 0 0 = 0 := by decide
theorem jday0 {y m d : Int} (m1 : 1 ≤ m) (m2 : m ≤ 12) : jday y m d 0 0 0 0 = jd y m d true := by
  have e1 : (m - 1) / 12 = 0 := by omega
  unfold jday dday
  rw [zeros.2.2, e1, jd_day y m d]
  rw [show y + 0 = y by omega, show m - 12 * 0 = m by omega]
  simp only [Int.zero_ediv]
  omega

theorem rich_bd {g : Bool} {n y m d : Int} (h : Mar g n y m d) (hn0 : 0 ≤ n) (hn1 : n ≤ 10000000) : -5000 ≤ y ∧ y ≤ 25000 ∧ 1 ≤ d ∧ d ≤ 31 := by
  obtain ⟨m1, m2, lo, hi, mon, day⟩ := h
  have e : (14 - m) / 12 = 0 ∨ (14 - m) / 12 = 1 := by omega
  obtain ⟨Y, hY⟩ : ∃ Y, Y = y + 4800 - (14 - m) / 12 := ⟨_, rfl⟩
  rw [← hY] at lo hi mon day
  have ho : 32045 ≤ off g ∧ off g ≤ 32083 := by cases g <;> decide
  have hs := yd_succ g Y
  obtain ⟨r, hr⟩ : ∃ r, r = n + off g - 1 - yd g Y := ⟨_, rfl⟩
  rw [← hr] at mon day
  rw [mon] at day
  have bd : 1 ≤ d ∧ d ≤ 31 := by
    have br : 0 ≤ r ∧ r < 366 := by omega
    rw [day]; unfold cm; omega
  have l0 : -100 ≤ Y := by
    by_cases c : -100 ≤ Y
    · exact c
    · have := yd_mono g (show Y + 1 ≤ -100 by omega)
      have e : yd g (-100) < 0 := by cases g <;> decide
      omega
  have l1 : Y ≤ 28000 := by
    by_cases c : Y ≤ 28000
    · exact c
    · have := yd_mono g (show (28000 : Int) ≤ Y by omega)
      have e : yd g 28000 > 10200000 := by cases g <;> decide
      omega
  exact ⟨by omega, by omega, bd.1, bd.2⟩

set_option maxHeartbeats 1000000 in
/-- The algorithm of Richards. -/
theorem rich_eval (f : Int) (f0 : 0 ≤ f) (f1 : f ≤ 100000000) (Z : Int → Int → Int → Option (Int × Int)) :
    Z (wrap64 ((wrap64 ((wrap64 (Int.tdiv (wrap64 ((wrap64 (4 * f)) + 3)) 1461)) - 4716)) + (wrap64 (Int.tdiv (wrap64 (14 - (wrap64 ((Int.tmod (wrap64 ((wrap64 (Int.tdiv (wrap64 ((wrap64 (5 * (wrap64 (Int.tdiv (Int.tmod (wrap64 ((wrap64 (4 * f)) + 3)) 1461) 4)))) + 2)) 153)) + 2)) 12) + 1)))) 12))))
      (wrap64 ((Int.tmod (wrap64 ((wrap64 (Int.tdiv (wrap64 ((wrap64 (5 * (wrap64 (Int.tdiv (Int.tmod (wrap64 ((wrap64 (4 * f)) + 3)) 1461) 4)))) + 2)) 153)) + 2)) 12) + 1))
      (wrap64 ((wrap64 (Int.tdiv (Int.tmod (wrap64 ((wrap64 (5 * (wrap64 (Int.tdiv (Int.tmod (wrap64 ((wrap64 (4 * f)) + 3)) 1461) 4)))) + 2)) 153) 5)) + 1)) =
    Z ((4 * f + 3) / 1461 - 4716 + (14 - (((5 * ((4 * f + 3) % 1461 / 4) + 2) / 153 + 2) % 12 + 1)) / 12) (((5 * ((4 * f + 3) % 1461 / 4) + 2) / 153 + 2) % 12 + 1) ((5 * ((4 * f + 3) % 1461 / 4) + 2) % 153 / 5 + 1) := by
  have a1 : wrap64 (4 * f) = 4 * f := w64 (by omega) (by omega)
  have a2 : wrap64 (4 * f + 3) = 4 * f + 3 := w64 (by omega) (by omega)
  have a3 : wrap64 (Int.tdiv (4 * f + 3) 1461) = (4 * f + 3) / 1461 := by rw [Int.tdiv_eq_ediv_of_nonneg (by omega)]; exact w64 (by omega) (by omega)
  have a4 : Int.tmod (4 * f + 3) 1461 = (4 * f + 3) % 1461 := Int.tmod_eq_emod_of_nonneg (by omega)
  obtain ⟨r, hr⟩ : ∃ r, r = (4 * f + 3) % 1461 / 4 := ⟨_, rfl⟩
  have br : 0 ≤ r ∧ r < 366 := by omega
  have a5 : wrap64 (Int.tdiv ((4 * f + 3) % 1461) 4) = r := by rw [Int.tdiv_eq_ediv_of_nonneg (by omega), ← hr]; exact w64 (by omega) (by omega)
  have a6 : wrap64 (5 * r) = 5 * r := w64 (by omega) (by omega)
  have a7 : wrap64 (5 * r + 2) = 5 * r + 2 := w64 (by omega) (by omega)
  obtain ⟨q, hq⟩ : ∃ q, q = (5 * r + 2) / 153 := ⟨_, rfl⟩
  have bq : 0 ≤ q ∧ q ≤ 12 := by omega
  have a8 : wrap64 (Int.tdiv (5 * r + 2) 153) = q := by rw [Int.tdiv_eq_ediv_of_nonneg (by omega), ← hq]; exact w64 (by omega) (by omega)
  have a9 : wrap64 (q + 2) = q + 2 := w64 (by omega) (by omega)
  have a10 : Int.tmod (q + 2) 12 = (q + 2) % 12 := Int.tmod_eq_emod_of_nonneg (by omega)
  obtain ⟨m, hm⟩ : ∃ m, m = (q + 2) % 12 + 1 := ⟨_, rfl⟩
  have bm : 1 ≤ m ∧ m ≤ 12 := by omega
  have a11 : wrap64 ((q + 2) % 12 + 1) = m := by rw [← hm]; exact w64 (by omega) (by omega)
  have a12 : wrap64 (14 - m) = 14 - m := w64 (by omega) (by omega)
  have a13 : wrap64 (Int.tdiv (14 - m) 12) = (14 - m) / 12 := by rw [Int.tdiv_eq_ediv_of_nonneg (by omega)]; exact w64 (by omega) (by omega)
  have a14 : wrap64 ((4 * f + 3) / 1461 - 4716) = (4 * f + 3) / 1461 - 4716 := w64 (by omega) (by omega)
  have a15 : wrap64 ((4 * f + 3) / 1461 - 4716 + (14 - m) / 12) = (4 * f + 3) / 1461 - 4716 + (14 - m) / 12 := w64 (by omega) (by omega)
  have a16 : Int.tmod (5 * r + 2) 153 = (5 * r + 2) % 153 := Int.tmod_eq_emod_of_nonneg (by omega)
  have a17 : wrap64 (Int.tdiv ((5 * r + 2) % 153) 5) = (5 * r + 2) % 153 / 5 := by rw [Int.tdiv_eq_ediv_of_nonneg (by omega)]; exact w64 (by omega) (by omega)
  have a18 : wrap64 ((5 * r + 2) % 153 / 5 + 1) = (5 * r + 2) % 153 / 5 + 1 := w64 (by omega) (by omega)
  rw [← hr, ← hq, ← hm]
  simp only [a1, a2, a3, a4, a5, a6, a7, a8, a9, a10, a11, a12, a13, a14, a15, a16, a17, a18]

theorem dayToTime_ok (n : Int) (hn0 : 0 ≤ n) (hn1 : n ≤ 10000000) : ∃ y m d, Mar (decide (n ≥ 2299161)) n y m d ∧ julian_DayToTime.f n = some (jd y m d true - 2440588, 0) := by
  have fin : ∀ (g : Bool) (y m d : Int), Mar g n y m d → (g = false → n < 2299161) → zztime_Date.f y m d 0 0 0 0 0 = some (jd y m d true - 2440588, 0) := by
    intro g y m d h hg
    obtain ⟨b1, b2, b3, b4⟩ := rich_bd h hn0 hn1
    have H := near0 (y := y) (m := m) (d := d) (by omega) (by omega) h.m1 h.m2 (by omega) (by omega)
    have hj := jday0 (y := y) (d := d) h.m1 h.m2
    have hb : 0 ≤ jd y m d true ∧ jd y m d true ≤ 10000000 := by
      have hd := h.day
      have ey : yd g (y + 4800 - (14 - m) / 12) + cm (m + 12 * ((14 - m) / 12) - 3) + d = n + off g := by omega
      have m1 := h.m1; have m2 := h.m2
      have bM : 0 ≤ m + 12 * ((14 - m) / 12) - 3 ∧ m + 12 * ((14 - m) / 12) - 3 ≤ 11 := by omega
      have bC : 0 ≤ cm (m + 12 * ((14 - m) / 12) - 3) ∧ cm (m + 12 * ((14 - m) / 12) - 3) ≤ 340 := by unfold cm; omega
      unfold jd
      obtain ⟨Y, hY⟩ : ∃ Y, Y = y + 4800 - (14 - m) / 12 := ⟨_, rfl⟩
      rw [← hY] at ey ⊢
      clear hY hd
      cases g
      · have hn2 := hg rfl
        unfold yd off at ey ⊢
        simp at ey ⊢
        omega
      · omega
    rw [date_ok H (by rw [hj]; exact hb.1) (by rw [hj]; exact hb.2), hj]
    rw [zeros.1, zeros.2.1, zeros.2.2]
    rfl
  unfold julian_DayToTime.f
  by_cases c : n < 2299161
  · rw [if_pos c, w64 (x := n + 1401) (by omega) (by omega), rich_eval (n + 1401) (by omega) (by omega) (fun a b c => (zztime_Date.f a b c 0 0 0 0 0).bind fun bt196 => (some (bt196.1, bt196.2)))]
    obtain ⟨lo, hi, hr⟩ := rich_julian n
    have h := Mar.rich (g := false) lo hi hr rfl rfl rfl
    refine ⟨_, _, _, by rw [show decide (n ≥ 2299161) = false by simp; omega]; exact h, ?_⟩
    rw [fin _ _ _ _ h (fun _ => c)]
    rfl
  · obtain ⟨f, hf⟩ : ∃ f, f = n + 1401 + ((4 * n + 274277) / 146097) * 3 / 4 - 38 := ⟨_, rfl⟩
    have a1 : wrap64 (4 * n) = 4 * n := w64 (by omega) (by omega)
    have a2 : wrap64 (4 * n + 274277) = 4 * n + 274277 := w64 (by omega) (by omega)
    have a3 : wrap64 (Int.tdiv (4 * n + 274277) 146097) = (4 * n + 274277) / 146097 := by rw [Int.tdiv_eq_ediv_of_nonneg (by omega)]; exact w64 (by omega) (by omega)
    have a4 : wrap64 ((4 * n + 274277) / 146097 * 3) = (4 * n + 274277) / 146097 * 3 := w64 (by omega) (by omega)
    have a5 : wrap64 (Int.tdiv ((4 * n + 274277) / 146097 * 3) 4) = (4 * n + 274277) / 146097 * 3 / 4 := by rw [Int.tdiv_eq_ediv_of_nonneg (by omega)]; exact w64 (by omega) (by omega)
    have a6 : wrap64 (n + 1401) = n + 1401 := w64 (by omega) (by omega)
    have a7 : wrap64 (n + 1401 + (4 * n + 274277) / 146097 * 3 / 4) = n + 1401 + (4 * n + 274277) / 146097 * 3 / 4 := w64 (by omega) (by omega)
    have a8 : wrap64 (n + 1401 + (4 * n + 274277) / 146097 * 3 / 4 - 38) = f := by rw [← hf]; exact w64 (by omega) (by omega)
    rw [if_neg c, a1, a2, a3, a4, a5, a6, a7, a8, rich_eval f (by omega) (by omega) (fun a b c => (zztime_Date.f a b c 0 0 0 0 0).bind fun bt196 => (some (bt196.1, bt196.2)))]
    obtain ⟨lo, hi, hr⟩ := rich_gregorian n f hf
    have h := Mar.rich (g := true) lo hi hr rfl rfl rfl
    refine ⟨_, _, _, by rw [show decide (n ≥ 2299161) = true by simp; omega]; exact h, ?_⟩
    rw [fin _ _ _ _ h (fun e => by cases e)]
    rfl

theorem jd_mar {g : Bool} {n y m d : Int} (h : Mar g n y m d) : jd y m d g = n := by
  have hd := h.day
  unfold jd
  omega

theorem dateOf_ok (n : Int) (hn0 : 0 ≤ n) (hn1 : n ≤ 10000000) : ∃ K : Nat, ∀ k, K ≤ k → ∃ y m d Y M D, Is (decide (n ≥ 2299161)) n y m d ∧ Is true (jd y m d true) Y M D ∧ spec_JuDateOf.f k n = some (Y, M, D, 0, 0, 0, 0) := by
  obtain ⟨K1, h1⟩ := juDate_ok n (decide (n ≥ 2299161)) hn0 hn1
  obtain ⟨y, m, d, e1, i1⟩ := h1 K1 (Nat.le_refl _)
  obtain ⟨b1, b2, b3, b4⟩ := rich_bd i1.mar hn0 hn1
  have H := near0 (y := y) (m := m) (d := d) (by omega) (by omega) i1.m1 i1.m2 (by omega) (by omega)
  have hj := jday0 (y := y) (d := d) i1.m1 i1.m2
  have hb : 0 ≤ jd y m d true ∧ jd y m d true ≤ 10000000 := by
    by_cases c : n ≥ 2299161
    · have := jd_mar i1.mar
      rw [show decide (n ≥ 2299161) = true by simpa using c] at this
      omega
    · have ey := jd_mar i1.mar
      rw [show decide (n ≥ 2299161) = false by simp; omega] at ey
      have m1 := i1.m1; have m2 := i1.m2
      have bC : 0 ≤ cm (m + 12 * ((14 - m) / 12) - 3) ∧ cm (m + 12 * ((14 - m) / 12) - 3) ≤ 340 := by unfold cm; omega
      unfold jd at ey ⊢
      obtain ⟨Y, hY⟩ : ∃ Y, Y = y + 4800 - (14 - m) / 12 := ⟨_, rfl⟩
      rw [← hY] at ey ⊢
      clear hY e1 i1 h1 H hj
      unfold yd off at ey ⊢
      simp at ey ⊢
      omega
  obtain ⟨K2, h2⟩ := made_ok H (by rw [hj]; exact hb.1) (by rw [hj]; exact hb.2)
  refine ⟨max K1 K2, fun k hk => ?_⟩
  obtain ⟨y', m', d', e1', i1'⟩ := h1 k (by omega)
  obtain ⟨rfl, rfl, rfl⟩ := i1.unique i1'
  obtain ⟨Y, M, D, e2, i2⟩ := h2 k (by omega)
  rw [hj] at i2
  refine ⟨_, _, _, Y, M, D, i1, i2, ?_⟩
  unfold spec_JuDateOf.f
  rw [e1']
  simp only [Option.bind_some]
  rw [e2]
  rw [zeros.1, zeros.2.1, zeros.2.2]
  rfl

theorem juTime_ok (y mo d h mi s n : Int) : ∃ y' mo' d' h' mi' s' n', laws_juTime.f y mo d h mi s n = some (y', mo', d', h', mi', s', n') ∧ 4 ≤ y' ∧ y' ≤ 9993 ∧ -20 < mo' ∧ mo' < 20 ∧ -50 < d' ∧ d' < 50 ∧ -40 < h' ∧ h' < 40 ∧
    -100 < mi' ∧ mi' < 100 ∧ -100 < s' ∧ s' < 100 ∧ -3000000000 < n' ∧ n' < 3000000000 := by
  have hu : 0 ≤ IntKind.u64.wrap y := by simp only [IntKind.wrap_u64]; omega
  have tm : ∀ x b : Int, 0 < b → -b < Int.tmod x b ∧ Int.tmod x b < b := by
    intro x b hb
    by_cases c : 0 ≤ x
    · rw [Int.tmod_eq_emod_of_nonneg c]
      have := Int.emod_nonneg x (show b ≠ 0 by omega); have := Int.emod_lt_of_pos x hb; omega
    · rw [tmod_neg (by omega) hb]
      have := Int.emod_nonneg (-x) (show b ≠ 0 by omega); have := Int.emod_lt_of_pos (-x) hb; omega
  refine ⟨_, _, _, _, _, _, _, rfl, ?_⟩
  have e := tm mo 20 (by omega); have := tm d 50 (by omega); have := tm h 40 (by omega); have := tm mi 100 (by omega); have := tm s 100 (by omega); have := tm n 3000000000 (by omega)
  rw [Int.tmod_eq_emod_of_nonneg hu, w64 (x := IntKind.u64.wrap y % 9990) (by omega) (by omega), w64 (by omega) (by omega)]
  omega

theorem near_range {y mo d h mi s n : Int} (H : -20 < mo ∧ mo < 20 ∧ -50 < d ∧ d < 50 ∧ -40 < h ∧ h < 40 ∧ -100 < mi ∧ mi < 100 ∧ -100 < s ∧ s < 100 ∧ -3000000000 < n ∧ n < 3000000000) (y0 : -4000 ≤ y) (y1 : y ≤ 20000) :
    Near y mo d h mi s n ∧ 0 ≤ jday y mo d h mi s n ∧ jday y mo d h mi s n ≤ 10000000 := by
  refine ⟨by constructor <;> omega, ?_⟩
  have b1 : -105 ≤ sec s n ∧ sec s n ≤ 105 := by unfold sec; omega
  have b2 : -105 ≤ min mi s n ∧ min mi s n ≤ 105 := by unfold min; omega
  have b3 : -45 ≤ hour h mi s n ∧ hour h mi s n ≤ 45 := by unfold hour; omega
  have b4 : -55 ≤ dday d h mi s n ∧ dday d h mi s n ≤ 55 := by unfold dday; omega
  have bm : 1 ≤ mo - 12 * ((mo - 1) / 12) ∧ mo - 12 * ((mo - 1) / 12) ≤ 12 := by omega
  have by' : -4002 ≤ y + (mo - 1) / 12 ∧ y + (mo - 1) / 12 ≤ 20002 := by omega
  unfold jday
  obtain ⟨M, hM⟩ : ∃ M, M = mo - 12 * ((mo - 1) / 12) := ⟨_, rfl⟩
  obtain ⟨Y, hY⟩ : ∃ Y, Y = y + (mo - 1) / 12 := ⟨_, rfl⟩
  have bm' : 1 ≤ M ∧ M ≤ 12 := by omega
  have bY' : -4002 ≤ Y ∧ Y ≤ 20002 := by omega
  rw [← hM, ← hY]
  clear hM hY b1 b2 b3 H bm by'
  have bM : 0 ≤ M + 12 * ((14 - M) / 12) - 3 ∧ M + 12 * ((14 - M) / 12) - 3 ≤ 11 := by omega
  have bC : 0 ≤ cm (M + 12 * ((14 - M) / 12) - 3) ∧ cm (M + 12 * ((14 - M) / 12) - 3) ≤ 340 := by unfold cm; omega
  unfold jd
  obtain ⟨Z, hZ⟩ : ∃ Z, Z = Y + 4800 - (14 - M) / 12 := ⟨_, rfl⟩
  have bZ : 797 ≤ Z ∧ Z ≤ 24802 := by omega
  rw [← hZ]
  clear hZ
  unfold yd off
  simp
  omega

end Go.Proofs.Ytbblgpgjgkmcbaa.Jr
