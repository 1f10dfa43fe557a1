/- What the functions of a calendar compute: the Julian day of a date; and the law FnJulianDay over numbers. No condition beyond their ranges. -/
import Derived.Test.YtbblgpgjgkmcbaaJfd
import Derived.Test.YtbblgpgjgkmcbaaPJalx6
namespace Go.Proofs.Ytbblgpgjgkmcbaa.Jf
open Go.RowKit Go.Proofs.Ytbblgpgjgkmcbaa.PJal Go.Proofs.YtbblgpgjgkmcbaaW.PrintWords Go.Proofs.YtbblgpgjgkmcbaaW.PrintLast
open Jul

theorem gregorian_date : julian_gregorianDate.f = some (-141427, 0) := by
  obtain ⟨y, m, d, h, e⟩ := dayToTime_ok 2299161 (by omega) (by omega)
  have hj := jd_mar h
  rw [show decide ((2299161 : Int) ≥ 2299161) = true by decide] at hj
  unfold julian_gregorianDate.f
  rw [e, hj]
  rfl

theorem mar_pos {g : Bool} {n y m d : Int} (h : Mar g n y m d) (hn : 0 ≤ n) : 0 ≤ y + 4800 - (14 - m) / 12 := by
  obtain ⟨_, _, lo, hi, _, _⟩ := h
  by_cases c : 0 ≤ y + 4800 - (14 - m) / 12
  · exact c
  · have := yd_mono g (show y + 4800 - (14 - m) / 12 + 1 ≤ 0 by omega)
    have e : yd g 0 = 0 := by cases g <;> decide
    have o : 32045 ≤ off g := by cases g <;> decide
    omega

theorem toDay_ok {D N y m d : Int} (h : Mar true (D + 2440588) y m d) (h0 : 0 ≤ D + 2440588) (h1 : D + 2440588 ≤ 10000000) (hN : 0 ≤ N) : julian_TimeToDay.f D N = some (jd y m d (decide (2299161 ≤ D + 2440588))) := by
  obtain ⟨y', m', d', e, h', _⟩ := timeDate_ok D N (by omega) (by omega)
  obtain ⟨rfl, rfl, rfl⟩ := h.unique h'
  obtain ⟨b1, b2, b3, b4⟩ := rich_bd h h0 h1
  have hp := mar_pos h h0
  have m1 := h.m1; have m2 := h.m2
  have eb : zztime_Time_Before.f D N (-141427) 0 = some (decide (D < -141427)) := by
    unfold zztime_Time_Before.f
    by_cases c : D < -141427
    · rw [if_pos c]; simp [c]
    · rw [if_neg c]
      by_cases c2 : D = -141427
      · rw [if_pos c2]; simp [c]; omega
      · rw [if_neg c2]; simp [c]
  have edec : decide (2299161 ≤ D + 2440588) = !decide (D < -141427) := by
    by_cases c : D < -141427
    · simp [c]; omega
    · simp [c]; omega
  rw [edec]
  obtain ⟨Y, hY⟩ : ∃ Y, Y = y + 4800 - (14 - m) / 12 := ⟨_, rfl⟩
  obtain ⟨M, hM⟩ : ∃ M, M = m + 12 * ((14 - m) / 12) - 3 := ⟨_, rfl⟩
  have bY : 0 ≤ Y ∧ Y ≤ 30000 := by omega
  have bM : 0 ≤ M ∧ M ≤ 11 := by omega
  have a1 : wrap64 (14 - m) = 14 - m := w64 (by omega) (by omega)
  have a2 : wrap64 (Int.tdiv (14 - m) 12) = (14 - m) / 12 := by rw [Int.tdiv_eq_ediv_of_nonneg (by omega)]; exact w64 (by omega) (by omega)
  have a3 : wrap64 (12 * ((14 - m) / 12)) = 12 * ((14 - m) / 12) := w64 (by omega) (by omega)
  have a4 : wrap64 (m + 12 * ((14 - m) / 12)) = m + 12 * ((14 - m) / 12) := w64 (by omega) (by omega)
  have a5 : wrap64 (m + 12 * ((14 - m) / 12) - 3) = M := by rw [← hM]; exact w64 (by omega) (by omega)
  have a6 : wrap64 (153 * M) = 153 * M := w64 (by omega) (by omega)
  have a7 : wrap64 (153 * M + 2) = 153 * M + 2 := w64 (by omega) (by omega)
  have bc : 0 ≤ cm M ∧ cm M ≤ 400 := by unfold cm; omega
  have a8 : wrap64 (Int.tdiv (153 * M + 2) 5) = cm M := by rw [Int.tdiv_eq_ediv_of_nonneg (by omega)]; exact w64 (x := cm M) (by omega) (by omega)
  have a9 : wrap64 (d + cm M) = d + cm M := w64 (by omega) (by omega)
  have a10 : wrap64 (y + 4800) = y + 4800 := w64 (by omega) (by omega)
  have a11 : wrap64 (y + 4800 - (14 - m) / 12) = Y := by rw [← hY]; exact w64 (by omega) (by omega)
  have a12 : wrap64 (365 * Y) = 365 * Y := w64 (by omega) (by omega)
  have a13 : wrap64 (d + cm M + 365 * Y) = d + cm M + 365 * Y := w64 (by omega) (by omega)
  have a14 : wrap64 (Int.tdiv Y 4) = Y / 4 := by rw [Int.tdiv_eq_ediv_of_nonneg bY.1]; exact w64 (by omega) (by omega)
  have a15 : wrap64 (Int.tdiv Y 100) = Y / 100 := by rw [Int.tdiv_eq_ediv_of_nonneg bY.1]; exact w64 (by omega) (by omega)
  have a16 : wrap64 (Int.tdiv Y 400) = Y / 400 := by rw [Int.tdiv_eq_ediv_of_nonneg bY.1]; exact w64 (by omega) (by omega)
  have a17 : wrap64 (d + cm M + 365 * Y + Y / 4) = d + cm M + 365 * Y + Y / 4 := w64 (by omega) (by omega)
  have a18 : wrap64 (d + cm M + 365 * Y + Y / 4 - Y / 100) = d + cm M + 365 * Y + Y / 4 - Y / 100 := w64 (by omega) (by omega)
  have a19 : wrap64 (d + cm M + 365 * Y + Y / 4 - Y / 100 + Y / 400) = d + cm M + 365 * Y + Y / 4 - Y / 100 + Y / 400 := w64 (by omega) (by omega)
  have a20 : wrap64 (d + cm M + 365 * Y + Y / 4 - Y / 100 + Y / 400 - 32045) = d + cm M + 365 * Y + Y / 4 - Y / 100 + Y / 400 - 32045 := w64 (by omega) (by omega)
  have a21 : wrap64 (d + cm M + 365 * Y + Y / 4 - 32083) = d + cm M + 365 * Y + Y / 4 - 32083 := w64 (by omega) (by omega)
  have em : zztime_Time_Month.f D N = some m := by unfold zztime_Time_Month.f; rw [e]; rfl
  have ey : zztime_Time_Year.f D N = some y := by unfold zztime_Time_Year.f; rw [e]; rfl
  have ed : zztime_Time_Day.f D N = some d := by unfold zztime_Time_Day.f; rw [e]; rfl
  unfold julian_TimeToDay.f zztime_Time_UTC.f
  simp only [Option.bind_some, em, ey, ed, gregorian_date, eb, a1, a2, a3, a4, a5, a6, a7, a8, a9, a10, a11, a12, a13, a14, a15, a16, a17, a18, a19, a20, a21]
  unfold jd
  rw [← hY, ← hM]
  by_cases c : D < -141427
  · rw [if_pos (by simpa using c)]
    unfold yd off
    simp [c]
    omega
  · rw [if_neg (by simpa using c)]
    unfold yd off
    simp [c]
    omega

theorem jd_1582 : jd 1583 1 1 true = 2299239 ∧ jd 1582 1 1 true = 2298874 := by decide
theorem greg_ok {n y m d : Int} (h : Is true n y m d) : spec_juGregorian.f y m d = some (decide (2299161 ≤ n)) := by
  have ey := jd_mar h.mar
  have m1 := h.m1; have m2 := h.m2
  have hlo : jd y 1 1 true ≤ jd y m 1 true := by
    have e : m = 1 ∨ m = 2 ∨ m = 3 ∨ m = 4 ∨ m = 5 ∨ m = 6 ∨ m = 7 ∨ m = 8 ∨ m = 9 ∨ m = 10 ∨ m = 11 ∨ m = 12 := by omega
    have hs := yd_succ true (y + 4799)
    rw [show y + 4799 + 1 = y + 4800 by omega] at hs
    unfold jd cm
    rcases e with rfl | rfl | rfl | rfl | rfl | rfl | rfl | rfl | rfl | rfl | rfl | rfl <;> simp <;> rw [show y + 4800 - 1 = y + 4799 by omega] <;> omega
  have hhi : n < jd (y + 1) 1 1 true := by
    have hm := h.mar
    have hh := hm.hi; have hl := hm.lo
    rw [jd_year, show y + 1 + 4799 = y + 4800 by omega]
    have hi := h.hi
    by_cases c : m = 12
    · rw [if_pos c, jd_year, show y + 1 + 4799 = y + 4800 by omega] at hi; exact hi
    · rw [if_neg c] at hi
      have e : m = 1 ∨ m = 2 ∨ m = 3 ∨ m = 4 ∨ m = 5 ∨ m = 6 ∨ m = 7 ∨ m = 8 ∨ m = 9 ∨ m = 10 ∨ m = 11 := by omega
      have hs := yd_succ true (y + 4799)
      rw [show y + 4799 + 1 = y + 4800 by omega] at hs
      unfold jd cm at hi
      have ho : off true = 32045 := rfl
      rw [ho] at hi ⊢
      rcases e with rfl | rfl | rfl | rfl | rfl | rfl | rfl | rfl | rfl | rfl | rfl <;> simp at hi <;> (try rw [show y + 4800 - 1 = y + 4799 by omega] at hi) <;> omega
  have hj := h.lo
  unfold spec_juGregorian.f
  by_cases c : y > 1582
  · rw [if_pos c]
    have := yd_mono true (show (1583 : Int) + 4799 ≤ y + 4799 by omega)
    have e1 := jd_year 1583 true; have e2 := jd_year y true; have e3 := jd_1582.1
    simp; omega
  · rw [if_neg c]
    by_cases c2 : y = 1582
    · rw [if_pos c2]
      subst c2
      have hd := h.day
      have e : m = 1 ∨ m = 2 ∨ m = 3 ∨ m = 4 ∨ m = 5 ∨ m = 6 ∨ m = 7 ∨ m = 8 ∨ m = 9 ∨ m = 10 ∨ m = 11 ∨ m = 12 := by omega
      have hi := h.hi
      have t : ∀ k : Int, jd 1582 k 1 true = jd 1582 k 1 true := fun _ => rfl
      rcases e with rfl | rfl | rfl | rfl | rfl | rfl | rfl | rfl | rfl | rfl | rfl | rfl
      all_goals
        first
          | (rw [if_pos (by omega)]
             have e1 : jd 1582 11 1 true = 2299178 := by decide
             have e2 : jd 1582 12 1 true = 2299208 := by decide
             simp; omega)
          | (rw [if_neg (by omega), if_pos (by omega)]
             have e1 : jd 1582 10 1 true = 2299147 := by decide
             congr 1
             by_cases c15 : d ≥ 15
             · simp [c15]; omega
             · simp [c15]; omega)
          | (rw [if_neg (by omega), if_neg (by omega)]
             have e2 : jd 1582 2 1 true = 2298905 := by decide
             have e3 : jd 1582 3 1 true = 2298933 := by decide
             have e4 : jd 1582 4 1 true = 2298964 := by decide
             have e5 : jd 1582 5 1 true = 2298994 := by decide
             have e6 : jd 1582 6 1 true = 2299025 := by decide
             have e7 : jd 1582 7 1 true = 2299055 := by decide
             have e8 : jd 1582 8 1 true = 2299086 := by decide
             have e9 : jd 1582 9 1 true = 2299117 := by decide
             have e10 : jd 1582 10 1 true = 2299147 := by decide
             simp at hi
             simp; omega)
    · rw [if_neg c2]
      have := yd_mono true (show y + 1 + 4799 ≤ (1582 : Int) + 4799 by omega)
      have e1 := jd_year 1582 true; have e2 := jd_year (y + 1) true; have e3 := jd_1582.2
      simp; omega

theorem dayOf_ok {y mo d h mi s n : Int} (H : Near y mo d h mi s n) (j0 : 0 ≤ jday y mo d h mi s n) (j1 : jday y mo d h mi s n ≤ 10000000) : ∃ K : Nat, ∀ k, K ≤ k → ∃ Y M D,
    spec_JuDayOf.f k y mo d h mi s n = some (jd Y M D (decide (2299161 ≤ jday y mo d h mi s n))) ∧ Is true (jday y mo d h mi s n) Y M D := by
  obtain ⟨K, hK⟩ := made_ok H j0 j1
  refine ⟨K, fun k hk => ?_⟩
  obtain ⟨Y, M, D, e, i⟩ := hK k hk
  refine ⟨Y, M, D, ?_, i⟩
  obtain ⟨b1, b2, b3, b4⟩ := rich_bd i.mar j0 j1
  unfold spec_JuDayOf.f
  rw [e]
  simp only [Option.bind_some]
  rw [greg_ok i]
  simp only [Option.bind_some]
  rw [juDay_ok _ _ _ _ (by omega) (by omega) i.m1 i.m2 (by omega) (by omega)]
  rfl

theorem FnJulianDay (y mo d h mi s n : Int) : ∃ k, laws_FnJulianDay.f k y mo d h mi s n = some true := by
  obtain ⟨yy, hyy⟩ : ∃ yy, yy = wrap64 ((-3998) + (wrap64 (Int.tmod (IntKind.u64.wrap (y)) 23996))) := ⟨_, rfl⟩
  have hu : 0 ≤ IntKind.u64.wrap y := by simp only [IntKind.wrap_u64]; omega
  have by' : -3998 ≤ yy ∧ yy ≤ 19998 := by
    rw [Int.tmod_eq_emod_of_nonneg hu, w64 (x := IntKind.u64.wrap y % 23996) (by omega) (by omega), w64 (by omega) (by omega)] at hyy
    omega
  obtain ⟨y', mo, d, h, mi, s, n, e, y0, y1, hr⟩ := juTime_ok y mo d h mi s n
  obtain ⟨H, j0, j1⟩ := near_range (y := yy) hr (by omega) (by omega)
  obtain ⟨K, hK⟩ := dayOf_ok H j0 j1
  obtain ⟨Y, M, D, e1, i1⟩ := hK K (Nat.le_refl _)
  refine ⟨K, ?_⟩
  have ei : impl_JulianDay.f yy mo d h mi s n = some (jd Y M D (decide (2299161 ≤ jday yy mo d h mi s n)), 0) := by
    unfold impl_JulianDay.f
    rw [timeOf_ok H (by omega) (by omega) j0 j1]
    simp only [Option.bind_some]
    have hD : jday yy mo d h mi s n - 2440588 + 2440588 = jday yy mo d h mi s n := by omega
    rw [if_pos trivial, toDay_ok (y := Y) (m := M) (d := D) (by rw [hD]; exact i1.mar) (by omega) (by omega) (by omega), hD]
    rfl
  unfold laws_FnJulianDay.f
  rw [e, ← hyy]
  simp only [Option.bind_some]
  rw [ei]
  simp only [Option.bind_some]
  rw [if_pos trivial, e1]
  simp
end Go.Proofs.Ytbblgpgjgkmcbaa.Jf
