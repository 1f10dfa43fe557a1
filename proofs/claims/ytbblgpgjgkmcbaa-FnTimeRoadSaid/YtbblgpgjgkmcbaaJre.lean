/- What the functions of a calendar compute: the Julian day of a date; and the law FnJulianDay over numbers. No condition beyond their ranges. -/
import Derived.Test.YtbblgpgjgkmcbaaJrd
namespace Go.Proofs.Ytbblgpgjgkmcbaa.Jr
open Go.RowKit Go.Proofs.Ytbblgpgjgkmcbaa.PJro Go.Proofs.YtbblgpgjgkmcbaaW.PrintWords Go.Proofs.YtbblgpgjgkmcbaaW.PrintLast
open Jul

theorem gregorian_date : julian_gregorianDate.f = some (-141427, 0) := by
  obtain ⟨y, m, d, h, e⟩ := dayToTime_ok 2299161 (by omega) (by omega)
  have hj := jd_mar h
  rw [show decide ((2299161 : Int) ≥ 2299161) = true by decide] at hj
  unfold julian_gregorianDate.f
  rw [e, hj]
  rfl

theorem mar_pos {g : Bool} {n y m d : Int} (h : Mar g n y m d) (hn : 0 ≤ n) : 0 ≤ y + 4800 - (14 - m) / 12 := by
  obtain ⟨_, _, lo, hi, _, _⟩ := h
  by_cases c : 0 ≤ y + 4800 - (14 - m) / 12
  · exact c
  · have := yd_mono g (show y + 4800 - (14 - m) / 12 + 1 ≤ 0 by omega)
    have e : yd g 0 = 0 := by cases g <;> decide
    have o : 32045 ≤ off g := by cases g <;> decide
    omega

theorem toDay_ok {D N y m d : Int} (h : Mar true (D + 2440588) y m d) (h0 : 0 ≤ D + 2440588) (h1 : D + 2440588 ≤ 10000000) (hN : 0 ≤ N) : julian_TimeToDay.f D N = some (jd y m d (decide (2299161 ≤ D + 2440588))) := by
  obtain ⟨y', m', d', e, h', _⟩ := timeDate_ok D N (by omega) (by omega)
  obtain ⟨rfl, rfl, rfl⟩ := h.unique h'
  obtain ⟨b1, b2, b3, b4⟩ := rich_bd h h0 h1
  have hp := mar_pos h h0
  have m1 := h.m1; have m2 := h.m2
  have eb : zztime_Time_Before.f D N (-141427) 0 = some (decide (D < -141427)) := by
    unfold zztime_Time_Before.f
    by_cases c : D < -141427
    · rw [if_pos c]; simp [c]
    · rw [if_neg c]
      by_cases c2 : D = -141427
      · rw [if_pos c2]; simp [c]; omega
      · rw [if_neg c2]; simp [c]
  have edec : decide (2299161 ≤ D + 2440588) = !decide (D < -141427) := by
    by_cases c : D < -141427
    · simp [c]; omega
    · simp [c]; omega
  rw [edec]
  obtain ⟨Y, hY⟩ : ∃ Y, Y = y + 4800 - (14 - m) / 12 := ⟨_, rfl⟩
  obtain ⟨M, hM⟩ : ∃ M, M = m + 12 * ((14 - m) / 12) - 3 := ⟨_, rfl⟩
  have bY : 0 ≤ Y ∧ Y ≤ 30000 := by omega
  have bM : 0 ≤ M ∧ M ≤ 11 := by omega
  have a1 : wrap64 (14 - m) = 14 - m := w64 (by omega) (by omega)
  have a2 : wrap64 (Int.tdiv (14 - m) 12) = (14 - m) / 12 := by rw [Int.tdiv_eq_ediv_of_nonneg (by omega)]; exact w64 (by omega) (by omega)
  have a3 : wrap64 (12 * ((14 - m) / 12)) = 12 * ((14 - m) / 12) := w64 (by omega) (by omega)
  have a4 : wrap64 (m + 12 * ((14 - m) / 12)) = m + 12 * ((14 - m) / 12) := w64 (by omega) (by omega)
  have a5 : wrap64 (m + 12 * ((14 - m) / 12) - 3) = M := by rw [← hM]; exact w64 (by omega) (by omega)
  have a6 : wrap64 (153 * M) = 153 * M := w64 (by omega) (by omega)
  have a7 : wrap64 (153 * M + 2) = 153 * M + 2 := w64 (by omega) (by omega)
  have bc : 0 ≤ cm M ∧ cm M ≤ 400 := by unfold cm; omega
  have a8 : wrap64 (Int.tdiv (153 * M + 2) 5) = cm M := by rw [Int.tdiv_eq_ediv_of_nonneg (by omega)]; exact w64 (x := cm M) (by omega) (by omega)
  have a9 : wrap64 (d + cm M) = d + cm M := w64 (by omega) (by omega)
  have a10 : wrap64 (y + 4800) = y + 4800 := w64 (by omega) (by omega)
  have a11 : wrap64 (y + 4800 - (14 - m) / 12) = Y := by rw [← hY]; exact w64 (by omega) (by omega)
  have a12 : wrap64 (365 * Y) = 365 * Y := w64 (by omega) (by omega)
  have a13 : wrap64 (d + cm M + 365 * Y) = d + cm M + 365 * Y := w64 (by omega) (by omega)
  have a14 : wrap64 (Int.tdiv Y 4) = Y / 4 := by rw [Int.tdiv_eq_ediv_of_nonneg bY.1]; exact w64 (by omega) (by omega)
  have a15 : wrap64 (Int.tdiv Y 100) = Y / 100 := by rw [Int.tdiv_eq_ediv_of_nonneg bY.1]; exact w64 (by omega) (by omega)
  have a16 : wrap64 (Int.tdiv Y 400) = Y / 400 := by rw [Int.tdiv_eq_ediv_of_nonneg bY.1]; exact w64 (by omega) (by omega)
  have a17 : wrap64 (d + cm M + 365 * Y + Y / 4) = d + cm M + 365 * Y + Y / 4 := w64 (by omega) (by omega)
  have a18 : wrap64 (d + cm M + 365 * Y + Y / 4 - Y / 100) = d + cm M + 365 * Y + Y / 4 - Y / 100 := w64 (by omega) (by omega)
  have a19 : wrap64 (d + cm M + 365 * Y + Y / 4 - Y / 100 + Y / 400) = d + cm M + 365 * Y + Y / 4 - Y / 100 + Y / 400 := w64 (by omega) (by omega)
  have a20 : wrap64 (d + cm M + 365 * Y + Y / 4 - Y / 100 + Y / 400 - 32045) = d + cm M + 365 * Y + Y / 4 - Y / 100 + Y / 400 - 32045 := w64 (by omega) (by omega)
  have a21 : wrap64 (d + cm M + 365 * Y + Y / 4 - 32083) = d + cm M + 365 * Y + Y / 4 - 32083 := w64 (by omega) (by omega)
  have em : zztime_Time_Month.f D N = some m := by unfold zztime_Time_Month.f; rw [e]; rfl
  have ey : zztime_Time_Year.f D N = some y := by unfold zztime_Time_Year.f; rw [e]; rfl
  have ed : zztime_Time_Day.f D N = some d := by unfold zztime_Time_Day.f; rw [e]; rfl
  unfold julian_TimeToDay.f zztime_Time_UTC.f
  simp only [Option.bind_some, em, ey, ed, gregorian_date, eb, a1, a2, a3, a4, a5, a6, a7, a8, a9, a10, a11, a12, a13, a14, a15, a16, a17, a18, a19, a20, a21]
  unfold jd
  rw [← hY, ← hM]
  by_cases c : D < -141427
  · rw [if_pos (by simpa using c)]
    unfold yd off
    simp [c]
    omega
  · rw [if_neg (by simpa using c)]
    unfold yd off
    simp [c]
    omega

end Go.Proofs.Ytbblgpgjgkmcbaa.Jr
