/- What the functions of a calendar compute: the numbers of a moment; and the law FnTimeNumbers over numbers. No condition beyond their ranges. -/
import Derived.Test.YtbblgpgjgkmcbaaJre
import Derived.Test.YtbblgpgjgkmcbaaPJrox5
namespace Go.Proofs.Ytbblgpgjgkmcbaa.Jr
open Go.RowKit Go.Proofs.Ytbblgpgjgkmcbaa.PJro Go.Proofs.YtbblgpgjgkmcbaaW.PrintWords Go.Proofs.YtbblgpgjgkmcbaaW.PrintLast
open Jul

/-- A moment within its ranges. -/
structure Fine (h mi s n : Int) : Prop where
  h0 : 0 ≤ h
  h1 : h < 24
  m0 : 0 ≤ mi
  m1 : mi < 60
  s0 : 0 ≤ s
  s1 : s < 60
  n0 : 0 ≤ n
  n1 : n < 1000000000
theorem Fine.clock {h mi s n : Int} (F : Fine h mi s n) : sec s n = s ∧ min mi s n = mi ∧ hour h mi s n = h ∧ hour h mi s n / 24 = 0 := by
  obtain ⟨_, _, _, _, _, _, _, _⟩ := F
  have e1 : sec s n = s := by unfold sec; omega
  have e2 : min mi s n = mi := by unfold min; rw [e1]; omega
  have e3 : hour h mi s n = h := by unfold hour; rw [e2]; omega
  exact ⟨e1, e2, e3, by rw [e3]; omega⟩
theorem Fine.jday {y m d h mi s n : Int} (F : Fine h mi s n) (m1 : 1 ≤ m) (m2 : m ≤ 12) : jday y m d h mi s n = jd y m d true := by
  have e1 : (m - 1) / 12 = 0 := by omega
  unfold Jr.jday dday
  rw [F.clock.2.2.2, e1, jd_day y m d]
  rw [show y + 0 = y by omega, show m - 12 * 0 = m by omega]
  omega
theorem Fine.near {y m d h mi s n : Int} (F : Fine h mi s n) (y0 : -10000 ≤ y) (y1 : y ≤ 30000) (m1 : 1 ≤ m) (m2 : m ≤ 12) (d0 : 0 ≤ d) (d1 : d ≤ 400) : Near y m d h mi s n := by
  obtain ⟨_, _, _, _, _, _, _, _⟩ := F
  constructor <;> omega

theorem year_range {n y m d : Int} (h : Mar true n y m d) (h0 : 1721485 ≤ n) (h1 : n ≤ 5373000) : 1 ≤ y ∧ y ≤ 9999 := by
  have m1 := h.m1; have m2 := h.m2
  have lo := h.lo; have hi := h.hi
  have ho : off true = 32045 := rfl
  rw [ho] at lo hi
  constructor
  · by_cases c : 1 ≤ y
    · exact c
    · have := yd_mono true (show y + 4800 - (14 - m) / 12 + 1 ≤ 4801 by omega)
      have e : yd true 4801 = 1753529 := by decide
      omega
  · by_cases c : y ≤ 9999
    · exact c
    · have := yd_mono true (show (14799 : Int) ≤ y + 4800 - (14 - m) / 12 by omega)
      have e : yd true 14799 = 5405223 := by decide
      omega
theorem near_year {y mo d h mi s n : Int} (H : -20 < mo ∧ mo < 20 ∧ -50 < d ∧ d < 50 ∧ -40 < h ∧ h < 40 ∧ -100 < mi ∧ mi < 100 ∧ -100 < s ∧ s < 100 ∧ -3000000000 < n ∧ n < 3000000000) (y0 : 4 ≤ y) (y1 : y ≤ 9993) :
    1721485 ≤ jday y mo d h mi s n ∧ jday y mo d h mi s n ≤ 5373000 := by
  have b1 : -105 ≤ sec s n ∧ sec s n ≤ 105 := by unfold sec; omega
  have b2 : -105 ≤ min mi s n ∧ min mi s n ≤ 105 := by unfold min; omega
  have b3 : -45 ≤ hour h mi s n ∧ hour h mi s n ≤ 45 := by unfold hour; omega
  have b4 : -55 ≤ dday d h mi s n ∧ dday d h mi s n ≤ 55 := by unfold dday; omega
  have bm : 1 ≤ mo - 12 * ((mo - 1) / 12) ∧ mo - 12 * ((mo - 1) / 12) ≤ 12 := by omega
  have by' : 2 ≤ y + (mo - 1) / 12 ∧ y + (mo - 1) / 12 ≤ 9994 := by omega
  unfold jday
  obtain ⟨M, hM⟩ : ∃ M, M = mo - 12 * ((mo - 1) / 12) := ⟨_, rfl⟩
  obtain ⟨Y, hY⟩ : ∃ Y, Y = y + (mo - 1) / 12 := ⟨_, rfl⟩
  have bm' : 1 ≤ M ∧ M ≤ 12 := by omega
  have bY' : 2 ≤ Y ∧ Y ≤ 9994 := by omega
  rw [← hM, ← hY]
  clear hM hY b1 b2 b3 H bm by'
  have bM : 0 ≤ M + 12 * ((14 - M) / 12) - 3 ∧ M + 12 * ((14 - M) / 12) - 3 ≤ 11 := by omega
  have bC : (14 - M) / 12 = 1 ∧ 300 ≤ cm (M + 12 * ((14 - M) / 12) - 3) ∨ (14 - M) / 12 = 0 := by
    unfold cm; omega
  have bC2 : 0 ≤ cm (M + 12 * ((14 - M) / 12) - 3) ∧ cm (M + 12 * ((14 - M) / 12) - 3) ≤ 340 := by unfold cm; omega
  unfold jd
  obtain ⟨Z, hZ⟩ : ∃ Z, Z = Y + 4800 - (14 - M) / 12 := ⟨_, rfl⟩
  have z1 : yd true 4801 = 1753529 := by decide
  have z2 : yd true 4802 = 1753894 := by decide
  have z3 : yd true 14794 = 5403397 := by decide
  have ho : off true = 32045 := rfl
  have hmid : yd true 4801 ≤ yd true Z := yd_mono true (by omega)
  have hup : yd true Z ≤ yd true 14794 := yd_mono true (by omega)
  rw [← hZ, ho]
  rcases bC with ⟨c1, c2⟩ | c1
  · omega
  · have : yd true 4802 ≤ yd true Z := yd_mono true (by omega)
    omega

theorem numbers_ok {y m d h mi s n : Int} (F : Fine h mi s n) (i : Mar true (jd y m d true) y m d) (y0 : 1 ≤ y) (y1 : y ≤ 9999) (j0 : 0 ≤ jd y m d true) (j1 : jd y m d true ≤ 10000000) (k : Nat) (hk : 1 ≤ k) (J : Int) (hJ : J = jd y m d (decide (2299161 ≤ jd y m d true))) (hJb : 0 ≤ J ∧ J ≤ 9000000) :
    impl_TimeNumbers.f k y m d h mi s n = some ((((J - 1721424) * 24 + h) * 60 + mi) * 60 * 10000000 + s * 10000000 + n / 100 + 1, (((J - 1721424) * 24 + h) * 60 + mi) * 60 + s + 1, J - 1721423, (h * 60 + mi) * 60 + s + 1, 0) := by
  obtain ⟨k, rfl⟩ : ∃ j, k = j + 1 := ⟨k - 1, by omega⟩
  obtain ⟨b1, b2, b3, b4⟩ := rich_bd i j0 j1
  have H := F.near (y := y) (m := m) (d := d) (by omega) (by omega) i.m1 i.m2 (by omega) (by omega)
  have ej := F.jday (y := y) (d := d) i.m1 i.m2
  have et := timeOf_ok H (by omega) (by omega) (by rw [ej]; exact j0) (by rw [ej]; exact j1)
  obtain ⟨c1, c2, c3, _⟩ := F.clock
  obtain ⟨h0, h1, m0, m1, s0, s1, n0, n1⟩ := F
  rw [ej, c1, c2, c3, show h % 24 = h by omega, show mi % 60 = mi by omega, show s % 60 = s by omega, show n % 1000000000 = n by omega] at et
  obtain ⟨D, hD⟩ : ∃ D, D = jd y m d true - 2440588 := ⟨_, rfl⟩
  have hD' : D + 2440588 = jd y m d true := by omega
  obtain ⟨N, hN⟩ : ∃ N, N = ((h * 60 + mi) * 60 + s) * 1000000000 + n := ⟨_, rfl⟩
  rw [← hD, ← hN] at et
  have bN : 0 ≤ N ∧ N < 86400000000000 := by omega
  have etd := toDay_ok (N := N) (D := D) (y := y) (m := m) (d := d) (by rw [hD']; exact i) (by omega) (by omega) bN.1
  rw [hD', ← hJ] at etd
  obtain ⟨y', m', d', ed, i', _⟩ := timeDate_ok D N (by omega) (by omega)
  rw [hD'] at i'
  obtain ⟨rfl, rfl, rfl⟩ := i.unique i'
  have ey : zztime_Time_Year.f D N = some y := by unfold zztime_Time_Year.f; rw [ed]; rfl
  have e1 : zztime_Time_Hour.f D N = some h := by unfold zztime_Time_Hour.f; rw [Int.tdiv_eq_ediv_of_nonneg bN.1, w64 (by omega) (by omega)]; congr 1; omega
  have e2 : zztime_Time_Minute.f D N = some mi := by
    unfold zztime_Time_Minute.f
    rw [Int.tdiv_eq_ediv_of_nonneg bN.1, w64 (by omega) (by omega), Int.tmod_eq_emod_of_nonneg (by omega)]
    have : N / 60000000000 = h * 60 + mi := by omega
    rw [this]; congr 1; omega
  have e3 : zztime_Time_Second.f D N = some s := by
    unfold zztime_Time_Second.f
    rw [Int.tdiv_eq_ediv_of_nonneg bN.1, w64 (by omega) (by omega), Int.tmod_eq_emod_of_nonneg (by omega)]
    have : N / 1000000000 = (h * 60 + mi) * 60 + s := by omega
    rw [this]; congr 1; omega
  have e4 : zztime_Time_Nanosecond.f D N = some n := by unfold zztime_Time_Nanosecond.f; rw [Int.tmod_eq_emod_of_nonneg bN.1]; congr 1; omega
  have edd : encoding_convertTimeToDayDate.f D N = some (J - 1721423) := by unfold encoding_convertTimeToDayDate.f; rw [etd]; simp only [Option.bind_some]; rw [w64 (by omega) (by omega)]
  have a1 : wrap64 (J - 1721423 - 1) = J - 1721424 := by rw [w64 (by omega) (by omega)]; omega
  have a2 : wrap64 ((J - 1721424) * 24) = (J - 1721424) * 24 := w64 (by omega) (by omega)
  have a3 : wrap64 ((J - 1721424) * 24 + h) = (J - 1721424) * 24 + h := w64 (by omega) (by omega)
  have a4 : wrap64 (((J - 1721424) * 24 + h) * 60) = ((J - 1721424) * 24 + h) * 60 := w64 (by omega) (by omega)
  have a5 : wrap64 (((J - 1721424) * 24 + h) * 60 + mi) = ((J - 1721424) * 24 + h) * 60 + mi := w64 (by omega) (by omega)
  have a6 : wrap64 ((((J - 1721424) * 24 + h) * 60 + mi) * 60) = (((J - 1721424) * 24 + h) * 60 + mi) * 60 := w64 (by omega) (by omega)
  have a7 : wrap64 ((((J - 1721424) * 24 + h) * 60 + mi) * 60 + s) = (((J - 1721424) * 24 + h) * 60 + mi) * 60 + s := w64 (by omega) (by omega)
  have a8 : wrap64 (((((J - 1721424) * 24 + h) * 60 + mi) * 60 + s) * 10000000) = (((J - 1721424) * 24 + h) * 60 + mi) * 60 * 10000000 + s * 10000000 := by rw [w64 (by omega) (by omega)]; omega
  have a9 : wrap64 (Int.tdiv n 100) = n / 100 := by rw [Int.tdiv_eq_ediv_of_nonneg n0]; exact w64 (by omega) (by omega)
  have a10 : wrap64 ((((J - 1721424) * 24 + h) * 60 + mi) * 60 * 10000000 + s * 10000000 + n / 100) = (((J - 1721424) * 24 + h) * 60 + mi) * 60 * 10000000 + s * 10000000 + n / 100 := w64 (by omega) (by omega)
  have a11 : wrap64 ((((J - 1721424) * 24 + h) * 60 + mi) * 60 * 10000000 + s * 10000000 + n / 100 + 1) = (((J - 1721424) * 24 + h) * 60 + mi) * 60 * 10000000 + s * 10000000 + n / 100 + 1 := w64 (by omega) (by omega)
  have a12 : wrap64 ((((J - 1721424) * 24 + h) * 60 + mi) * 60 + s + 1) = (((J - 1721424) * 24 + h) * 60 + mi) * 60 + s + 1 := w64 (by omega) (by omega)
  have b1 : wrap64 (h * 60) = h * 60 := w64 (by omega) (by omega)
  have b2 : wrap64 (h * 60 + mi) = h * 60 + mi := w64 (by omega) (by omega)
  have b3 : wrap64 ((h * 60 + mi) * 60) = (h * 60 + mi) * 60 := w64 (by omega) (by omega)
  have b4 : wrap64 ((h * 60 + mi) * 60 + s) = (h * 60 + mi) * 60 + s := w64 (by omega) (by omega)
  have b5 : wrap64 ((h * 60 + mi) * 60 + s + 1) = (h * 60 + mi) * 60 + s + 1 := w64 (by omega) (by omega)
  have n1' : encoding_ZzLongdateOf.f D N = some ((((J - 1721424) * 24 + h) * 60 + mi) * 60 * 10000000 + s * 10000000 + n / 100 + 1) := by
    unfold encoding_ZzLongdateOf.f encoding_convertTimeToLongdate.f
    simp only [edd, e1, e2, e3, e4, Option.bind_some, a1, a2, a3, a4, a5, a6, a7, a8, a9, a10, a11]
  have n2' : encoding_ZzSeconddateOf.f D N = some ((((J - 1721424) * 24 + h) * 60 + mi) * 60 + s + 1) := by
    unfold encoding_ZzSeconddateOf.f encoding_convertTimeToSeconddate.f
    simp only [edd, e1, e2, e3, Option.bind_some, a1, a2, a3, a4, a5, a6, a7, a12]
  have n3' : encoding_ZzDaydateOf.f D N = some (J - 1721423) := by
    unfold encoding_ZzDaydateOf.f
    simp only [edd, Option.bind_some]
  have n4' : encoding_ZzSecondtimeOf.f D N = some ((h * 60 + mi) * 60 + s + 1) := by
    unfold encoding_ZzSecondtimeOf.f encoding_convertTimeToSecondtime.f
    simp only [e1, e2, e3, Option.bind_some, b1, b2, b3, b4, b5]
  unfold impl_TimeNumbers.f
  rw [et]
  simp only [Option.bind_some]
  rw [if_pos trivial, ey]
  simp only [Option.bind_some]
  rw [if_neg (by omega), show decide (y > 9999) = false by simp; omega]
  simp only [impl_TimeNumbers.j0]
  rw [if_neg (by decide), n1', n2', n3', n4']
  rfl

end Go.Proofs.Ytbblgpgjgkmcbaa.Jr
