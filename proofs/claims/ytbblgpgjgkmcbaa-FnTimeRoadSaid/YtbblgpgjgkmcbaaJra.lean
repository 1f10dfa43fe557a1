/- What the functions of a calendar compute: the day's number of a date, and the date of a day. No condition beyond their ranges. -/
import Derived.Test.YtbblgpgjgkmcbaaPJrox3
import Derived.Test.YtbblgpgjgkmcbaaJul
namespace Go.Proofs.Ytbblgpgjgkmcbaa.Jr
open Go.RowKit Go.Proofs.Ytbblgpgjgkmcbaa.PJro Go.Proofs.YtbblgpgjgkmcbaaW.PrintWords Go.Proofs.YtbblgpgjgkmcbaaW.PrintLast
open Jul

theorem w64 {x : Int} (h0 : -9223372036854775808 ≤ x) (h1 : x ≤ 9223372036854775807) : wrap64 x = x := by unfold wrap64; omega
theorem tdiv_neg {a b : Int} (h : a < 0) (_hb : 0 < b) : Int.tdiv a b = -((-a) / b) := by
  rw [show a = -(-a) by omega, Int.neg_tdiv, Int.tdiv_eq_ediv_of_nonneg (by omega)]; simp
theorem tmod_neg {a b : Int} (h : a < 0) (_hb : 0 < b) : Int.tmod a b = -((-a) % b) := by
  rw [show a = -(-a) by omega, Int.neg_tmod, Int.tmod_eq_emod_of_nonneg (by omega)]; simp
theorem neg_ediv {a b : Int} (hb : 0 < b) : a / b = if (-a) % b = 0 then -((-a) / b) else -((-a) / b) - 1 := by
  have h1 := Int.mul_ediv_add_emod (-a) b
  have h2 := Int.emod_nonneg (-a) (show b ≠ 0 by omega)
  have h3 := Int.emod_lt_of_pos (-a) hb
  split
  · rename_i h
    rw [h] at h1
    have e : a = b * (-((-a) / b)) := by rw [Int.mul_neg]; omega
    rw [e]; rw [Int.mul_ediv_cancel_left _ (by omega)]; rw [← e]
  · rename_i h
    have e : a = b * (-((-a) / b) - 1) + (b - (-a) % b) := by rw [Int.mul_sub, Int.mul_neg]; omega
    have := Int.mul_add_ediv_left (b - (-a) % b) (-((-a) / b) - 1) (show b ≠ 0 by omega)
    conv => lhs; rw [e]
    rw [Int.add_comm, Int.add_mul_ediv_left _ _ (by omega), Int.ediv_eq_zero_of_lt (by omega) (by omega)]
    omega
theorem ediv_bd {a b : Int} (hb : 0 < b) (h0 : -4611686018427387904 ≤ a) (h1 : a ≤ 4611686018427387904) : -4611686018427387904 ≤ a / b ∧ a / b ≤ 4611686018427387904 := by
  constructor
  · rw [Int.le_ediv_iff_mul_le hb]
    have : (-4611686018427387904 : Int) * b ≤ -4611686018427387904 * 1 := Int.mul_le_mul_of_nonpos_left (by omega) (by omega)
    omega
  · have := Int.ediv_le_self (a := a) b
    by_cases h : 0 ≤ a
    · exact Int.le_trans (Int.ediv_le_self b h) h1
    · have := Int.ediv_neg_of_neg_of_pos (show a < 0 by omega) hb
      omega
theorem floor_ok (a b : Int) (hb : 0 < b) (hb1 : b ≤ 4611686018427387904) (h0 : -4611686018427387904 ≤ a) (h1 : a ≤ 4611686018427387904) : zztime_floor.f a b = some (a / b, a % b) := by
  have bd := ediv_bd hb h0 h1
  have hm0 := Int.emod_nonneg a (show b ≠ 0 by omega)
  have hm1 := Int.emod_lt_of_pos a hb
  unfold zztime_floor.f
  rw [if_neg (by omega)]
  by_cases h : 0 ≤ a
  · rw [Int.tmod_eq_emod_of_nonneg h, Int.tdiv_eq_ediv_of_nonneg h, if_neg (by omega), w64 (by omega) (by omega)]
  · have n0 := Int.emod_nonneg (-a) (show b ≠ 0 by omega)
    have n1 := Int.emod_lt_of_pos (-a) hb
    have e := Int.mul_ediv_add_emod a b
    have e' := Int.mul_ediv_add_emod (-a) b
    have ed := neg_ediv (a := a) hb
    rw [tmod_neg (by omega) hb, tdiv_neg (by omega) hb]
    by_cases hz : (-a) % b = 0
    · rw [if_pos hz] at ed
      rw [if_neg (by omega), hz, ← ed, w64 (by omega) (by omega)]
      have : a % b = 0 := by
        have := Int.emod_eq_zero_of_dvd (Int.dvd_neg.mp (Int.dvd_of_emod_eq_zero hz))
        exact this
      rw [this]; rfl
    · rw [if_neg hz] at ed
      rw [if_pos (by omega), w64 (x := -((-a) / b)) (by omega) (by omega), ← ed, w64 (by omega) (by omega)]
      have em : a % b = -((-a) % b) + b := by
        rw [ed] at e
        rw [Int.mul_sub, Int.mul_neg] at e
        omega
      rw [← em, w64 (by omega) (by omega)]
theorem juFloor_ok (a b : Int) (hb : 0 < b) (hb1 : b ≤ 4611686018427387904) (h0 : -4611686018427387904 ≤ a) (h1 : a ≤ 4611686018427387904) : spec_juFloor.f a b = some (a / b) := by
  have h := floor_ok a b hb hb1 h0 h1
  unfold zztime_floor.f at h
  unfold spec_juFloor.f
  rw [if_neg (by omega)] at h ⊢
  split at h <;> simp only [Option.some.injEq, Prod.mk.injEq] at h <;> rename_i c
  · rw [if_pos c, h.1]
  · rw [if_neg c, h.1]

theorem juDay_ok (y m d : Int) (g : Bool) (hy0 : -1000000000 ≤ y) (hy1 : y ≤ 1000000000) (hm0 : 1 ≤ m) (hm1 : m ≤ 12) (hd0 : -1000000000000 ≤ d) (hd1 : d ≤ 1000000000000) : spec_JuDay.f y m d g = some (jd y m d g) := by
  have ha : Int.tdiv (wrap64 (14 - m)) 12 = (14 - m) / 12 := by rw [w64 (by omega) (by omega), Int.tdiv_eq_ediv_of_nonneg (by omega)]
  have e1 : wrap64 (y + 4800) = y + 4800 := w64 (by omega) (by omega)
  have e2 : wrap64 ((14 - m) / 12) = (14 - m) / 12 := w64 (by omega) (by omega)
  have e3 : wrap64 (y + 4800 - (14 - m) / 12) = y + 4800 - (14 - m) / 12 := w64 (by omega) (by omega)
  obtain ⟨Y, hY⟩ : ∃ Y, Y = y + 4800 - (14 - m) / 12 := ⟨_, rfl⟩
  obtain ⟨M, hM⟩ : ∃ M, M = m + 12 * ((14 - m) / 12) - 3 := ⟨_, rfl⟩
  have bY : -1000001000 ≤ Y ∧ Y ≤ 1000005000 := by omega
  have bM : 0 ≤ M ∧ M ≤ 11 := by omega
  have e4 : wrap64 (12 * ((14 - m) / 12)) = 12 * ((14 - m) / 12) := w64 (by omega) (by omega)
  have e5 : wrap64 (m + 12 * ((14 - m) / 12)) = m + 12 * ((14 - m) / 12) := w64 (by omega) (by omega)
  have e6 : wrap64 (m + 12 * ((14 - m) / 12) - 3) = M := by rw [w64 (by omega) (by omega)]; exact hM.symm
  have e7 : wrap64 (153 * M) = 153 * M := w64 (by omega) (by omega)
  have e8 : wrap64 (153 * M + 2) = 153 * M + 2 := w64 (by omega) (by omega)
  have e9 : wrap64 (Int.tdiv (153 * M + 2) 5) = cm M := by rw [Int.tdiv_eq_ediv_of_nonneg (by omega), w64 (by omega) (by omega)]; rfl
  have e10 : wrap64 (365 * Y) = 365 * Y := w64 (by omega) (by omega)
  have bc : 0 ≤ cm M ∧ cm M ≤ 400 := by unfold cm; omega
  unfold spec_JuDay.f
  rw [ha, e1, e2, e3, ← hY, e4, e5, e6, e7, e8, e9, e10]
  rw [juFloor_ok _ _ (by omega) (by omega) (by omega) (by omega), juFloor_ok _ _ (by omega) (by omega) (by omega) (by omega), juFloor_ok _ _ (by omega) (by omega) (by omega) (by omega)]
  simp only [Option.bind_some]
  have f1 : wrap64 (d + cm M) = d + cm M := w64 (by omega) (by omega)
  have f2 : wrap64 (d + cm M + 365 * Y) = d + cm M + 365 * Y := w64 (by omega) (by omega)
  have f3 : wrap64 (d + cm M + 365 * Y + Y / 4) = d + cm M + 365 * Y + Y / 4 := w64 (by omega) (by omega)
  rw [f1, f2, f3]
  unfold jd
  rw [← hY, ← hM]
  cases g
  · rw [if_neg (by simp), w64 (by omega) (by omega)]
    unfold yd off
    simp; omega
  · rw [if_pos rfl, w64 (x := d + cm M + 365 * Y + Y / 4 - Y / 100) (by omega) (by omega), w64 (x := d + cm M + 365 * Y + Y / 4 - Y / 100 + Y / 400) (by omega) (by omega), w64 (by omega) (by omega)]
    unfold yd off
    simp; omega
theorem jd_day (y m d : Int) (g : Bool) : jd y m d g = jd y m 1 g + d - 1 := by unfold jd; omega
theorem daysOf_ok (y m : Int) (hy0 : -1000000000 ≤ y) (hy1 : y ≤ 1000000000) (hm0 : 1 ≤ m) (hm1 : m ≤ 12) : zztime_daysOf.f y m = some (jd y m 1 true - 2440588) := by
  unfold zztime_daysOf.f
  by_cases c : m ≤ 2
  · rw [if_pos c, w64 (x := y - 1) (by omega) (by omega), floor_ok _ _ (by omega) (by omega) (by omega) (by omega)]
    simp only [Option.bind_some]
    obtain ⟨e, he⟩ : ∃ e, e = (y - 1) / 400 := ⟨_, rfl⟩
    obtain ⟨r, hr⟩ : ∃ r, r = (y - 1) % 400 := ⟨_, rfl⟩
    rw [← he, ← hr]
    have br : 0 ≤ r ∧ r < 400 := by omega
    have be : -3000000 ≤ e ∧ e ≤ 3000000 := by omega
    rw [Int.tdiv_eq_ediv_of_nonneg br.1, Int.tdiv_eq_ediv_of_nonneg br.1, w64 (x := m + 12) (by omega) (by omega), w64 (x := m + 12 - 3) (by omega) (by omega), w64 (x := 153 * (m + 12 - 3)) (by omega) (by omega), w64 (x := 153 * (m + 12 - 3) + 2) (by omega) (by omega),
      Int.tdiv_eq_ediv_of_nonneg (a := 153 * (m + 12 - 3) + 2) (by omega), w64 (x := (153 * (m + 12 - 3) + 2) / 5) (by omega) (by omega)]
    obtain ⟨q, hq⟩ : ∃ q, q = (153 * (m + 12 - 3) + 2) / 5 := ⟨_, rfl⟩
    have bq : 0 ≤ q ∧ q < 400 := by omega
    rw [← hq, w64 (x := e * 146097) (by omega) (by omega), w64 (x := r * 365) (by omega) (by omega), w64 (x := e * 146097 + r * 365) (by omega) (by omega), w64 (x := r / 4) (by omega) (by omega), w64 (x := r / 100) (by omega) (by omega),
      w64 (x := e * 146097 + r * 365 + r / 4) (by omega) (by omega), w64 (x := e * 146097 + r * 365 + r / 4 - r / 100) (by omega) (by omega), w64 (x := e * 146097 + r * 365 + r / 4 - r / 100 + q) (by omega) (by omega), w64 (by omega) (by omega)]
    have ha : (14 - m) / 12 = 1 := by omega
    unfold jd yd cm off
    rw [ha]
    simp only [if_true]
    congr 1
    have hy : y = 400 * e + r + 1 := by omega
    subst hy
    clear he hr
    omega
  · rw [if_neg c, floor_ok _ _ (by omega) (by omega) (by omega) (by omega)]
    simp only [Option.bind_some]
    obtain ⟨e, he⟩ : ∃ e, e = y / 400 := ⟨_, rfl⟩
    obtain ⟨r, hr⟩ : ∃ r, r = y % 400 := ⟨_, rfl⟩
    rw [← he, ← hr]
    have br : 0 ≤ r ∧ r < 400 := by omega
    have be : -3000000 ≤ e ∧ e ≤ 3000000 := by omega
    rw [Int.tdiv_eq_ediv_of_nonneg br.1, Int.tdiv_eq_ediv_of_nonneg br.1, w64 (x := m - 3) (by omega) (by omega), w64 (x := 153 * (m - 3)) (by omega) (by omega), w64 (x := 153 * (m - 3) + 2) (by omega) (by omega),
      Int.tdiv_eq_ediv_of_nonneg (a := 153 * (m - 3) + 2) (by omega), w64 (x := (153 * (m - 3) + 2) / 5) (by omega) (by omega)]
    obtain ⟨q, hq⟩ : ∃ q, q = (153 * (m - 3) + 2) / 5 := ⟨_, rfl⟩
    have bq : 0 ≤ q ∧ q < 400 := by omega
    rw [← hq, w64 (x := e * 146097) (by omega) (by omega), w64 (x := r * 365) (by omega) (by omega), w64 (x := e * 146097 + r * 365) (by omega) (by omega), w64 (x := r / 4) (by omega) (by omega), w64 (x := r / 100) (by omega) (by omega),
      w64 (x := e * 146097 + r * 365 + r / 4) (by omega) (by omega), w64 (x := e * 146097 + r * 365 + r / 4 - r / 100) (by omega) (by omega), w64 (x := e * 146097 + r * 365 + r / 4 - r / 100 + q) (by omega) (by omega), w64 (by omega) (by omega)]
    have ha : (14 - m) / 12 = 0 := by omega
    unfold jd yd cm off
    rw [ha]
    simp only [if_true]
    congr 1
    have hy : y = 400 * e + r := by omega
    subst hy
    clear he hr
    omega

set_option maxHeartbeats 2000000 in
/-- The date of a day. -/
theorem timeDate_ok (D N : Int) (h0 : -1000000000 ≤ D) (h1 : D ≤ 1000000000) : ∃ y m d, zztime_Time_Date.f D N = some (y, m, d) ∧ Mar true (D + 2440588) y m d ∧ -4000000 ≤ y ∧ y ≤ 4000000 ∧ d ≤ 31 ∧ 1 ≤ d := by
  obtain ⟨e, he⟩ : ∃ e, e = (D + 719468) / 146097 := ⟨_, rfl⟩
  obtain ⟨n, hn⟩ : ∃ n, n = (D + 719468) % 146097 := ⟨_, rfl⟩
  have bn : 0 ≤ n ∧ n < 146097 := by omega
  have be : -7000 ≤ e ∧ e ≤ 7000 := by omega
  obtain ⟨lo, hi, y0, y1⟩ := era_year n bn.1 bn.2
  obtain ⟨Y, hY⟩ : ∃ Y, Y = (n - n / 1460 + n / 36524 - n / 146096) / 365 := ⟨_, rfl⟩
  rw [← hY] at lo hi y0 y1
  obtain ⟨r, hr⟩ : ∃ r, r = n - yd true Y := ⟨_, rfl⟩
  have hs := yd_succ true Y
  have br : 0 ≤ r ∧ r < 366 := by omega
  have er : n - (365 * Y + Y / 4 - Y / 100) = r := by rw [hr]; unfold yd; simp; omega
  have eyd : ∀ Z : Int, yd true (Z + 400 * e + 4800) = yd true Z + 146097 * e + 1753164 := by intro Z; unfold yd; simp; omega
  have eD : D + 2472632 = n + 146097 * e + 1753164 := by omega
  obtain ⟨q, hq⟩ : ∃ q, q = (5 * r + 2) / 153 := ⟨_, rfl⟩
  have bq : 0 ≤ q ∧ q ≤ 11 := by omega
  have bc : 0 ≤ cm q ∧ cm q ≤ 400 := by unfold cm; omega
  have a0 : wrap64 (D + 719468) = D + 719468 := w64 (by omega) (by omega)
  have a1 : wrap64 (Int.tdiv n 1460) = n / 1460 := by rw [Int.tdiv_eq_ediv_of_nonneg bn.1]; exact w64 (by omega) (by omega)
  have a2 : wrap64 (n - n / 1460) = n - n / 1460 := w64 (by omega) (by omega)
  have a3 : wrap64 (Int.tdiv n 36524) = n / 36524 := by rw [Int.tdiv_eq_ediv_of_nonneg bn.1]; exact w64 (by omega) (by omega)
  have a4 : wrap64 (n - n / 1460 + n / 36524) = n - n / 1460 + n / 36524 := w64 (by omega) (by omega)
  have a5 : wrap64 (Int.tdiv n 146096) = n / 146096 := by rw [Int.tdiv_eq_ediv_of_nonneg bn.1]; exact w64 (by omega) (by omega)
  have a6 : wrap64 (n - n / 1460 + n / 36524 - n / 146096) = n - n / 1460 + n / 36524 - n / 146096 := w64 (by omega) (by omega)
  have a7 : wrap64 (Int.tdiv (n - n / 1460 + n / 36524 - n / 146096) 365) = Y := by rw [Int.tdiv_eq_ediv_of_nonneg (by omega), ← hY]; exact w64 (by omega) (by omega)
  have a8 : wrap64 (365 * Y) = 365 * Y := w64 (by omega) (by omega)
  have a9 : wrap64 (Int.tdiv Y 4) = Y / 4 := by rw [Int.tdiv_eq_ediv_of_nonneg y0]; exact w64 (by omega) (by omega)
  have a10 : wrap64 (365 * Y + Y / 4) = 365 * Y + Y / 4 := w64 (by omega) (by omega)
  have a11 : wrap64 (Int.tdiv Y 100) = Y / 100 := by rw [Int.tdiv_eq_ediv_of_nonneg y0]; exact w64 (by omega) (by omega)
  have a12 : wrap64 (365 * Y + Y / 4 - Y / 100) = 365 * Y + Y / 4 - Y / 100 := w64 (by omega) (by omega)
  have a13 : wrap64 (n - (365 * Y + Y / 4 - Y / 100)) = r := by rw [er]; exact w64 (by omega) (by omega)
  have a14 : wrap64 (5 * r) = 5 * r := w64 (by omega) (by omega)
  have a15 : wrap64 (5 * r + 2) = 5 * r + 2 := w64 (by omega) (by omega)
  have a16 : wrap64 (Int.tdiv (5 * r + 2) 153) = q := by rw [Int.tdiv_eq_ediv_of_nonneg (by omega), ← hq]; exact w64 (by omega) (by omega)
  have a17 : wrap64 (q + 3) = q + 3 := w64 (by omega) (by omega)
  have a18 : wrap64 (153 * q) = 153 * q := w64 (by omega) (by omega)
  have a19 : wrap64 (153 * q + 2) = 153 * q + 2 := w64 (by omega) (by omega)
  have a20 : wrap64 (Int.tdiv (153 * q + 2) 5) = cm q := by rw [Int.tdiv_eq_ediv_of_nonneg (by omega)]; exact w64 (x := cm q) (by omega) (by omega)
  have a21 : wrap64 (r - cm q) = r - cm q := w64 (by omega) (by omega)
  have a22 : wrap64 (r - cm q + 1) = r - cm q + 1 := w64 (by omega) (by omega)
  have a23 : wrap64 (e * 400) = e * 400 := w64 (by omega) (by omega)
  have a24 : wrap64 (Y + e * 400) = Y + e * 400 := w64 (by omega) (by omega)
  have a25 : wrap64 (Y + e * 400 + 1) = Y + e * 400 + 1 := w64 (by omega) (by omega)
  have a26 : wrap64 (q + 3 - 12) = q - 9 := by rw [show q + 3 - 12 = q - 9 by omega]; exact w64 (by omega) (by omega)
  have hdb : 1 ≤ r - cm q + 1 ∧ r - cm q + 1 ≤ 31 := by unfold cm; omega
  have hM : ∀ y m d : Int, m = (if (5 * r + 2) / 153 + 3 > 12 then (5 * r + 2) / 153 - 9 else (5 * r + 2) / 153 + 3) → y = (if (5 * r + 2) / 153 + 3 > 12 then Y + 400 * e + 4800 + 1 else Y + 400 * e + 4800) - 4800 → d = r - cm ((5 * r + 2) / 153) + 1 → Mar true (D + 2440588) y m d := by
    intro y m d hm hy hd
    have h := Mar.mk' (g := true) (n := D + 2472632) (Y := Y + 400 * e + 4800) (r := r) (by rw [eyd]; omega) (by rw [show Y + 400 * e + 4800 + 1 = (Y + 1) + 400 * e + 4800 by omega, eyd]; omega) (by rw [eyd]; omega) hm hy hd
    have eo : D + 2472632 - off true + 1 = D + 2440588 := by unfold off; simp; omega
    rwa [eo] at h
  rw [← hq] at hM
  unfold zztime_Time_Date.f
  rw [a0, floor_ok _ _ (by omega) (by omega) (by omega) (by omega)]
  simp only [Option.bind_some]
  rw [← he, ← hn]
  simp only [a1, a2, a3, a4, a5, a6, a7, a8, a9, a10, a11, a12, a13, a14, a15, a16, a17, a18, a19, a20, a21, a22, a23, a24, a25, a26]
  by_cases c : q + 3 > 12
  · rw [if_pos c]
    refine ⟨_, _, _, rfl, hM _ _ _ (by rw [if_pos c]) (by rw [if_pos c]; omega) rfl, by omega, by omega, by omega, by omega⟩
  · rw [if_neg c]
    refine ⟨_, _, _, rfl, hM _ _ _ (by rw [if_neg c]) (by rw [if_neg c]; omega) rfl, by omega, by omega, by omega, by omega⟩
end Go.Proofs.Ytbblgpgjgkmcbaa.Jr
