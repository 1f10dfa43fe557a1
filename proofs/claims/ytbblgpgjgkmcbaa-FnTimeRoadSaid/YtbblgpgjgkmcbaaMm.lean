/- What the functions of a calendar compute: the moments of numbers; and the law FnMoments. No condition. -/
import Derived.Test.YtbblgpgjgkmcbaaJrd
import Derived.Test.YtbblgpgjgkmcbaaMw
namespace Go.Proofs.Ytbblgpgjgkmcbaa.Jr
open Go.RowKit Go.Proofs.Ytbblgpgjgkmcbaa.PJro Go.Proofs.YtbblgpgjgkmcbaaW.PrintWords Go.Proofs.YtbblgpgjgkmcbaaW.PrintLast
open Jul

theorem mar_pos' {g : Bool} {n y m d : Int} (h : Mar g n y m d) (hn : 0 ≤ n) : 0 ≤ y + 4800 - (14 - m) / 12 := by
  obtain ⟨_, _, lo, hi, _, _⟩ := h
  by_cases c : 0 ≤ y + 4800 - (14 - m) / 12
  · exact c
  · have := yd_mono g (show y + 4800 - (14 - m) / 12 + 1 ≤ 0 by omega)
    have e : yd g 0 = 0 := by cases g <;> decide
    have o : 32045 ≤ off g := by cases g <;> decide
    omega
/-- g is the Julian day, by the Gregorian calendar, of the date that the Julian day n has. -/
def Greg (n g : Int) : Prop := ∃ y m d, Mar (decide (n ≥ 2299161)) n y m d ∧ g = jd y m d true
theorem Greg.unique {n g g' : Int} (h : Greg n g) (h' : Greg n g') : g = g' := by
  obtain ⟨y, m, d, a, rfl⟩ := h
  obtain ⟨y', m', d', a', rfl⟩ := h'
  obtain ⟨rfl, rfl, rfl⟩ := a.unique a'
  rfl
theorem greg_24 : Greg 1721424 1721426 := ⟨1, 1, 1, by constructor <;> decide, by decide⟩
theorem greg_23 : Greg 1721423 1721425 := ⟨0, 12, 31, by constructor <;> decide, by decide⟩
theorem greg_bd {n g : Int} (h : Greg n g) (hn0 : 0 ≤ n) (hn1 : n ≤ 10000000) : -1000 ≤ g ∧ g ≤ 10001000 := by
  obtain ⟨y, m, d, i1, rfl⟩ := h
  have hb := rich_bd i1 hn0 hn1
  have hp := mar_pos' i1 hn0
  by_cases c : n ≥ 2299161
  · have := jd_mar i1
    rw [show decide (n ≥ 2299161) = true by simpa using c] at this
    omega
  · have ey := jd_mar i1
    rw [show decide (n ≥ 2299161) = false by simp; omega] at ey
    have m1 := i1.m1; have m2 := i1.m2
    have bC : 0 ≤ cm (m + 12 * ((14 - m) / 12) - 3) ∧ cm (m + 12 * ((14 - m) / 12) - 3) ≤ 340 := by unfold cm; omega
    unfold jd at ey ⊢
    obtain ⟨Y, hY⟩ : ∃ Y, Y = y + 4800 - (14 - m) / 12 := ⟨_, rfl⟩
    rw [← hY] at ey hp ⊢
    clear hY i1
    unfold yd off at ey ⊢
    simp at ey ⊢
    omega
theorem dtt (n : Int) (hn0 : 0 ≤ n) (hn1 : n ≤ 10000000) : ∃ g, Greg n g ∧ julian_DayToTime.f n = some (g - 2440588, 0) := by
  obtain ⟨y, m, d, h, e⟩ := dayToTime_ok n hn0 hn1
  exact ⟨_, ⟨y, m, d, h, rfl⟩, e⟩
theorem jdo (n : Int) (hn0 : 0 ≤ n) (hn1 : n ≤ 10000000) : ∃ g K, Greg n g ∧ ∀ k, K ≤ k → ∃ Y M D, Mar true g Y M D ∧ spec_JuDateOf.f k n = some (Y, M, D, 0, 0, 0, 0) := by
  obtain ⟨K, hK⟩ := dateOf_ok n hn0 hn1
  obtain ⟨y, m, d, Y, M, D, i1, i2, e⟩ := hK K (Nat.le_refl _)
  refine ⟨jd y m d true, K, ⟨y, m, d, i1.mar, rfl⟩, fun k hk => ?_⟩
  obtain ⟨y', m', d', Y', M', D', j1, j2, e'⟩ := hK k hk
  obtain ⟨rfl, rfl, rfl⟩ := i1.mar.unique j1.mar
  exact ⟨Y', M', D', j2.mar, e'⟩

theorem add_pos (D x : Int) (d0 : -100000000 ≤ D) (d1 : D ≤ 100000000) (x0 : 0 ≤ x) (x1 : x < 86400000000000) : zztime_Time_Add.f D 0 x = some (D, x) := by
  unfold zztime_Time_Add.f
  have e1 : Int.tmod x 86400000000000 = x := by rw [Int.tmod_eq_emod_of_nonneg x0]; omega
  have e2 : Int.tdiv x 86400000000000 = 0 := by rw [Int.tdiv_eq_ediv_of_nonneg x0]; omega
  have e3 : wrap64 (0 + x) = x := by rw [w64 (by omega) (by omega)]; omega
  rw [e1, e2, e3, floor_ok _ _ (by omega) (by omega) (by omega) (by omega)]
  simp only [Option.bind_some]
  rw [show x / 86400000000000 = 0 by omega, show x % 86400000000000 = x by omega, w64 (x := D + 0) (by omega) (by omega), show wrap64 0 = 0 by decide +kernel, w64 (by omega) (by omega)]
  simp
theorem add_neg (D x : Int) (d0 : -100000000 ≤ D) (d1 : D ≤ 100000000) (x0 : -86400000000000 < x) (x1 : x < 0) : zztime_Time_Add.f D 0 x = some (D - 1, 86400000000000 + x) := by
  unfold zztime_Time_Add.f
  have e1 : Int.tmod x 86400000000000 = x := by rw [tmod_neg x1 (by omega)]; omega
  have e2 : Int.tdiv x 86400000000000 = 0 := by rw [tdiv_neg x1 (by omega)]; omega
  have e3 : wrap64 (0 + x) = x := by rw [w64 (by omega) (by omega)]; omega
  rw [e1, e2, e3, floor_ok _ _ (by omega) (by omega) (by omega) (by omega)]
  simp only [Option.bind_some]
  rw [show x / 86400000000000 = -1 by omega, show x % 86400000000000 = 86400000000000 + x by omega, w64 (x := D + -1) (by omega) (by omega), show wrap64 0 = 0 by decide +kernel, w64 (by omega) (by omega)]
  congr 2
  omega

/-- The moment so many units (u in a day, each c nanoseconds) behind the beginning of the year 1. -/
theorem behind (n u c : Int) (hone : 1 < u) (hc : 0 < c) (huc : u * c = 86400000000000) (hu1 : u ≤ 864000000000) (n0 : -1 ≤ n) (n1 : n / u ≤ 3700000) (hn1 : n ≤ 4000000000000000000) :
    ∃ g, Greg (1721424 + n / u) g ∧
    ((encoding_convertDaydateToTime.f (wrap64 ((wrap64 (Int.tdiv n u)) + 1))).bind fun bt248 => ((zztime_Time_Add.f bt248.1 bt248.2 (wrap64 ((Int.tmod n u) * c))).bind fun bt251 => (some (bt251.1, bt251.2)))) = some (g - 2440588, n % u * c) := by
  have hu : 0 < u := by omega
  have hmc : ∀ x : Int, 0 ≤ x → x < u → 0 ≤ x * c ∧ x * c < 86400000000000 := by
    intro x x0 x1
    refine ⟨Int.mul_nonneg x0 (by omega), ?_⟩
    have h1 : (x + 1) * c ≤ u * c := Int.mul_le_mul_of_nonneg_right (by omega) (by omega)
    rw [Int.add_mul] at h1
    omega
  by_cases h : 0 ≤ n
  · have q0 := Int.ediv_nonneg h (show 0 ≤ u by omega)
    have r0 := Int.emod_nonneg n (show u ≠ 0 by omega)
    have r1 := Int.emod_lt_of_pos n hu
    obtain ⟨b0, b1⟩ := hmc (n % u) r0 r1
    obtain ⟨g, hg, e⟩ := dtt (1721424 + n / u) (by omega) (by omega)
    have gb := greg_bd hg (by omega) (by omega)
    refine ⟨g, hg, ?_⟩
    rw [Int.tdiv_eq_ediv_of_nonneg h, Int.tmod_eq_emod_of_nonneg h, w64 (x := n / u) (by omega) (by omega), w64 (x := n / u + 1) (by omega) (by omega)]
    unfold encoding_convertDaydateToTime.f
    rw [w64 (x := n / u + 1 + 1721423) (by omega) (by omega), show n / u + 1 + 1721423 = 1721424 + n / u by omega, e, w64 (x := n % u * c) (by omega) (by omega)]
    simp only [Option.bind_some]
    rw [add_pos _ _ (by omega) (by omega) b0 b1]
    rfl
  · obtain rfl : n = -1 := by omega
    have hq : (-1 : Int) / u = -1 := by
      rw [neg_ediv hu]
      have e1 : (- -1 : Int) = 1 := by omega
      rw [e1]
      by_cases u1 : u = 1
      · subst u1; decide
      · rw [Int.ediv_eq_zero_of_lt (by omega) (by omega), Int.emod_eq_of_lt (by omega) (by omega)]; decide
    have hr : (-1 : Int) % u = u - 1 := by
      have := Int.mul_ediv_add_emod (-1) u
      rw [hq] at this
      omega
    rw [hq, hr]
    refine ⟨1721425, greg_23, ?_⟩
    have e24 : julian_DayToTime.f 1721424 = some (1721426 - 2440588, 0) := by
      obtain ⟨g, hg, e⟩ := dtt 1721424 (by omega) (by omega)
      rw [e, hg.unique greg_24]
    have hb : (u - 1) * c = 86400000000000 - c := by rw [Int.sub_mul]; omega
    have h2 := hone
    · have t1 : Int.tdiv (-1) u = 0 := by rw [tdiv_neg (by omega) hu]; rw [Int.ediv_eq_zero_of_lt (by omega) (by omega)]; rfl
      have t2 : Int.tmod (-1) u = -1 := by rw [tmod_neg (by omega) hu]; rw [Int.emod_eq_of_lt (by omega) (by omega)]; rfl
      have cb : c < 86400000000000 := by
        have : 1 * c < u * c := Int.mul_lt_mul_of_pos_right h2 hc
        omega
      rw [t1, t2, show wrap64 0 = 0 by decide +kernel, show wrap64 (0 + 1) = 1 by decide +kernel]
      unfold encoding_convertDaydateToTime.f
      rw [show wrap64 (1 + 1721423) = 1721424 by decide +kernel, e24, w64 (x := -1 * c) (by omega) (by omega)]
      simp only [Option.bind_some]
      rw [add_neg _ _ (by omega) (by omega) (by omega) (by omega), hb]
      simp only [Option.bind_some]
      congr 2
      omega

/-- The moment of nanoseconds of a day, told as numbers. -/
theorem back_ok (g x : Int) (g0 : -1000 ≤ g) (g1 : g ≤ 10001000) (x0 : 0 ≤ x) (x1 : x < 86400000000000) : ∃ Y M D, Mar true g Y M D ∧
    impl_timeBack.f (g - 2440588) x = some (Y, M, D, x / 3600000000000, x / 60000000000 % 60, x / 1000000000 % 60, x % 1000000000) := by
  obtain ⟨y, m, d, h1, h2, _⟩ := timeBack_ok (g - 2440588) (x / 3600000000000) (x / 60000000000 % 60) (x / 1000000000 % 60) (x % 1000000000) (by omega) (by omega) (by omega) (by omega) (by omega) (by omega) (by omega) (by omega) (by omega) (by omega)
  rw [show g - 2440588 + 2440588 = g by omega] at h2
  have e : ((x / 3600000000000 * 60 + x / 60000000000 % 60) * 60 + x / 1000000000 % 60) * 1000000000 + x % 1000000000 = x := by omega
  rw [e] at h1
  exact ⟨y, m, d, h2, h1⟩

theorem long_ok (k : Nat) (hk : 1 ≤ k) (L : Int) (L0 : 0 ≤ L) (L1 : L ≤ 3155380704000000000) : ∃ g Y M D, Greg (1721424 + (L - 1) / 864000000000) g ∧ Mar true g Y M D ∧
    impl_LongdateTime.f k L = some (Y, M, D, (L - 1) % 864000000000 * 100 / 3600000000000, (L - 1) % 864000000000 * 100 / 60000000000 % 60, (L - 1) % 864000000000 * 100 / 1000000000 % 60, (L - 1) % 864000000000 * 100 % 1000000000, 0) := by
  obtain ⟨k, rfl⟩ : ∃ j, k = j + 1 := ⟨k - 1, by omega⟩
  obtain ⟨g, hg, e⟩ := behind (L - 1) 864000000000 100 (by omega) (by omega) (by omega) (by omega) (by omega) (by omega) (by omega)
  have gb := greg_bd hg (by omega) (by omega)
  obtain ⟨Y, M, D, hm, eb⟩ := back_ok g ((L - 1) % 864000000000 * 100) gb.1 gb.2 (by omega) (by omega)
  refine ⟨g, Y, M, D, hg, hm, ?_⟩
  unfold impl_LongdateTime.f
  rw [if_neg (by omega)]
  simp only [impl_LongdateTime.j0]
  unfold encoding_ZzLongdate.f encoding_convertLongdateToTime.f
  rw [if_neg (by simp; omega), w64 (x := L - 1) (by omega) (by omega), e]
  simp only [Option.bind_some]
  rw [eb]
  rfl
theorem second_ok (k : Nat) (hk : 1 ≤ k) (L : Int) (L0 : 0 ≤ L) (L1 : L < 315538070400) : ∃ g Y M D, Greg (1721424 + (L - 1) / 86400) g ∧ Mar true g Y M D ∧
    impl_SeconddateTime.f k L = some (Y, M, D, (L - 1) % 86400 * 1000000000 / 3600000000000, (L - 1) % 86400 * 1000000000 / 60000000000 % 60, (L - 1) % 86400 * 1000000000 / 1000000000 % 60, (L - 1) % 86400 * 1000000000 % 1000000000, 0) := by
  obtain ⟨k, rfl⟩ : ∃ j, k = j + 1 := ⟨k - 1, by omega⟩
  obtain ⟨g, hg, e⟩ := behind (L - 1) 86400 1000000000 (by omega) (by omega) (by omega) (by omega) (by omega) (by omega) (by omega)
  have gb := greg_bd hg (by omega) (by omega)
  obtain ⟨Y, M, D, hm, eb⟩ := back_ok g ((L - 1) % 86400 * 1000000000) gb.1 gb.2 (by omega) (by omega)
  refine ⟨g, Y, M, D, hg, hm, ?_⟩
  unfold impl_SeconddateTime.f
  rw [if_neg (by omega)]
  simp only [impl_SeconddateTime.j0]
  unfold encoding_ZzSeconddate.f encoding_convertSeconddateToTime.f
  rw [if_neg (by simp; omega), w64 (x := L - 1) (by omega) (by omega), e]
  simp only [Option.bind_some]
  rw [eb]
  rfl
theorem day_ok (k : Nat) (hk : 1 ≤ k) (D : Int) (D0 : 0 ≤ D) (D1 : D ≤ 3652100) : ∃ g Y M d, Greg (1721423 + D) g ∧ Mar true g Y M d ∧ impl_DaydateTime.f k D = some (Y, M, d, 0, 0, 0, 0, 0) := by
  obtain ⟨k, rfl⟩ : ∃ j, k = j + 1 := ⟨k - 1, by omega⟩
  obtain ⟨g, hg, e⟩ := dtt (1721423 + D) (by omega) (by omega)
  have gb := greg_bd hg (by omega) (by omega)
  obtain ⟨Y, M, d, hm, eb⟩ := back_ok g 0 gb.1 gb.2 (by omega) (by omega)
  refine ⟨g, Y, M, d, hg, hm, ?_⟩
  unfold impl_DaydateTime.f
  rw [if_neg (by omega)]
  simp only [impl_DaydateTime.j0]
  unfold encoding_ZzDaydate.f encoding_convertDaydateToTime.f
  rw [if_neg (by simp; omega), w64 (x := D + 1721423) (by omega) (by omega), show D + 1721423 = 1721423 + D by omega, e]
  simp only [Option.bind_some]
  rw [eb]
  rfl
theorem clock_ok (k : Nat) (hk : 1 ≤ k) (T : Int) (T0 : 0 ≤ T) (T1 : T ≤ 86400) : ∃ g Y M D, Greg (1721424 + (T - 1) / 86400) g ∧ Mar true g Y M D ∧
    impl_SecondtimeTime.f k T = some (Y, M, D, (T - 1) % 86400 * 1000000000 / 3600000000000, (T - 1) % 86400 * 1000000000 / 60000000000 % 60, (T - 1) % 86400 * 1000000000 / 1000000000 % 60, (T - 1) % 86400 * 1000000000 % 1000000000, 0) := by
  obtain ⟨k, rfl⟩ : ∃ j, k = j + 1 := ⟨k - 1, by omega⟩
  have ed : zztime_Date.f 1 1 1 0 0 0 0 0 = some (1721426 - 2440588, 0) := by decide +kernel
  have hs : ∃ g, Greg (1721424 + (T - 1) / 86400) g ∧ zztime_Time_Add.f (1721426 - 2440588) 0 ((T - 1) * 1000000000) = some (g - 2440588, (T - 1) % 86400 * 1000000000) := by
    by_cases c : T = 0
    · subst c
      refine ⟨1721425, by simpa using greg_23, ?_⟩
      rw [add_neg _ _ (by omega) (by omega) (by omega) (by omega)]
      rfl
    · refine ⟨1721426, by rw [show (T - 1) / 86400 = 0 by omega]; exact greg_24, ?_⟩
      rw [add_pos _ _ (by omega) (by omega) (by omega) (by omega), show (T - 1) % 86400 = T - 1 by omega]
  obtain ⟨g, hg, e⟩ := hs
  have gb := greg_bd hg (by omega) (by omega)
  obtain ⟨Y, M, D, hm, eb⟩ := back_ok g ((T - 1) % 86400 * 1000000000) gb.1 gb.2 (by omega) (by omega)
  refine ⟨g, Y, M, D, hg, hm, ?_⟩
  unfold impl_SecondtimeTime.f
  rw [if_neg (by omega)]
  simp only [impl_SecondtimeTime.j0]
  unfold encoding_ZzSecondtime.f encoding_convertSecondtimeToTime.f
  rw [if_neg (by simp; omega), ed]
  simp only [Option.bind_some]
  rw [w64 (x := T - 1) (by omega) (by omega), w64 (x := (T - 1) * 1000000000) (by omega) (by omega), e]
  simp only [Option.bind_some]
  rw [eb]
  rfl

/-- The reference's moment. -/
theorem moment_ok (n sc c : Int) (hs : 0 < sc) (hs1 : sc ≤ 10000000) (hc : sc * c = 1000000000) (n0 : -1 ≤ n) (n1 : n / (86400 * sc) ≤ 3700000) (n2 : n ≤ 4000000000000000000) {g Y M D : Int} (hg : Greg (1721424 + n / (86400 * sc)) g) (hm : Mar true g Y M D) (w : World) :
    Calls Try.prog 22 #[.int .i64 n, .int .i64 sc] w fun e w' =>
      e = .returned (.agg #[.int .i64 Y, .int .i64 M, .int .i64 D, .int .i64 (n % (86400 * sc) / sc / 3600), .int .i64 (n % (86400 * sc) / sc / 60 % 60), .int .i64 (n % (86400 * sc) / sc % 60), .int .i64 (n % (86400 * sc) % sc * c)]) ∧ Below w.heap.size w w' := by
  have wu : wrap64 (86400 * sc) = 86400 * sc := w64 (by omega) (by omega)
  obtain ⟨u, hu⟩ : ∃ u, u = 86400 * sc := ⟨_, rfl⟩
  have up : 0 < u ∧ u ≤ 864000000000 := by omega
  have r0 := Int.emod_nonneg n (show u ≠ 0 by omega)
  have r1 := Int.emod_lt_of_pos n up.1
  have q := Int.mul_ediv_add_emod n u
  have qb : -1 ≤ n / u := by
    rw [Int.le_ediv_iff_mul_le up.1]; omega
  have ej : jf n u = n / u := by
    unfold jf
    by_cases h : 0 ≤ n
    · rw [Int.tmod_eq_emod_of_nonneg h, Int.tdiv_eq_ediv_of_nonneg h, if_neg (by omega), w64 (by omega) (by rw [← hu] at n1; omega)]
    · obtain rfl : n = -1 := by omega
      rw [tmod_neg (by omega) up.1, tdiv_neg (by omega) up.1]
      have e1 : (- -1 : Int) = 1 := by omega
      rw [e1, Int.ediv_eq_zero_of_lt (by omega) (by omega), Int.emod_eq_of_lt (by omega) (by omega), if_pos (by omega)]
      have : (-1 : Int) / u = -1 := by
        have h1 : u * ((-1) / u) ≤ -1 := by omega
        have h2 : (-1 : Int) / u < 0 := Int.ediv_neg_of_neg_of_pos (by omega) up.1
        omega
      rw [this]
      decide +kernel
  rw [← hu] at n1 hg
  obtain ⟨g', K, hg', hK⟩ := jdo (1721424 + n / u) (by omega) (by omega)
  obtain rfl := hg.unique hg'
  obtain ⟨Y', M', D', hm', e⟩ := hK K (Nat.le_refl _)
  obtain ⟨rfl, rfl, rfl⟩ := hm.unique hm'
  have er : wrap64 (n - wrap64 (n / u * u)) = n % u := by
    have : n / u * u = n - n % u := by rw [Int.mul_comm]; omega
    rw [this, w64 (x := n - n % u) (by omega) (by omega), show n - (n - n % u) = n % u by omega, w64 (by omega) (by omega)]
  have h := moment_calls n sc hs Y M D 0 0 0 0 K w (by rw [wu, ← hu, ej, w64 (by omega) (by omega)]; exact e) (by rw [wu]; omega)
  rw [wu, ← hu, ej, er] at h
  have d0 := Int.ediv_nonneg r0 (show 0 ≤ sc by omega)
  have d1 : n % u / sc ≤ n % u := Int.ediv_le_self _ r0
  have m0 := Int.emod_nonneg (n % u) (show sc ≠ 0 by omega)
  have m1 := Int.emod_lt_of_pos (n % u) hs
  have ec : (1000000000 : Int) / sc = c := by rw [← hc]; exact Int.mul_ediv_cancel_left _ (by omega)
  have cb : 0 ≤ n % u % sc * c ∧ n % u % sc * c ≤ 1000000000 := by
    have c0 : 0 ≤ c := by rw [← ec]; exact Int.ediv_nonneg (by omega) (by omega)
    refine ⟨Int.mul_nonneg m0 c0, ?_⟩
    have : n % u % sc * c ≤ sc * c := Int.mul_le_mul_of_nonneg_right (by omega) c0
    omega
  rw [Int.tdiv_eq_ediv_of_nonneg r0, w64 (x := n % u / sc) (by omega) (by omega), Int.tdiv_eq_ediv_of_nonneg d0, Int.tdiv_eq_ediv_of_nonneg d0, w64 (x := n % u / sc / 3600) (by omega) (by omega), w64 (x := n % u / sc / 60) (by omega) (by omega),
    Int.tmod_eq_emod_of_nonneg (a := n % u / sc / 60) (by omega), Int.tmod_eq_emod_of_nonneg d0, Int.tmod_eq_emod_of_nonneg r0, ec, w64 (x := n % u % sc * c) (by omega) (by omega)] at h
  rw [← hu]
  exact h

theorem FnMoments (n : Int) (w : World) : Calls Try.prog 7 #[.int .i64 n] w fun e w' => e = .returned (.bool true) ∧ Below w.heap.size w w' := by
  obtain ⟨L, hL⟩ : ∃ L, L = wrap64 (Int.tmod (IntKind.u64.wrap n) 3155380704000000001) := ⟨_, rfl⟩
  have hu : 0 ≤ IntKind.u64.wrap n := by simp only [IntKind.wrap_u64]; omega
  have bL : 0 ≤ L ∧ L ≤ 3155380704000000000 := by
    rw [Int.tmod_eq_emod_of_nonneg hu, w64 (by omega) (by omega)] at hL
    omega
  obtain ⟨S, hS⟩ : ∃ S, S = Int.tmod L 315538070400 := ⟨_, rfl⟩
  obtain ⟨D, hD⟩ : ∃ D, D = Int.tmod L 3652061 := ⟨_, rfl⟩
  obtain ⟨T, hT⟩ : ∃ T, T = Int.tmod L 86401 := ⟨_, rfl⟩
  have bS : 0 ≤ S ∧ S < 315538070400 := by rw [Int.tmod_eq_emod_of_nonneg bL.1] at hS; omega
  have bD : 0 ≤ D ∧ D ≤ 3652060 := by rw [Int.tmod_eq_emod_of_nonneg bL.1] at hD; omega
  have bT : 0 ≤ T ∧ T ≤ 86400 := by rw [Int.tmod_eq_emod_of_nonneg bL.1] at hT; omega
  obtain ⟨ga, Ya, Ma, Da, hga, hma, ea⟩ := long_ok 1 (by omega) L bL.1 bL.2
  obtain ⟨gb, Yb, Mb, Db, hgb, hmb, eb⟩ := second_ok 1 (by omega) S bS.1 bS.2
  obtain ⟨gc, Yc, Mc, Dc, hgc, hmc, ec⟩ := day_ok 1 (by omega) D bD.1 (by omega)
  obtain ⟨gd, Yd, Md, Dd, hgd, hmd, ed⟩ := clock_ok 1 (by omega) T bT.1 bT.2
  obtain ⟨gc', K, hgc', hK⟩ := jdo (1721423 + D) (by omega) (by omega)
  obtain rfl := hgc.unique hgc'
  obtain ⟨Y', M', D', hm', ec'⟩ := hK K (Nat.le_refl _)
  obtain ⟨rfl, rfl, rfl⟩ := hmc.unique hm'
  refine moments_walk n L S D T w _ _ _ _ _ _ _ _ _ _ _ _ _ _ _ _ _ _ _ _ _ _ _ _ _ _ _ _ 1 hL hS hD hT ea eb ec ed ?_ ?_ ?_ ?_
  · intro w
    have h := moment_ok (L - 1) 10000000 100 (by omega) (by omega) (by omega) (by omega) (by omega) (by omega) (g := ga) hga hma w
    rw [w64 (x := L - 1) (by omega) (by omega)]
    have e1 : (L - 1) % (86400 * 10000000) / 10000000 / 3600 = (L - 1) % 864000000000 * 100 / 3600000000000 := by omega
    have e2 : (L - 1) % (86400 * 10000000) / 10000000 / 60 % 60 = (L - 1) % 864000000000 * 100 / 60000000000 % 60 := by omega
    have e3 : (L - 1) % (86400 * 10000000) / 10000000 % 60 = (L - 1) % 864000000000 * 100 / 1000000000 % 60 := by omega
    have e4 : (L - 1) % (86400 * 10000000) % 10000000 * 100 = (L - 1) % 864000000000 * 100 % 1000000000 := by omega
    rw [e1, e2, e3, e4] at h
    exact h
  · intro w
    have h := moment_ok (S - 1) 1 1000000000 (by omega) (by omega) (by omega) (by omega) (by omega) (by omega) (g := gb) hgb hmb w
    rw [w64 (x := S - 1) (by omega) (by omega)]
    have e1 : (S - 1) % (86400 * 1) / 1 / 3600 = (S - 1) % 86400 * 1000000000 / 3600000000000 := by omega
    have e2 : (S - 1) % (86400 * 1) / 1 / 60 % 60 = (S - 1) % 86400 * 1000000000 / 60000000000 % 60 := by omega
    have e3 : (S - 1) % (86400 * 1) / 1 % 60 = (S - 1) % 86400 * 1000000000 / 1000000000 % 60 := by omega
    have e4 : (S - 1) % (86400 * 1) % 1 * 1000000000 = (S - 1) % 86400 * 1000000000 % 1000000000 := by omega
    rw [e1, e2, e3, e4] at h
    exact h
  · intro w
    rw [w64 (x := 1721424 + D) (by omega) (by omega), w64 (x := 1721424 + D - 1) (by omega) (by omega), show 1721424 + D - 1 = 1721423 + D by omega]
    exact spec_JuDateOf.calls K _ _ _ _ _ _ _ _ w ec'
  · intro w
    have h := moment_ok (T - 1) 1 1000000000 (by omega) (by omega) (by omega) (by omega) (by omega) (by omega) (g := gd) hgd hmd w
    rw [w64 (x := T - 1) (by omega) (by omega)]
    have e1 : (T - 1) % (86400 * 1) / 1 / 3600 = (T - 1) % 86400 * 1000000000 / 3600000000000 := by omega
    have e2 : (T - 1) % (86400 * 1) / 1 / 60 % 60 = (T - 1) % 86400 * 1000000000 / 60000000000 % 60 := by omega
    have e3 : (T - 1) % (86400 * 1) / 1 % 60 = (T - 1) % 86400 * 1000000000 / 1000000000 % 60 := by omega
    have e4 : (T - 1) % (86400 * 1) % 1 * 1000000000 = (T - 1) % 86400 * 1000000000 % 1000000000 := by omega
    rw [e1, e2, e3, e4] at h
    exact h
end Go.Proofs.Ytbblgpgjgkmcbaa.Jr
