/- The law FnTimeRoad: a moment is read back from its numbers. No condition. -/
import Derived.Test.YtbblgpgjgkmcbaaJrf
import Derived.Test.YtbblgpgjgkmcbaaMm
import Derived.Test.YtbblgpgjgkmcbaaRw
namespace Go.Proofs.Ytbblgpgjgkmcbaa.Jr
open Go.RowKit Go.Proofs.Ytbblgpgjgkmcbaa.PJro Go.Proofs.YtbblgpgjgkmcbaaW.PrintWords Go.Proofs.YtbblgpgjgkmcbaaW.PrintLast
open Jul

theorem core {Y M D H I S N J : Int} (F : Fine H I S N) (i : Mar true J Y M D) (J0 : 2299161 ≤ J) (J1 : J ≤ 5373400) (y0 : 1 ≤ Y) (y1 : Y ≤ 9999) (k : Nat) (hk : 1 ≤ k) :
    ∃ L SS DD TT, impl_TimeNumbers.f k Y M D H I S N = some (L, SS, DD, TT, 0) ∧
      impl_LongdateTime.f k L = some (Y, M, D, H, I, S, wrap64 (N - Int.tmod N 100), 0) ∧ impl_SeconddateTime.f k SS = some (Y, M, D, H, I, S, 0, 0) ∧
      impl_DaydateTime.f k DD = some (Y, M, D, 0, 0, 0, 0, 0) ∧ impl_SecondtimeTime.f k TT = some (1, 1, 1, H, I, S, 0, 0) := by
  have ej : jd Y M D true = J := jd_mar i
  have hg : Greg J J := ⟨Y, M, D, by rw [show decide (J ≥ 2299161) = true by simpa using J0]; exact i, ej.symm⟩
  have en := numbers_ok F (by rw [ej]; exact i) y0 y1 (by omega) (by omega) k hk J (by rw [ej, show decide (2299161 ≤ J) = true by simpa using J0, ej]) (by omega)
  obtain ⟨f0, f1, f2, f3, f4, f5, f6, f7⟩ := F
  obtain ⟨c, hc⟩ : ∃ c, c = (H * 60 + I) * 60 + S := ⟨_, rfl⟩
  obtain ⟨q, hq⟩ : ∃ q, q = N / 100 := ⟨_, rfl⟩
  have cb : 0 ≤ c ∧ c < 86400 := by omega
  have qb : 0 ≤ q ∧ q < 10000000 := by omega
  have hL : (((J - 1721424) * 24 + H) * 60 + I) * 60 * 10000000 + S * 10000000 + N / 100 + 1 = ((J - 1721424) * 86400 + c) * 10000000 + q + 1 := by omega
  have hS : (((J - 1721424) * 24 + H) * 60 + I) * 60 + S + 1 = (J - 1721424) * 86400 + c + 1 := by omega
  have hT : (H * 60 + I) * 60 + S + 1 = c + 1 := by omega
  rw [hL, hS, hT] at en
  obtain ⟨ga, Ya, Ma, Da, hga, hma, ea⟩ := long_ok k hk (((J - 1721424) * 86400 + c) * 10000000 + q + 1) (by omega) (by omega)
  obtain ⟨gb, Yb, Mb, Db, hgb, hmb, eb⟩ := second_ok k hk ((J - 1721424) * 86400 + c + 1) (by omega) (by omega)
  obtain ⟨gc, Yc, Mc, Dc, hgc, hmc, ec⟩ := day_ok k hk (J - 1721423) (by omega) (by omega)
  obtain ⟨gd, Yd, Md, Dd, hgd, hmd, ed⟩ := clock_ok k hk (c + 1) (by omega) (by omega)
  rw [show 1721424 + (((J - 1721424) * 86400 + c) * 10000000 + q + 1 - 1) / 864000000000 = J by omega] at hga
  rw [show 1721424 + ((J - 1721424) * 86400 + c + 1 - 1) / 86400 = J by omega] at hgb
  rw [show 1721423 + (J - 1721423) = J by omega] at hgc
  rw [show 1721424 + (c + 1 - 1) / 86400 = 1721424 by omega] at hgd
  obtain rfl := hg.unique hga
  obtain rfl := hg.unique hgb
  obtain rfl := hg.unique hgc
  obtain rfl := greg_24.unique hgd
  obtain ⟨rfl, rfl, rfl⟩ := i.unique hma
  obtain ⟨rfl, rfl, rfl⟩ := i.unique hmb
  obtain ⟨rfl, rfl, rfl⟩ := i.unique hmc
  obtain ⟨rfl, rfl, rfl⟩ := (show Mar true 1721426 1 1 1 by constructor <;> decide).unique hmd
  refine ⟨_, _, _, _, en, ?_, ?_, ec, ?_⟩
  · rw [ea]
    have e0 : (((J - 1721424) * 86400 + c) * 10000000 + q + 1 - 1) % 864000000000 = c * 10000000 + q := by omega
    have ew : wrap64 (N - Int.tmod N 100) = q * 100 := by rw [Int.tmod_eq_emod_of_nonneg f6, w64 (by omega) (by omega)]; omega
    rw [e0, ew, show (c * 10000000 + q) * 100 / 3600000000000 = H by omega, show (c * 10000000 + q) * 100 / 60000000000 % 60 = I by omega, show (c * 10000000 + q) * 100 / 1000000000 % 60 = S by omega, show (c * 10000000 + q) * 100 % 1000000000 = q * 100 by omega]
  · rw [eb]
    have e0 : ((J - 1721424) * 86400 + c + 1 - 1) % 86400 = c := by omega
    rw [e0, show c * 1000000000 / 3600000000000 = H by omega, show c * 1000000000 / 60000000000 % 60 = I by omega, show c * 1000000000 / 1000000000 % 60 = S by omega, show c * 1000000000 % 1000000000 = 0 by omega]
  · rw [ed]
    have e0 : (c + 1 - 1) % 86400 = c := by omega
    rw [e0, show c * 1000000000 / 3600000000000 = H by omega, show c * 1000000000 / 60000000000 % 60 = I by omega, show c * 1000000000 / 1000000000 % 60 = S by omega, show c * 1000000000 % 1000000000 = 0 by omega]

/-- The days of the years 1583 to 9996. -/
theorem near_road {y mo d h mi s n : Int} (mo0 : 1 ≤ mo) (mo1 : mo ≤ 12) (d0 : 1 ≤ d) (d1 : d ≤ 28) (H : -40 < h ∧ h < 40 ∧ -100 < mi ∧ mi < 100 ∧ -100 < s ∧ s < 100 ∧ -3000000000 < n ∧ n < 3000000000) (y0 : 1583 ≤ y) (y1 : y ≤ 9996) :
    2299236 ≤ jday y mo d h mi s n ∧ jday y mo d h mi s n ≤ 5372700 := by
  have b1 : -105 ≤ sec s n ∧ sec s n ≤ 105 := by unfold sec; omega
  have b2 : -105 ≤ min mi s n ∧ min mi s n ≤ 105 := by unfold min; omega
  have b3 : -42 ≤ hour h mi s n ∧ hour h mi s n ≤ 42 := by unfold hour; omega
  have b4 : -1 ≤ dday d h mi s n ∧ dday d h mi s n ≤ 29 := by unfold dday; omega
  have e1 : (mo - 1) / 12 = 0 := by omega
  unfold jday
  rw [e1]
  rw [show y + 0 = y by omega, show mo - 12 * 0 = mo by omega]
  have bC : (14 - mo) / 12 = 1 ∧ 306 ≤ cm (mo + 12 * ((14 - mo) / 12) - 3) ∧ cm (mo + 12 * ((14 - mo) / 12) - 3) ≤ 340 ∨ (14 - mo) / 12 = 0 ∧ 0 ≤ cm (mo + 12 * ((14 - mo) / 12) - 3) ∧ cm (mo + 12 * ((14 - mo) / 12) - 3) ≤ 280 := by
    unfold cm; omega
  unfold jd
  obtain ⟨Z, hZ⟩ : ∃ Z, Z = y + 4800 - (14 - mo) / 12 := ⟨_, rfl⟩
  have z1 : yd true 6382 = 2330977 := by decide
  have z2 : yd true 6383 = 2331342 := by decide
  have z3 : yd true 14795 = 5403762 := by decide
  have z4 : yd true 14796 = 5404128 := by decide
  have ho : off true = 32045 := rfl
  rw [← hZ, ho]
  rcases bC with ⟨c1, c2, c3⟩ | ⟨c1, c2, c3⟩
  · have : yd true 6382 ≤ yd true Z := yd_mono true (by omega)
    have : yd true Z ≤ yd true 14795 := yd_mono true (by omega)
    omega
  · have : yd true 6383 ≤ yd true Z := yd_mono true (by omega)
    have : yd true Z ≤ yd true 14796 := yd_mono true (by omega)
    omega

theorem FnTimeRoad (y mo d h mi s n : Int) (w : World) : Calls Try.prog 8 #[.agg #[.int .i64 y, .int .i64 mo, .int .i64 d, .int .i64 h, .int .i64 mi, .int .i64 s, .int .i64 n]] w fun e w' => e = .returned (.bool true) ∧ Below w.heap.size w w' := by
  obtain ⟨y1, o1, d1, h1, i1, s1, n1, ej, q0, q1, r0, r1, r2, r3, r4⟩ := juTime_ok y mo d h mi s n
  have hu : 0 ≤ IntKind.u64.wrap y := by simp only [IntKind.wrap_u64]; omega
  obtain ⟨u, eu⟩ : ∃ u, u = IntKind.u64.wrap y % 8414 := ⟨_, rfl⟩
  have eY : wrap64 (1583 + wrap64 (Int.tmod (IntKind.u64.wrap y) 8414)) = 1583 + u := by
    rw [Int.tmod_eq_emod_of_nonneg hu, ← eu, w64 (x := u) (by omega) (by omega), w64 (by omega) (by omega)]
  have eM : wrap64 (1 + Int.tmod (wrap64 (o1 + 40)) 12) = 1 + (o1 + 40) % 12 := by
    rw [w64 (x := o1 + 40) (by omega) (by omega), Int.tmod_eq_emod_of_nonneg (by omega), w64 (by omega) (by omega)]
  have eD : wrap64 (1 + Int.tmod (wrap64 (d1 + 100)) 28) = 1 + (d1 + 100) % 28 := by
    rw [w64 (x := d1 + 100) (by omega) (by omega), Int.tmod_eq_emod_of_nonneg (by omega), w64 (by omega) (by omega)]
  obtain ⟨Y0, hY0⟩ : ∃ Y0, Y0 = 1583 + u := ⟨_, rfl⟩
  obtain ⟨M0, hM0⟩ : ∃ M0, M0 = 1 + (o1 + 40) % 12 := ⟨_, rfl⟩
  obtain ⟨D0, hD0⟩ : ∃ D0, D0 = 1 + (d1 + 100) % 28 := ⟨_, rfl⟩
  have bY : 1583 ≤ Y0 ∧ Y0 ≤ 9996 := by omega
  have bM : 1 ≤ M0 ∧ M0 ≤ 12 := by omega
  have bD : 1 ≤ D0 ∧ D0 ≤ 28 := by omega
  have bH : -40 < h1 ∧ h1 < 40 ∧ -100 < i1 ∧ i1 < 100 ∧ -100 < s1 ∧ s1 < 100 ∧ -3000000000 < n1 ∧ n1 < 3000000000 := by omega
  rw [← hY0] at eY; rw [← hM0] at eM; rw [← hD0] at eD
  obtain ⟨j0, j1⟩ := near_road bM.1 bM.2 bD.1 bD.2 bH bY.1 bY.2
  have HN : Near Y0 M0 D0 h1 i1 s1 n1 := by constructor <;> omega
  obtain ⟨K, hK⟩ := made_ok HN (by omega) (by omega)
  obtain ⟨Y, M, D, em, im⟩ := hK (K + 1) (by omega)
  rw [← eY, ← eM, ← eD] at em
  obtain ⟨J, hJ⟩ : ∃ J, J = jday Y0 M0 D0 h1 i1 s1 n1 := ⟨_, rfl⟩
  have hm : Mar true J Y M D := by rw [hJ]; exact im.mar
  rw [← hJ] at j0 j1
  rw [eY, eM, eD] at em
  obtain ⟨v0, v1⟩ := year_range hm (by omega) (by omega)
  obtain ⟨h', eh⟩ : ∃ h', h' = hour h1 i1 s1 n1 % 24 := ⟨_, rfl⟩
  obtain ⟨m', em'⟩ : ∃ m', m' = min i1 s1 n1 % 60 := ⟨_, rfl⟩
  obtain ⟨s', es⟩ : ∃ s', s' = sec s1 n1 % 60 := ⟨_, rfl⟩
  obtain ⟨n', en⟩ : ∃ n', n' = n1 % 1000000000 := ⟨_, rfl⟩
  have F : Fine h' m' s' n' := by constructor <;> omega
  rw [← eh, ← em', ← es, ← en] at em
  by_cases c : Y < 1583
  · -- the last days of 1582, a year later
    have hm2 : Y = 1582 ∧ M = 12 ∧ Mar true (J + 365) 1583 M D := by
      have i1 := hm.m1; have i2 := hm.m2; have lo := hm.lo; have hi := hm.hi; have mon := hm.mon; have day := hm.day
      have ho : off true = 32045 := rfl
      have z1 : yd true 6382 = 2330977 := by decide
      have z2 : yd true 6383 = 2331342 := by decide
      have z3 : yd true 6384 = 2331708 := by decide
      rw [ho] at lo hi mon day
      have e1 : Y = 1582 ∧ (14 - M) / 12 = 0 := by
        by_cases c1 : Y + 4800 - (14 - M) / 12 + 1 ≤ 6382
        · have := yd_mono true c1
          omega
        · omega
      obtain ⟨rfl, e2⟩ := e1
      rw [e2, show (1582 : Int) + 4800 - 0 = 6382 by omega] at *
      rw [z1] at lo mon day
      have e3 : M = 12 := by omega
      subst e3
      refine ⟨rfl, rfl, ⟨by omega, by omega, ?_, ?_, ?_, ?_⟩⟩
      · rw [ho, show (1583 : Int) + 4800 - (14 - 12) / 12 = 6383 by decide, z2]; omega
      · rw [ho, show (1583 : Int) + 4800 - (14 - 12) / 12 + 1 = 6384 by decide, z3]; omega
      · rw [ho, show (1583 : Int) + 4800 - (14 - 12) / 12 = 6383 by decide, z2]; omega
      · rw [ho, show (1583 : Int) + 4800 - (14 - 12) / 12 = 6383 by decide, z2]
        rw [show cm (12 + 12 * 0 - 3) = 275 by decide] at day
        rw [show cm (12 + 12 * ((14 - 12) / 12) - 3) = 275 by decide]
        omega
    obtain ⟨L, SS, DD, TT, a1, a2, a3, a4, a5⟩ := core F hm2.2.2 (by omega) (by omega) (by omega) (by omega) (K + 1) (by omega)
    exact road_walk_low y mo d h mi s n w y1 o1 d1 h1 i1 s1 n1 Y M D h' m' s' n' L SS DD TT (K + 1) ej (by rw [eY, eM, eD]; exact em) c a1 a2 a3 a4 a5
  · obtain ⟨L, SS, DD, TT, a1, a2, a3, a4, a5⟩ := core F hm (by omega) (by omega) v0 v1 (K + 1) (by omega)
    exact road_walk y mo d h mi s n w y1 o1 d1 h1 i1 s1 n1 Y M D h' m' s' n' L SS DD TT (K + 1) ej (by rw [eY, eM, eD]; exact em) (by omega) a1 a2 a3 a4 a5
end Go.Proofs.Ytbblgpgjgkmcbaa.Jr
