/- What the functions of a calendar compute: a moment brought into its ranges, by the reference and by the program. No condition beyond their ranges. -/
import Derived.Test.YtbblgpgjgkmcbaaJrb
import Derived.Test.YtbblgpgjgkmcbaaPJrox5
namespace Go.Proofs.Ytbblgpgjgkmcbaa.Jr
open Go.RowKit Go.Proofs.Ytbblgpgjgkmcbaa.PJro Go.Proofs.YtbblgpgjgkmcbaaW.PrintWords Go.Proofs.YtbblgpgjgkmcbaaW.PrintLast
open Jul

/-- Numbers of a moment that are near enough to their ranges. -/
structure Near (y mo d h mi s n : Int) : Prop where
  y0 : -10000 ≤ y
  y1 : y ≤ 30000
  mo0 : -1000000 ≤ mo
  mo1 : mo ≤ 1000000
  d0 : -1000000 ≤ d
  d1 : d ≤ 1000000
  h0 : -1000000 ≤ h
  h1 : h ≤ 1000000
  mi0 : -1000000 ≤ mi
  mi1 : mi ≤ 1000000
  s0 : -1000000 ≤ s
  s1 : s ≤ 1000000
  n0 : -1125899906842624 ≤ n
  n1 : n ≤ 1125899906842624
def sec (s n : Int) : Int := s + n / 1000000000
def min (mi s n : Int) : Int := mi + sec s n / 60
def hour (h mi s n : Int) : Int := h + min mi s n / 60
def dday (d h mi s n : Int) : Int := d + hour h mi s n / 24
/-- The Julian day of a moment. -/
def jday (y mo d h mi s n : Int) : Int := jd (y + (mo - 1) / 12) (mo - 12 * ((mo - 1) / 12)) 1 true + dday d h mi s n - 1

theorem Near.sec {y mo d h mi s n : Int} (H : Near y mo d h mi s n) : -3000000 ≤ sec s n ∧ sec s n ≤ 3000000 := by
  have := H.s0; have := H.s1; have := H.n0; have := H.n1; unfold Jr.sec; omega
theorem Near.min {y mo d h mi s n : Int} (H : Near y mo d h mi s n) : -3000000 ≤ min mi s n ∧ min mi s n ≤ 3000000 := by
  have := H.sec; have := H.mi0; have := H.mi1; unfold Jr.min; omega
theorem Near.hour {y mo d h mi s n : Int} (H : Near y mo d h mi s n) : -3000000 ≤ hour h mi s n ∧ hour h mi s n ≤ 3000000 := by
  have := H.min; have := H.h0; have := H.h1; unfold Jr.hour; omega
theorem Near.dday {y mo d h mi s n : Int} (H : Near y mo d h mi s n) : -3000000 ≤ dday d h mi s n ∧ dday d h mi s n ≤ 3000000 := by
  have := H.hour; have := H.d0; have := H.d1; unfold Jr.dday; omega

theorem made_ok {y mo d h mi s n : Int} (H : Near y mo d h mi s n) (j0 : 0 ≤ jday y mo d h mi s n) (j1 : jday y mo d h mi s n ≤ 10000000) : ∃ K : Nat, ∀ k, K ≤ k → ∃ Y M D,
    spec_JuMade.f k y mo d h mi s n = some (Y, M, D, hour h mi s n % 24, min mi s n % 60, sec s n % 60, n % 1000000000) ∧ Is true (jday y mo d h mi s n) Y M D := by
  obtain ⟨K, hK⟩ := juDate_ok _ true j0 j1
  refine ⟨K, fun k hk => ?_⟩
  obtain ⟨Y, M, D, hd, hi⟩ := hK k hk
  refine ⟨Y, M, D, ?_, hi⟩
  have b1 := H.sec; have b2 := H.min; have b3 := H.hour; have b4 := H.dday
  have := H.y0; have := H.y1; have := H.mo0; have := H.mo1; have := H.n0; have := H.n1
  have hb : -2000000000 ≤ jd (y + (mo - 1) / 12) (mo - 12 * ((mo - 1) / 12)) 1 true ∧ jd (y + (mo - 1) / 12) (mo - 12 * ((mo - 1) / 12)) 1 true ≤ 2000000000 := by
    unfold jday at j0 j1; omega
  unfold spec_JuMade.f
  have f1 : spec_juFloor.f n 1000000000 = some (n / 1000000000) := juFloor_ok _ _ (by omega) (by omega) (by omega) (by omega)
  have f2 : spec_juFloor.f (sec s n) 60 = some (sec s n / 60) := juFloor_ok _ _ (by omega) (by omega) (by omega) (by omega)
  have f3 : spec_juFloor.f (min mi s n) 60 = some (min mi s n / 60) := juFloor_ok _ _ (by omega) (by omega) (by omega) (by omega)
  have f4 : spec_juFloor.f (hour h mi s n) 24 = some (hour h mi s n / 24) := juFloor_ok _ _ (by omega) (by omega) (by omega) (by omega)
  have f5 : spec_juFloor.f (mo - 1) 12 = some ((mo - 1) / 12) := juFloor_ok _ _ (by omega) (by omega) (by omega) (by omega)
  have w1 : wrap64 (s + n / 1000000000) = sec s n := w64 (x := sec s n) (by omega) (by omega)
  have w2 : wrap64 (mi + sec s n / 60) = min mi s n := w64 (x := min mi s n) (by omega) (by omega)
  have w3 : wrap64 (h + min mi s n / 60) = hour h mi s n := w64 (x := hour h mi s n) (by omega) (by omega)
  have w4 : wrap64 (d + hour h mi s n / 24) = dday d h mi s n := w64 (x := dday d h mi s n) (by omega) (by omega)
  have w5 : wrap64 (mo - 1) = mo - 1 := w64 (by omega) (by omega)
  have w6 : wrap64 (y + (mo - 1) / 12) = y + (mo - 1) / 12 := w64 (by omega) (by omega)
  have w7 : wrap64 (12 * ((mo - 1) / 12)) = 12 * ((mo - 1) / 12) := w64 (by omega) (by omega)
  have w8 : wrap64 (mo - 12 * ((mo - 1) / 12)) = mo - 12 * ((mo - 1) / 12) := w64 (by omega) (by omega)
  have w9 : wrap64 (jd (y + (mo - 1) / 12) (mo - 12 * ((mo - 1) / 12)) 1 true + dday d h mi s n) = jd (y + (mo - 1) / 12) (mo - 12 * ((mo - 1) / 12)) 1 true + dday d h mi s n := w64 (by omega) (by omega)
  have w10 : wrap64 (jd (y + (mo - 1) / 12) (mo - 12 * ((mo - 1) / 12)) 1 true + dday d h mi s n - 1) = jday y mo d h mi s n := w64 (x := jday y mo d h mi s n) (by omega) (by omega)
  have v1 : wrap64 (24 * (hour h mi s n / 24)) = 24 * (hour h mi s n / 24) := w64 (by omega) (by omega)
  have v2 : wrap64 (60 * (min mi s n / 60)) = 60 * (min mi s n / 60) := w64 (by omega) (by omega)
  have v3 : wrap64 (60 * (sec s n / 60)) = 60 * (sec s n / 60) := w64 (by omega) (by omega)
  have v4 : wrap64 (1000000000 * (n / 1000000000)) = 1000000000 * (n / 1000000000) := w64 (by omega) (by omega)
  have u1 : wrap64 (hour h mi s n - 24 * (hour h mi s n / 24)) = hour h mi s n % 24 := by rw [w64 (by omega) (by omega)]; omega
  have u2 : wrap64 (min mi s n - 60 * (min mi s n / 60)) = min mi s n % 60 := by rw [w64 (by omega) (by omega)]; omega
  have u3 : wrap64 (sec s n - 60 * (sec s n / 60)) = sec s n % 60 := by rw [w64 (by omega) (by omega)]; omega
  have u4 : wrap64 (n - 1000000000 * (n / 1000000000)) = n % 1000000000 := by rw [w64 (by omega) (by omega)]; omega
  have g := juDay_ok (y + (mo - 1) / 12) (mo - 12 * ((mo - 1) / 12)) 1 true (by omega) (by omega) (by omega) (by omega) (by omega) (by omega)
  simp only [f1, f2, f3, f4, f5, w1, w2, w3, w4, w5, w6, w7, w8, g, w9, w10, hd, v1, v2, v3, v4, u1, u2, u3, u4, Option.bind_some]

theorem clock (h mi s n : Int) : (((h * 60 + mi) * 60 + s) * 1000000000 + n) / 86400000000000 = hour h mi s n / 24 ∧
    (((h * 60 + mi) * 60 + s) * 1000000000 + n) % 86400000000000 = ((hour h mi s n % 24 * 60 + min mi s n % 60) * 60 + sec s n % 60) * 1000000000 + n % 1000000000 := by
  have e1 : ((h * 60 + mi) * 60 + s) * 1000000000 + n = ((h * 60 + mi) * 60 + sec s n) * 1000000000 + n % 1000000000 := by unfold sec; omega
  have e2 : (h * 60 + mi) * 60 + sec s n = (h * 60 + min mi s n) * 60 + sec s n % 60 := by unfold min; omega
  have e3 : h * 60 + min mi s n = hour h mi s n * 60 + min mi s n % 60 := by unfold hour; omega
  rw [e1, e2, e3]
  obtain ⟨S, hS⟩ : ∃ S, S = sec s n % 60 := ⟨_, rfl⟩
  obtain ⟨M, hM⟩ : ∃ M, M = min mi s n % 60 := ⟨_, rfl⟩
  obtain ⟨F, hF⟩ : ∃ F, F = n % 1000000000 := ⟨_, rfl⟩
  obtain ⟨T, hT⟩ : ∃ T, T = hour h mi s n := ⟨_, rfl⟩
  have bS : 0 ≤ S ∧ S < 60 := by omega
  have bM : 0 ≤ M ∧ M < 60 := by omega
  have bF : 0 ≤ F ∧ F < 1000000000 := by omega
  rw [← hS, ← hM, ← hF, ← hT]
  clear hS hM hF hT e1 e2 e3
  omega

theorem date_ok {y mo d h mi s n : Int} (H : Near y mo d h mi s n) (j0 : 0 ≤ jday y mo d h mi s n) (j1 : jday y mo d h mi s n ≤ 10000000) (l : Int) :
    zztime_Date.f y mo d h mi s n l = some (jday y mo d h mi s n - 2440588, ((hour h mi s n % 24 * 60 + min mi s n % 60) * 60 + sec s n % 60) * 1000000000 + n % 1000000000) := by
  have b1 := H.sec; have b2 := H.min; have b3 := H.hour; have b4 := H.dday
  have := H.y0; have := H.y1; have := H.mo0; have := H.mo1; have := H.n0; have := H.n1
  have := H.d0; have := H.d1; have := H.h0; have := H.h1; have := H.mi0; have := H.mi1; have := H.s0; have := H.s1
  obtain ⟨c1, c2⟩ := clock h mi s n
  have em : (mo - 1) % 12 + 1 = mo - 12 * ((mo - 1) / 12) := by omega
  have hb : -2000000000 ≤ jd (y + (mo - 1) / 12) (mo - 12 * ((mo - 1) / 12)) 1 true ∧ jd (y + (mo - 1) / 12) (mo - 12 * ((mo - 1) / 12)) 1 true ≤ 2000000000 := by
    unfold jday at j0 j1; omega
  have bh : -3000000 ≤ hour h mi s n / 24 ∧ hour h mi s n / 24 ≤ 3000000 := by omega
  have ej : jday y mo d h mi s n = jd (y + (mo - 1) / 12) (mo - 12 * ((mo - 1) / 12)) 1 true + (d + hour h mi s n / 24) - 1 := rfl
  unfold zztime_Date.f
  rw [w64 (x := mo - 1) (by omega) (by omega), floor_ok (mo - 1) 12 (by omega) (by omega) (by omega) (by omega)]
  simp only [Option.bind_some]
  rw [w64 (x := h * 60) (by omega) (by omega), w64 (x := h * 60 + mi) (by omega) (by omega), w64 (x := (h * 60 + mi) * 60) (by omega) (by omega), w64 (x := (h * 60 + mi) * 60 + s) (by omega) (by omega),
    w64 (x := ((h * 60 + mi) * 60 + s) * 1000000000) (by omega) (by omega), w64 (x := ((h * 60 + mi) * 60 + s) * 1000000000 + n) (by omega) (by omega), floor_ok _ 86400000000000 (by omega) (by omega) (by omega) (by omega)]
  simp only [Option.bind_some]
  rw [c1, c2, w64 (x := y + (mo - 1) / 12) (by omega) (by omega), w64 (x := (mo - 1) % 12 + 1) (by omega) (by omega), em, daysOf_ok _ _ (by omega) (by omega) (by omega) (by omega)]
  simp only [Option.bind_some]
  obtain ⟨J, hJ⟩ : ∃ J, J = jd (y + (mo - 1) / 12) (mo - 12 * ((mo - 1) / 12)) 1 true := ⟨_, rfl⟩
  rw [← hJ] at hb ej ⊢
  rw [w64 (x := J - 2440588 + d) (by omega) (by omega), w64 (x := J - 2440588 + d - 1) (by omega) (by omega), w64 (x := J - 2440588 + d - 1 + hour h mi s n / 24) (by omega) (by omega), ej]
  congr 2
  omega

theorem timeBack_ok (D H M S F : Int) (d0 : -1000000000 ≤ D) (d1 : D ≤ 1000000000) (h0 : 0 ≤ H) (h1 : H < 24) (m0 : 0 ≤ M) (m1 : M < 60) (s0 : 0 ≤ S) (s1 : S < 60) (f0 : 0 ≤ F) (f1 : F < 1000000000) :
    ∃ y m d, impl_timeBack.f D (((H * 60 + M) * 60 + S) * 1000000000 + F) = some (y, m, d, H, M, S, F) ∧ Mar true (D + 2440588) y m d ∧ -4000000 ≤ y ∧ y ≤ 4000000 ∧ d ≤ 31 ∧ 1 ≤ d := by
  obtain ⟨y, m, d, h, hm, hy⟩ := timeDate_ok D (((H * 60 + M) * 60 + S) * 1000000000 + F) d0 d1
  refine ⟨y, m, d, ?_, hm, hy⟩
  unfold impl_timeBack.f zztime_Time_Hour.f zztime_Time_Minute.f zztime_Time_Second.f zztime_Time_Nanosecond.f
  obtain ⟨N, hN⟩ : ∃ N, N = ((H * 60 + M) * 60 + S) * 1000000000 + F := ⟨_, rfl⟩
  rw [← hN] at h ⊢
  have hN0 : 0 ≤ N ∧ N < 86400000000000 := by omega
  rw [h]
  simp only [Option.bind_some]
  have e1 : wrap64 (Int.tdiv N 3600000000000) = H := by rw [Int.tdiv_eq_ediv_of_nonneg hN0.1, w64 (by omega) (by omega)]; omega
  have e2 : Int.tmod (wrap64 (Int.tdiv N 60000000000)) 60 = M := by
    rw [Int.tdiv_eq_ediv_of_nonneg hN0.1, w64 (by omega) (by omega), Int.tmod_eq_emod_of_nonneg (by omega)]
    have : N / 60000000000 = H * 60 + M := by omega
    rw [this]; omega
  have e3 : Int.tmod (wrap64 (Int.tdiv N 1000000000)) 60 = S := by
    rw [Int.tdiv_eq_ediv_of_nonneg hN0.1, w64 (by omega) (by omega), Int.tmod_eq_emod_of_nonneg (by omega)]
    have : N / 1000000000 = (H * 60 + M) * 60 + S := by omega
    rw [this]; omega
  have e4 : Int.tmod N 1000000000 = F := by rw [Int.tmod_eq_emod_of_nonneg hN0.1]; omega
  rw [e1, e2, e3, e4]

theorem mx_neg {x b : Int} (h0 : -b ≤ x) (h1 : x ≤ b) (hb : b ≤ 4611686018427387904) : ¬ mx x (wrap64 (-x)) > b := by
  rw [w64 (by omega) (by omega)]
  unfold mx
  split <;> omega
theorem timeOf_ok {y mo d h mi s n : Int} (H : Near y mo d h mi s n) (y0 : -4000 ≤ y) (y1 : y ≤ 20000) (j0 : 0 ≤ jday y mo d h mi s n) (j1 : jday y mo d h mi s n ≤ 10000000) :
    impl_timeOf.f y mo d h mi s n = some (jday y mo d h mi s n - 2440588, ((hour h mi s n % 24 * 60 + min mi s n % 60) * 60 + sec s n % 60) * 1000000000 + n % 1000000000, true) := by
  unfold impl_timeOf.f
  rw [if_neg (by omega), if_neg (by omega), if_neg (mx_neg H.mo0 H.mo1 (by omega)), if_neg (mx_neg H.d0 H.d1 (by omega)), if_neg (mx_neg H.h0 H.h1 (by omega)), if_neg (mx_neg H.mi0 H.mi1 (by omega)),
    if_neg (mx_neg H.s0 H.s1 (by omega)), if_neg (mx_neg H.n0 H.n1 (by omega)), date_ok H j0 j1]
  rfl
end Go.Proofs.Ytbblgpgjgkmcbaa.Jr
