/- Plain mathematics of the Julian and the Gregorian calendar: the day's number of a date, and the date of a day. No program in sight. -/
import Derived.RowKit
namespace Go.Proofs.Ytbblgpgjgkmcbaa.Jul

/-- The days ahead of year y (which begins in March), by the calendar of Julius or of Gregory. -/
def yd (g : Bool) (y : Int) : Int := 365 * y + y / 4 + (if g then y / 400 - y / 100 else 0)
/-- The days ahead of month m of such a year. -/
def cm (m : Int) : Int := (153 * m + 2) / 5
/-- The Julian day of a date. -/
def off (g : Bool) : Int := if g then 32045 else 32083
def jd (y m d : Int) (g : Bool) : Int := d + cm (m + 12 * ((14 - m) / 12) - 3) + yd g (y + 4800 - (14 - m) / 12) - off g

theorem yd_succ (g : Bool) (y : Int) : yd g y + 365 ≤ yd g (y + 1) ∧ yd g (y + 1) ≤ yd g y + 366 := by
  unfold yd
  cases g <;> simp <;> omega
theorem yd_mono (g : Bool) {a b : Int} (h : a ≤ b) : yd g a ≤ yd g b := by
  obtain ⟨n, rfl⟩ : ∃ n : Nat, b = a + n := ⟨(b - a).toNat, by omega⟩
  clear h
  induction n with
  | zero => simp
  | succ n ih =>
    have := yd_succ g (a + n)
    have e : a + ((n + 1 : Nat) : Int) = a + n + 1 := by omega
    rw [e]; omega
/-- The year of a day is one alone. -/
theorem yd_unique (g : Bool) {a b n : Int} (h1 : yd g a ≤ n) (h2 : n < yd g (a + 1)) (h3 : yd g b ≤ n) (h4 : n < yd g (b + 1)) : a = b := by
  rcases Int.lt_trichotomy a b with h | h | h
  · have := yd_mono g (show a + 1 ≤ b by omega); omega
  · exact h
  · have := yd_mono g (show b + 1 ≤ a by omega); omega

/-- n is day d of month m of year y (January = 1). -/
structure Is (g : Bool) (n y m d : Int) : Prop where
  m1 : 1 ≤ m
  m2 : m ≤ 12
  lo : jd y m 1 g ≤ n
  hi : n < if m = 12 then jd (y + 1) 1 1 g else jd y (m + 1) 1 g
  day : d = n - jd y m 1 g + 1

/-- The same by the year that begins in March. -/
structure Mar (g : Bool) (n y m d : Int) : Prop where
  m1 : 1 ≤ m
  m2 : m ≤ 12
  lo : yd g (y + 4800 - (14 - m) / 12) ≤ n + off g - 1
  hi : n + off g - 1 < yd g (y + 4800 - (14 - m) / 12 + 1)
  mon : m + 12 * ((14 - m) / 12) - 3 = (5 * (n + off g - 1 - yd g (y + 4800 - (14 - m) / 12)) + 2) / 153
  day : d = n + off g - 1 - yd g (y + 4800 - (14 - m) / 12) - cm (m + 12 * ((14 - m) / 12) - 3) + 1

theorem Is.mar {g : Bool} {n y m d : Int} (h : Is g n y m d) : Mar g n y m d := by
  obtain ⟨m1, m2, lo, hi, day⟩ := h
  have e : m = 1 ∨ m = 2 ∨ m = 3 ∨ m = 4 ∨ m = 5 ∨ m = 6 ∨ m = 7 ∨ m = 8 ∨ m = 9 ∨ m = 10 ∨ m = 11 ∨ m = 12 := by omega
  have s0 := yd_succ g (y + 4800)
  have s1 := yd_succ g (y + 4800 - 1)
  have t1 : y + 4800 - 1 + 1 = y + 4800 := by omega
  rw [t1] at s1
  have t2 : y + 1 + 4800 - 1 = y + 4800 := by omega
  rcases e with rfl | rfl | rfl | rfl | rfl | rfl | rfl | rfl | rfl | rfl | rfl | rfl <;>
    simp [jd, cm] at lo hi day <;> (try rw [t2] at hi) <;> refine ⟨by omega, by omega, ?_, ?_, ?_, ?_⟩ <;> simp [cm] <;> (try rw [t1]) <;> omega

theorem Mar.unique {g : Bool} {n y m d y' m' d' : Int} (h : Mar g n y m d) (k : Mar g n y' m' d') : y = y' ∧ m = m' ∧ d = d' := by
  have e := yd_unique g h.lo h.hi k.lo k.hi
  have em : m + 12 * ((14 - m) / 12) - 3 = m' + 12 * ((14 - m') / 12) - 3 := by rw [h.mon, k.mon, e]
  have h1 := h.m1; have h2 := h.m2; have k1 := k.m1; have k2 := k.m2
  have hm : m = m' := by omega
  subst hm
  refine ⟨by omega, rfl, ?_⟩
  rw [h.day, k.day, e]
theorem Is.unique {g : Bool} {n y m d y' m' d' : Int} (h : Is g n y m d) (k : Is g n y' m' d') : y = y' ∧ m = m' ∧ d = d' := h.mar.unique k.mar

/-- A day's year and the day in it give its date. -/
theorem Mar.mk' {g : Bool} {n Y r : Int} (lo : yd g Y ≤ n) (hi : n < yd g (Y + 1)) (hr : r = n - yd g Y) {y m d : Int} (hm : m = (if (5 * r + 2) / 153 + 3 > 12 then (5 * r + 2) / 153 - 9 else (5 * r + 2) / 153 + 3))
    (hy : y = (if (5 * r + 2) / 153 + 3 > 12 then Y + 1 else Y) - 4800) (hd : d = r - cm ((5 * r + 2) / 153) + 1) : Mar g (n - off g + 1) y m d := by
  have hs := yd_succ g Y
  have b : 0 ≤ (5 * r + 2) / 153 ∧ (5 * r + 2) / 153 ≤ 11 := by omega
  obtain ⟨q, hq⟩ : ∃ q, q = (5 * r + 2) / 153 := ⟨_, rfl⟩
  rw [← hq] at hm hy hd b
  have en : n - off g + 1 + off g - 1 = n := by omega
  by_cases c : q + 3 > 12
  · rw [if_pos c] at hm hy
    have a : (14 - m) / 12 = 1 := by omega
    have ey : y + 4800 - 1 = Y := by omega
    have eq : m + 12 * 1 - 3 = q := by omega
    refine ⟨by omega, by omega, ?_, ?_, ?_, ?_⟩ <;> rw [a, ey] <;> (try rw [en]) <;> (try rw [eq]) <;> (try rw [← hr]) <;> assumption
  · rw [if_neg c] at hm hy
    have a : (14 - m) / 12 = 0 := by omega
    have ey : y + 4800 - 0 = Y := by omega
    have eq : m + 12 * 0 - 3 = q := by omega
    refine ⟨by omega, by omega, ?_, ?_, ?_, ?_⟩ <;> rw [a, ey] <;> (try rw [en]) <;> (try rw [eq]) <;> (try rw [← hr]) <;> assumption

/-- The year of a day of the 400 years. -/
theorem era_year (n : Int) (h0 : 0 ≤ n) (h1 : n < 146097) : yd true ((n - n / 1460 + n / 36524 - n / 146096) / 365) ≤ n ∧ n < yd true ((n - n / 1460 + n / 36524 - n / 146096) / 365 + 1) ∧ 0 ≤ (n - n / 1460 + n / 36524 - n / 146096) / 365 ∧ (n - n / 1460 + n / 36524 - n / 146096) / 365 < 400 := by
  obtain ⟨q1, e1⟩ : ∃ q, q = n / 1460 := ⟨_, rfl⟩
  obtain ⟨q2, e2⟩ : ∃ q, q = n / 36524 := ⟨_, rfl⟩
  obtain ⟨q3, e3⟩ : ∃ q, q = n / 146096 := ⟨_, rfl⟩
  rw [← e1, ← e2, ← e3]
  obtain ⟨y, ey⟩ : ∃ y, y = (n - q1 + q2 - q3) / 365 := ⟨_, rfl⟩
  rw [← ey]
  have hq2 : q2 = 0 ∨ q2 = 1 ∨ q2 = 2 ∨ q2 = 3 ∨ (q2 = 4 ∧ q3 = 1) := by omega
  have hy : 0 ≤ y ∧ y < 400 := by omega
  have hc : y / 100 = 0 ∨ y / 100 = 1 ∨ y / 100 = 2 ∨ y / 100 = 3 := by omega
  unfold yd
  simp only [if_true]
  refine ⟨?_, ?_, hy.1, hy.2⟩
  · have h4 : y / 400 = 0 := by omega
    rw [h4]
    rcases hq2 with rfl | rfl | rfl | rfl | ⟨rfl, rfl⟩ <;> rcases hc with hc | hc | hc | hc <;> rw [hc] <;> omega
  · by_cases h99 : y % 100 = 99
    · rcases hc with hc | hc | hc | hc
      · obtain rfl : y = 99 := by omega
        omega
      · obtain rfl : y = 199 := by omega
        omega
      · obtain rfl : y = 299 := by omega
        omega
      · obtain rfl : y = 399 := by omega
        omega
    · have h100 : (y + 1) / 100 = y / 100 := by omega
      have h400 : (y + 1) / 400 = 0 := by omega
      rw [h100, h400]
      rcases hq2 with rfl | rfl | rfl | rfl | ⟨rfl, rfl⟩ <;> rcases hc with hc | hc | hc | hc <;> rw [hc] <;> omega

/-- The date that the algorithm of Richards tells of the day of a year: month, day and year. -/
theorem Mar.rich {g : Bool} {n Y r mo yy dd : Int} (lo : yd g (Y + 84) ≤ n + off g - 1) (hi : n + off g - 1 < yd g (Y + 84 + 1)) (hr : r = n + off g - 1 - yd g (Y + 84))
    (hm : mo = ((5 * r + 2) / 153 + 2) % 12 + 1) (hy : yy = Y - 4716 + (14 - mo) / 12) (hd : dd = (5 * r + 2) % 153 / 5 + 1) : Mar g n yy mo dd := by
  have hs := yd_succ g (Y + 84)
  have b : 0 ≤ (5 * r + 2) / 153 ∧ (5 * r + 2) / 153 ≤ 11 := by omega
  have e : n + off g - 1 - off g + 1 = n := by omega
  obtain ⟨q, hq⟩ : ∃ q, q = (5 * r + 2) / 153 := ⟨_, rfl⟩
  have hmo : mo = if (5 * r + 2) / 153 + 3 > 12 then (5 * r + 2) / 153 - 9 else (5 * r + 2) / 153 + 3 := by split <;> omega
  have hyy : yy = (if (5 * r + 2) / 153 + 3 > 12 then Y + 84 + 1 else Y + 84) - 4800 := by
    rw [← hq] at hmo b ⊢
    clear hm hd hr
    split <;> rename_i c <;> simp only [c, if_true, if_false] at hmo <;> omega
  have h := Mar.mk' (g := g) (n := n + off g - 1) (Y := Y + 84) (r := r) lo hi hr (y := yy) (m := mo) (d := dd) hmo hyy (by unfold cm; omega)
  rwa [e] at h

theorem rich_julian (n : Int) : yd false ((4 * (n + 1401) + 3) / 1461 + 84) ≤ n + off false - 1 ∧ n + off false - 1 < yd false ((4 * (n + 1401) + 3) / 1461 + 84 + 1) ∧
    (4 * (n + 1401) + 3) % 1461 / 4 = n + off false - 1 - yd false ((4 * (n + 1401) + 3) / 1461 + 84) := by
  unfold yd off
  simp
  omega

theorem rich_cent (n : Int) : ((4 * n + 274277) / 146097) * 3 / 4 = (4 * (n + 32044) + 3) / 146097 - (4 * (n + 32044) + 3) / 146097 / 4 := by
  obtain ⟨C, hC⟩ : ∃ C, C = (4 * (n + 32044) + 3) / 146097 := ⟨_, rfl⟩
  obtain ⟨c, hc⟩ : ∃ c, c = (4 * n + 274277) / 146097 := ⟨_, rfl⟩
  rw [← hC, ← hc]
  have h1 : c = C + 1 ∨ (c = C + 2 ∧ 4 * n + 128180 = 146097 * (C + 1)) := by omega
  clear hc hC
  rcases h1 with rfl | ⟨rfl, h4⟩
  · clear n; omega
  · obtain ⟨k, hk⟩ : ∃ k, k = n - 36524 * C := ⟨_, rfl⟩
    have h5 : 4 * k + 128180 = C + 146097 := by omega
    clear h4 hk n
    omega
theorem yd_cent (C y : Int) (h0 : 0 ≤ y) (h1 : y < 100) : yd true (100 * C + y) = 36524 * C + C / 4 + 365 * y + y / 4 := by
  unfold yd
  simp
  omega
theorem yd_cent' (C y : Int) (h0 : 0 ≤ y) (h1 : y < 100) (n : Int) (hn : n < 36524 * (C + 1) + (C + 1) / 4) (hn' : n < 36524 * C + C / 4 + 365 * (y + 1) + (y + 1) / 4) : n < yd true (100 * C + y + 1) := by
  by_cases c : y = 99
  · subst c
    have e : 100 * C + 99 + 1 = 100 * (C + 1) + 0 := by omega
    rw [e, yd_cent _ _ (by omega) (by omega)]
    omega
  · have e : 100 * C + y + 1 = 100 * C + (y + 1) := by omega
    rw [e, yd_cent _ _ (by omega) (by omega)]
    omega
theorem rich_gregorian (n f : Int) (hf : f = n + 1401 + ((4 * n + 274277) / 146097) * 3 / 4 - 38) : yd true ((4 * f + 3) / 1461 + 84) ≤ n + off true - 1 ∧ n + off true - 1 < yd true ((4 * f + 3) / 1461 + 84 + 1) ∧
    (4 * f + 3) % 1461 / 4 = n + off true - 1 - yd true ((4 * f + 3) / 1461 + 84) := by
  rw [rich_cent] at hf
  obtain ⟨C, hC⟩ : ∃ C, C = (4 * (n + 32044) + 3) / 146097 := ⟨_, rfl⟩
  rw [← hC] at hf
  have h1 : 36524 * C + C / 4 ≤ n + 32044 := by omega
  have h2 : n + 32044 < 36524 * (C + 1) + (C + 1) / 4 := by omega
  obtain ⟨R, hR⟩ : ∃ R, R = n + 32044 - (36524 * C + C / 4) := ⟨_, rfl⟩
  have hR0 : 0 ≤ R := by omega
  have hR1 : R ≤ 36524 := by omega
  obtain ⟨y, hy⟩ : ∃ y, y = (4 * R + 3) / 1461 := ⟨_, rfl⟩
  have y0 : 0 ≤ y := by omega
  have y1 : y < 100 := by omega
  have hfR : f = 36525 * C + R - 30681 := by omega
  have hY : (4 * f + 3) / 1461 + 84 = 100 * C + y := by omega
  have hrem : (4 * f + 3) % 1461 = (4 * R + 3) % 1461 := by omega
  rw [hY, hrem, yd_cent C y y0 y1]
  have ho : off true = 32045 := rfl
  rw [ho]
  clear hY hrem hfR hf
  refine ⟨by omega, yd_cent' C y y0 y1 _ (by omega) (by omega), by omega⟩
end Go.Proofs.Ytbblgpgjgkmcbaa.Jul
