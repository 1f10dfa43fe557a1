/- What the functions of a calendar compute: the reference's date of a day, and a moment brought into its ranges. No condition beyond their ranges. -/
import Derived.Test.YtbblgpgjgkmcbaaJra
namespace Go.Proofs.Ytbblgpgjgkmcbaa.Jr
open Go.RowKit Go.Proofs.Ytbblgpgjgkmcbaa.PJro Go.Proofs.YtbblgpgjgkmcbaaW.PrintWords Go.Proofs.YtbblgpgjgkmcbaaW.PrintLast
open Jul

theorem jd_year (y : Int) (g : Bool) : jd y 1 1 g = 307 + yd g (y + 4799) - off g := by unfold jd cm; simp; rw [show y + 4800 - 1 = y + 4799 by omega]
theorem jd_succ (y : Int) (g : Bool) : jd y 1 1 g + 365 ≤ jd (y + 1) 1 1 g ∧ jd (y + 1) 1 1 g ≤ jd y 1 1 g + 366 := by
  rw [jd_year, jd_year]
  have := yd_succ g (y + 4799)
  rw [show y + 1 + 4799 = y + 4799 + 1 by omega]
  omega
theorem jd_bound (y : Int) (g : Bool) (n : Int) (h : jd y 1 1 g ≤ n) (hn : n ≤ 100000000) : y ≤ 400000 := by
  by_cases c : y ≤ 400000
  · exact c
  · have hm := yd_mono g (show (400000 : Int) + 4799 ≤ y + 4799 by omega)
    rw [jd_year] at h
    have e : yd g (400000 + 4799) ≥ 147000000 := by cases g <;> decide
    have o : off g ≤ 32083 := by cases g <;> decide
    omega
theorem jd_month (y m : Int) (g : Bool) (hm0 : 1 ≤ m) (hm1 : m < 12) : jd y m 1 g + 28 ≤ jd y (m + 1) 1 g := by
  have hs := yd_succ g (y + 4800 - 1)
  rw [show y + 4800 - 1 + 1 = y + 4800 - 0 by omega] at hs
  have e : m = 1 ∨ m = 2 ∨ m = 3 ∨ m = 4 ∨ m = 5 ∨ m = 6 ∨ m = 7 ∨ m = 8 ∨ m = 9 ∨ m = 10 ∨ m = 11 := by omega
  unfold jd cm
  rcases e with rfl | rfl | rfl | rfl | rfl | rfl | rfl | rfl | rfl | rfl | rfl <;> simp at hs ⊢ <;> omega

/-- The months of a year, as the reference goes through them. -/
theorem months (y n : Int) (g : Bool) (hy0 : -100000 ≤ y) (hy1 : y ≤ 400000) (hn0 : -100000000 ≤ n) (hn1 : n ≤ 100000000) (hhi : n < jd (y + 1) 1 1 g) : ∀ (D : Nat) (m : Int) (k : Nat), 1 ≤ m → m ≤ 12 → (12 - m).toNat = D → D < k → jd y m 1 g ≤ n →
    ∃ m' d, spec_JuDate.l1 k n g y m = some (y, m', d) ∧ Is g n y m' d := by
  intro D
  induction D with
  | zero =>
    intro m k h0 h1 hD hk hlo
    obtain ⟨k, rfl⟩ : ∃ j, k = j + 1 := ⟨k - 1, by omega⟩
    obtain rfl : m = 12 := by omega
    refine ⟨12, n - jd y 12 1 g + 1, ?_, ⟨by omega, by omega, hlo, by rw [if_pos rfl]; exact hhi, rfl⟩⟩
    simp only [spec_JuDate.l1]
    rw [if_neg (by omega), juDay_ok _ _ _ _ (by omega) (by omega) (by omega) (by omega) (by omega) (by omega)]
    simp only [Option.bind_some]
    have hb : -1000000000 ≤ jd y 12 1 g := by
      unfold jd cm yd off; cases g <;> simp <;> omega
    rw [w64 (x := n - jd y 12 1 g) (by omega) (by omega), w64 (by omega) (by omega)]
  | succ D ih =>
    intro m k h0 h1 hD hk hlo
    obtain ⟨k, rfl⟩ : ∃ j, k = j + 1 := ⟨k - 1, by omega⟩
    have hlt : m < 12 := by omega
    have hb : -1000000000 ≤ jd y m 1 g := by
      have : 1 ≤ (14 - m) / 12 + 1 ∧ (14 - m) / 12 ≤ 1 := by omega
      unfold jd cm yd off; cases g <;> simp <;> omega
    by_cases c : jd y (m + 1) 1 g ≤ n
    · obtain ⟨m', d, h, hi⟩ := ih (m + 1) k (by omega) (by omega) (by omega) (by omega) c
      refine ⟨m', d, ?_, hi⟩
      simp only [spec_JuDate.l1]
      rw [if_pos hlt, w64 (x := m + 1) (by omega) (by omega), juDay_ok _ _ _ _ (by omega) (by omega) (by omega) (by omega) (by omega) (by omega)]
      simp only [Option.bind_some]
      rw [if_pos c]
      exact h
    · refine ⟨m, n - jd y m 1 g + 1, ?_, ⟨h0, h1, hlo, by rw [if_neg (by omega)]; omega, rfl⟩⟩
      simp only [spec_JuDate.l1]
      rw [if_pos hlt, w64 (x := m + 1) (by omega) (by omega), juDay_ok _ _ _ _ (by omega) (by omega) (by omega) (by omega) (by omega) (by omega)]
      simp only [Option.bind_some]
      rw [if_neg c, juDay_ok _ _ _ _ (by omega) (by omega) (by omega) (by omega) (by omega) (by omega)]
      simp only [Option.bind_some]
      rw [w64 (x := n - jd y m 1 g) (by omega) (by omega), w64 (by omega) (by omega)]

/-- The years, as the reference goes through them. -/
theorem years (n : Int) (g : Bool) (hn0 : -100000000 ≤ n) (hn1 : n ≤ 100000000) : ∀ (D : Nat) (y : Int) (k : Nat), -100000 ≤ y → jd y 1 1 g ≤ n → n - jd y 1 1 g < D → D + 13 ≤ k →
    ∃ y' m' d, spec_JuDate.l0 k n g y = some (y', m', d) ∧ Is g n y' m' d := by
  intro D
  induction D with
  | zero => intro y k _ h0 h1 _; omega
  | succ D ih =>
    intro y k hy h0 h1 hk
    obtain ⟨k, rfl⟩ : ∃ j, k = j + 1 := ⟨k - 1, by omega⟩
    have hb := jd_bound y g n h0 hn1
    have hs := jd_succ y g
    by_cases c : jd (y + 1) 1 1 g ≤ n
    · obtain ⟨y', m', d, h, hi⟩ := ih (y + 1) k (by omega) c (by omega) (by omega)
      refine ⟨y', m', d, ?_, hi⟩
      simp only [spec_JuDate.l0]
      rw [w64 (x := y + 1) (by omega) (by omega), juDay_ok _ _ _ _ (by omega) (by omega) (by omega) (by omega) (by omega) (by omega)]
      simp only [Option.bind_some]
      rw [if_pos c]
      exact h
    · obtain ⟨m', d, h, hi⟩ := months y n g hy hb hn0 hn1 (by omega) 11 1 k (by omega) (by omega) (by rfl) (by omega) h0
      refine ⟨y, m', d, ?_, hi⟩
      simp only [spec_JuDate.l0]
      rw [w64 (x := y + 1) (by omega) (by omega), juDay_ok _ _ _ _ (by omega) (by omega) (by omega) (by omega) (by omega) (by omega)]
      simp only [Option.bind_some]
      rw [if_neg c]
      exact h

/-- The date of a day, as the reference has it. -/
theorem juDate_ok (n : Int) (g : Bool) (hn0 : 0 ≤ n) (hn1 : n ≤ 10000000) : ∃ K : Nat, ∀ k, K ≤ k → ∃ y m d, spec_JuDate.f k n g = some (y, m, d) ∧ Is g n y m d := by
  obtain ⟨s, hs⟩ : ∃ s, s = (n - 1721060) / 366 - 30 := ⟨_, rfl⟩
  have h0 : jd s 1 1 g ≤ n := by
    rw [jd_year]
    unfold yd off
    cases g <;> simp <;> omega
  refine ⟨(n - jd s 1 1 g).toNat + 1 + 13, fun k hk => ?_⟩
  have hb : -1000000000 ≤ jd s 1 1 g := by
    rw [jd_year]
    unfold yd off
    cases g <;> simp <;> omega
  obtain ⟨y, m, d, h, hi⟩ := years n g (by omega) (by omega) ((n - jd s 1 1 g).toNat + 1) s k (by omega) h0 (by omega) hk
  refine ⟨y, m, d, ?_, hi⟩
  unfold spec_JuDate.f
  rw [w64 (x := n - 1721060) (by omega) (by omega), juFloor_ok _ _ (by omega) (by omega) (by omega) (by omega)]
  simp only [Option.bind_some]
  rw [w64 (x := (n - 1721060) / 366 - 30) (by omega) (by omega), ← hs]
  exact h
end Go.Proofs.Ytbblgpgjgkmcbaa.Jr
