/- FnVaFixedBytes: a whole number in so many bytes, and back. -/
import Derived.Test.YtjikodjljocpmaaFixS
import Derived.Test.YtjikodjljocpmaaFixO
import Derived.Test.YtjikodjljocpmaaBigL
import Derived.Test.YtjikodjljocpmaaBigK
namespace Go.Proofs.Ytjikodjljocpmaa.Kb
open Go Go.RowKit
set_option linter.unusedVariables false
set_option linter.unusedSimpArgs false
set_option maxHeartbeats 2000000
theorem beL_succ (R n : Nat) : beL R (n + 1) = beL (R / 256) n ++ [((R % 256 : Nat) : Int)] := by
  unfold beL
  rw [List.range_succ, List.map_append]
  congr 1
  · refine List.map_congr_left fun j hj => ?_
    have hj' := List.mem_range.1 hj
    unfold limb
    rw [Nat.div_div_eq_div_mul, show n + 1 - 1 - j = (n - 1 - j) + 1 by omega, Nat.pow_succ, Nat.mul_comm 256]
  · simp [limb]
theorem beN_beL (n : Nat) : ∀ R, beN (beL R n) = R % 256 ^ n := by
  induction n with
  | zero => intro R; simp [beL, beN, Nat.mod_one]
  | succ n ih =>
    intro R
    rw [beL_succ, beN_snoc, ih, Int.toNat_natCast, Nat.pow_succ]
    have h1 := Nat.mod_mul (a := 256) (b := 256 ^ n) (x := R)
    rw [Nat.mul_comm (256 ^ n) 256, h1]
    omega
theorem leL_rev (R n : Nat) : (leL R n).reverse = beL R n := by
  apply List.ext_getElem
  · simp [leL, beL]
  · intro j h1 h2
    simp only [leL, beL, List.getElem_map, List.getElem_range, List.getElem_reverse, List.length_map, List.length_range]
theorem leL_last (R n : Nat) (hn : 1 ≤ n) : (leL R n).getLastD 0 = ((limb 256 R (n - 1) : Nat) : Int) := by
  rw [List.getLastD_eq_getLast?, List.getLast?_eq_getElem?, leL_len]
  simp [leL, List.getElem?_range (show n - 1 < n by omega)]
/-- A fixed number read back. -/
theorem twoN_fix {neg : Bool} {a n : Nat} (hn : 1 ≤ n) (h : (neg = false ∧ a < 2 ^ (8 * n - 1)) ∨ (neg = true ∧ 0 < a ∧ a ≤ 2 ^ (8 * n - 1))) : twoN (leL (fixR neg a n) n) = (neg, a) := by
  have e8 : 2 ^ (8 * n - 1) = 128 * 256 ^ (n - 1) := by
    rw [show (256 : Nat) = 2 ^ 8 from rfl, ← Nat.pow_mul, show (128 : Nat) = 2 ^ 7 from rfl, ← Nat.pow_add]
    congr 1; omega
  have e9 : 256 ^ n = 256 * 256 ^ (n - 1) := by rw [← Nat.pow_succ']; congr 1; omega
  unfold twoN
  rw [leL_last _ _ hn, leL_rev, beN_beL, leL_len]
  have hp : 0 < 256 ^ (n - 1) := Nat.pow_pos (by decide)
  unfold limb fixR
  rw [e8] at h
  generalize 256 ^ (n - 1) = P at *
  rcases h with ⟨rfl, h⟩ | ⟨rfl, h0, h⟩
  · have h1 : a / P < 128 := (Nat.div_lt_iff_lt_mul hp).2 h
    simp only [Bool.false_eq_true, if_false]
    have h9 : ¬ (128 : Int) ≤ ((a / P % 256 : Nat) : Int) := by generalize a / P = q at *; omega
    rw [if_neg h9, Nat.mod_eq_of_lt (by omega)]
  · simp only [if_true]
    rw [if_pos (by
      have h1 : 128 ≤ (256 ^ n - a) / P := (Nat.le_div_iff_mul_le hp).2 (by omega)
      have h2 : (256 ^ n - a) / P < 256 := (Nat.div_lt_iff_lt_mul hp).2 (by omega)
      omega), Nat.mod_eq_of_lt (by omega)]
    congr 1
    omega
def FixNo (w : World) (e : Ending) (w' : World) : Prop := ∃ v, e = .returned (.tuple #[v, .bool false]) ∧ Below w.heap.size w w'
/-- A number that so many bytes tell. -/
def FixFit (neg : Bool) (a n : Nat) : Prop := (neg = false ∧ a < 2 ^ (8 * n - 1)) ∨ (neg = true ∧ a ≤ 2 ^ (8 * n - 1))
theorem vaFixed_yes (neg : Bool) (A : Option Addr) (l c a n M0 : Nat) (z : Int) (w : World) (h : DigV .u32 LB w A l c a) (hz : z = n) (hn0 : 1 ≤ n) (hn : n ≤ 16) (hK : a < 256 ^ M0) (hK2 : M0 ≤ 8796093022208) (hf : FixFit neg a n) :
    Calls Try.prog 16 #[.agg #[.bool neg, .slice A l c], .int .i64 z] w fun e w' => FixSay w (fixR neg a n) n true e w' := by
  rcases hf with ⟨rfl, h1⟩ | ⟨rfl, h1⟩
  · exact vaFixed_pos A l c a n M0 z (-1) w h hz hn0 hn hK hK2 (cmpI_lt h1)
  · rcases Nat.lt_or_ge a (2 ^ (8 * n - 1)) with h2 | h2
    · exact vaFixed_neg A l c a n z (-1) w h hz hn0 hn h1 (cmpI_lt h2) (by decide)
    · exact vaFixed_neg A l c a n z 0 w h hz hn0 hn h1 (cmpI_eq (by omega)) (by decide)
theorem vaFixed_not (neg : Bool) (A : Option Addr) (l c a n M0 : Nat) (z : Int) (w : World) (h : DigV .u32 LB w A l c a) (hz : z = n) (hn0 : 1 ≤ n) (hn : n ≤ 16) (hK : a < 256 ^ M0) (hK2 : M0 ≤ 8796093022208) (hf : ¬ FixFit neg a n) :
    Calls Try.prog 16 #[.agg #[.bool neg, .slice A l c], .int .i64 z] w fun e w' => FixNo w e w' := by
  unfold FixFit at hf
  cases neg
  · have h1 : ¬ a < 2 ^ (8 * n - 1) := fun h => hf (.inl ⟨rfl, h⟩)
    have hv : ∃ v, cmpI a (2 ^ (8 * n - 1)) = v ∧ decide (v < 0) = false := by
      rcases Nat.lt_or_ge (2 ^ (8 * n - 1)) a with h2 | h2
      · exact ⟨1, cmpI_gt h2, rfl⟩
      · exact ⟨0, cmpI_eq (by omega), rfl⟩
    obtain ⟨v, h2, h3⟩ := hv
    refine (vaFixed_pos A l c a n M0 z v w h hz hn0 hn hK hK2 h2).mono ?_
    rintro e w' ⟨g, rfl, _, _, hb⟩
    exact ⟨_, by rw [h3], hb⟩
  · have h1 : ¬ a ≤ 2 ^ (8 * n - 1) := fun h => hf (.inr ⟨rfl, h⟩)
    refine (vaFixed_no A l c a n z w h hz hn0 hn (by omega)).mono ?_
    rintro e w' ⟨rfl, hb⟩
    exact ⟨_, rfl, hb⟩
set_option maxRecDepth 100000 in
theorem law_fixedBytes_no (neg : Bool) (A : Option Addr) (n c : Nat) (x : Int) (w : World) (hf : ¬ n ≤ 2147483647) (hs : n ≤ 9223372036854775807) :
    Calls Try.prog 6 #[.agg #[.bool neg, .slice A n c], .int .u8 x] w fun e w' => e = .returned (.bool true) ∧ Below w.heap.size w w' := by
  have B0 := Hd.mk (show Below w.heap.size w (w.alloc (.cells #[.bool neg, .slice A n c] 24)) from (Below.refl _ _).alloc (Nat.le_refl _) _)
  have CF := Hd.mk (fits4 neg A n c (w.alloc (.cells #[.bool neg, .slice A n c] 24)) hs)
  have hd : decide (n ≤ 2147483647) = false := decide_eq_false hf
  rw [hd] at CF
  clear hd
  go_enter Try.func6, Try.ntmps6
  go_wp2_with fail
  with_reducible refine CF.out.mono ?_
  rintro e w1 ⟨rfl, hb1⟩
  have B1 := Hd.mk (B0.out.trans (hb1.mono B0.out.size))
  clear hb1 CF
  go_wp2_with fail
  go_ret
  exact ⟨rfl, B1.out⟩
set_option maxRecDepth 100000 in
theorem law_fixedBytes (neg : Bool) (A : Option Addr) (n c : Nat) (xs : List Int) (s : Nat) (w : World) (hr : Rd w [] A n xs) (hby : ∀ x ∈ xs, 0 ≤ x ∧ x < 256) (hnc : n ≤ c) (hc : c ≤ 9223372036854775807)
    (hs : s < 256) (hf : n ≤ 2147483647) :
    Calls Try.prog 6 #[.agg #[.bool neg, .slice A n c], .int .u8 s] w fun e w' => e = .returned (.bool true) ∧ Below w.heap.size w w' := by
  have B0 := Hd.mk (show Below w.heap.size w (w.alloc (.cells #[.bool neg, .slice A n c] 24)) from (Below.refl _ _).alloc (Nat.le_refl _) _)
  have P0 := Hd.mk (Blk.new w #[.bool neg, .slice A n c] 24)
  have CF := Hd.mk (fits4 neg A n c (w.alloc (.cells #[.bool neg, .slice A n c] 24)) (by omega))
  have HR := Hd.mk hr; have HY := Hd.mk hby; have LN := Hd.mk hr.len
  have AL := Hd.mk (show beN xs < 256 ^ n by have := beN_lt xs hby; rwa [hr.len] at this)
  clear hr hby
  have hd : decide (n ≤ 2147483647) = true := decide_eq_true hf
  rw [hd] at CF
  clear hd
  obtain ⟨N, hN⟩ : ∃ N : Nat, 1 + s % 16 = N := ⟨_, rfl⟩
  have hN1 : 1 ≤ N := by omega
  have hN2 : N ≤ 16 := by omega
  have ez : (1 + (s : Int) % 16) = N := by omega
  have EZ := Hd.mk ez
  clear ez hN
  go_enter Try.func6, Try.ntmps6
  go_wp2_with fail
  with_reducible refine CF.out.mono ?_
  rintro e w1 ⟨rfl, hb1⟩
  have B1 := Hd.mk (B0.out.trans (hb1.mono B0.out.size))
  have hp1 := P0.out.below hb1 P0.out.lt
  have P1 := Hd.mk hp1
  have y0 : w1.cell? ⟨w.heap.size, 0, none⟩ = some (.bool neg) := hp1.cell 0 rfl
  have y1 : w1.cell? ⟨w.heap.size, 1, none⟩ = some (.slice A n c) := hp1.cell 1 rfl
  clear hb1 hp1 CF
  have CV := Hd.mk (vaBig neg A n c N (1 + (s : Int) % 16) xs w1 (HR.out.below B1.out) HY.out (by omega) hnc hc EZ.out (by omega))
  go_wp2_with fail
  with_reducible refine CV.out.mono ?_
  rintro e w2 ⟨A2, l2, c2, rfl, hd2, hb2, _⟩
  have OK := Hd.mk (fun h => okB_ne (neg := neg) HY.out h)
  have B2 := Hd.mk (B1.out.trans (hb2.mono B1.out.size))
  have P2 := Hd.mk (P1.out.below hb2 P1.out.lt)
  have D2 := Hd.mk hd2
  clear hb2 hd2 CV y0 y1
  have B3 := Hd.mk (B2.out.alloc B2.out.size (.cells #[.bool neg, .slice A2 l2 c2] 29))
  have P3 := Hd.mk (P2.out.alloc (.cells #[.bool neg, .slice A2 l2 c2] 29))
  have D3 := Hd.mk (D2.out.below ((Below.refl _ _).alloc (Nat.le_refl _) _ : Below w2.heap.size w2 (w2.alloc (.cells #[.bool neg, .slice A2 l2 c2] 29))))
  generalize hok : (okB neg xs && decide (n ≤ N)) = ok
  have HOK := Hd.mk hok
  clear hok
  by_cases hyes : FixFit neg (beN xs) N
  · have CD := Hd.mk (vaFixed_yes neg A2 l2 c2 (beN xs) N n (1 + (s : Int) % 16) _ D3.out EZ.out hN1 hN2 AL.out (by omega) hyes)
    have HYES := Hd.mk hyes
    clear hyes
    go_wp2_with fail
    with_reducible refine CD.out.mono ?_
    rintro e w4 ⟨g, rfl, hb4, hg4, hl4⟩
    have B4 := Hd.mk (B3.out.trans (hl4.mono B3.out.size))
    have P4 := Hd.mk (P3.out.below hl4 P3.out.lt)
    have z0 : w4.cell? ⟨w.heap.size, 0, none⟩ = some (.bool neg) := P4.out.cell 0 rfl
    have z1 : w4.cell? ⟨w.heap.size, 1, none⟩ = some (.slice A n c) := P4.out.cell 1 rfl
    have Q4 := Hd.mk hb4
    clear hb4 hl4 CD
    cases ok
    · go_wp2_with fail
      go_ret
      exact ⟨rfl, B4.out⟩
    · have hok1 : okB neg xs = true := by have := HOK.out; simp at this; exact this.1
      have hnN : n ≤ N := by have := HOK.out; simp at this; exact this.2
      have hne := OK.out hok1
      have GE := Hd.mk (okB_ge HY.out hok1)
      have eP : 2 * 2 ^ (8 * N - 1) = 256 ^ N := by rw [← Nat.pow_succ', show (256 : Nat) = 2 ^ 8 from rfl, ← Nat.pow_mul]; congr 1; omega
      have TF := Hd.mk (twoN_fix (neg := neg) (a := beN xs) hN1 (by
        rcases HYES.out with ⟨h1, h2⟩ | ⟨h1, h2⟩
        · exact .inl ⟨h1, h2⟩
        · exact .inr ⟨h1, Nat.pos_of_ne_zero (hne h1), h2⟩))
      have CX := Hd.mk (fixedBytes neg A n c N xs (1 + (s : Int) % 16) w4 (HR.out.below B4.out) HY.out (by omega) hnc hc EZ.out hN1 hN2 hne (fun h => by
        rcases HYES.out with ⟨h1, h2⟩ | ⟨h1, h2⟩
        · rw [h1] at h; cases h
        · omega))
      clear hne eP
      go_wp2_with fail
      with_reducible refine CX.out.mono ?_
      rintro e w5 ⟨v, rfl, hm⟩
      obtain ⟨A6, c6, he6, k1, k2, k3, _, _, k4⟩ := hm.rd (by rw [leL_len]; omega)
      cases he6
      rw [leL_len] at k1 k3
      have B5 := Hd.mk (B4.out.trans (k4.mono B4.out.size))
      have P5 := Hd.mk (P4.out.below k4 P4.out.lt)
      have Q5 := Hd.mk (Q4.out.below k4 Q4.out.lt)
      have K3 := Hd.mk k3
      obtain ⟨m0, rfl⟩ : ∃ m0, N = m0 + 1 := ⟨N - 1, by omega⟩
      have CO := Hd.mk (fixedOf A6 c6 m0 w5 _ k3 (by omega) k1 k2 (leL_byte _ _))
      rw [TF.out] at CO
      have EZ2 := EZ.out
      rw [show ((m0 + 1 : Nat) : Int) = (m0 : Int) + 1 by omega] at EZ2
      rw [← EZ2] at CO
      have HEZ := Hd.mk EZ2
      clear hm k1 k2 k3 k4 CX z0 z1 EZ2
      simp only [leL_len] at *
      go_wp2_with fail
      with_reducible refine CO.out.mono ?_
      rintro e w6 ⟨A7, m7, c7, rfl, j1, j2, j3, j4, j5, j6⟩
      have hm : m7 = n := lens_eq B256 j3 j4 AL.out (by have := GE.out; rwa [LN.out] at this)
      subst hm
      have e5 : beL (beN xs) m7 = xs := by have := beL_beN HY.out; rwa [LN.out] at this
      rw [e5] at j5
      have B6 := Hd.mk ((B5.out.trans (j6.mono B5.out.size)).alloc (Nat.le_trans B5.out.size j6.size) (.cells #[.bool neg, .slice A7 m7 c7] 24))
      have P6 := Hd.mk ((P5.out.below j6 P5.out.lt).alloc (.cells #[.bool neg, .slice A7 m7 c7] 24))
      have Q6 := Hd.mk ((Q5.out.below j6 Q5.out.lt).alloc (.cells #[.bool neg, .slice A7 m7 c7] 24))
      have N6 := Hd.mk (Blk.new w6 #[.bool neg, .slice A7 m7 c7] 24)
      have K6 := Hd.mk ((K3.out.below j6).below ((Below.refl w6.heap.size w6).alloc (Nat.le_refl _) (.cells #[.bool neg, .slice A7 m7 c7] 24)))
      have CS := Hd.mk (vaSame neg A7 A m7 m7 c7 c xs (w6.alloc (.cells #[.bool neg, .slice A7 m7 c7] 24)) (j5.below ((Below.refl _ _).alloc (Nat.le_refl _) _)) (HR.out.below B6.out))
      have rq : Rd (w6.alloc (.cells #[.bool neg, .slice A7 m7 c7] 24)) [] (some ⟨g, 0, none⟩) (m0 + 1) (leL (fixR neg (beN xs) (m0 + 1)) (m0 + 1)) := by
        have := rd_row Q6.out (leL (fixR neg (beN xs) (m0 + 1)) (m0 + 1)) (fun j hj => by simp [hj]) (by rw [leL_len]; omega)
        rwa [leL_len] at this
      have s1 := str_run (P := Try.prog) (src := 22) (dst := 9) (c := c6) Try.underlying22 Try.underlying5 Try.underlying9 K6.out
      have s2 := str_run (P := Try.prog) (src := 22) (dst := 9) (c := m0 + 1) Try.underlying22 Try.underlying5 Try.underlying9 rq
      have z0 : (w6.alloc (.cells #[.bool neg, .slice A7 m7 c7] 24)).cell? ⟨w.heap.size, 0, none⟩ = some (.bool neg) := P6.out.cell 0 rfl
      have z1 : (w6.alloc (.cells #[.bool neg, .slice A7 m7 c7] 24)).cell? ⟨w.heap.size, 1, none⟩ = some (.slice A m7 c) := P6.out.cell 1 rfl
      clear j1 j2 j3 j4 j5 j6 CO e5 rq
      go_wp2_with fail
      with_reducible refine CS.out.mono ?_
      rintro e w7 ⟨rfl, hb7⟩
      have B7 := Hd.mk (B6.out.trans (hb7.mono B6.out.size))
      clear hb7 CS z0 z1 s1 s2
      go_wp2_with fail
      go_ret
      exact ⟨by simp, B7.out⟩
  · have CD := Hd.mk (vaFixed_not neg A2 l2 c2 (beN xs) N n (1 + (s : Int) % 16) _ D3.out EZ.out hN1 hN2 AL.out (by omega) hyes)
    clear hyes
    go_wp2_with fail
    with_reducible refine CD.out.mono ?_
    rintro e w4 ⟨v, rfl, hl4⟩
    have B4 := Hd.mk (B3.out.trans (hl4.mono B3.out.size))
    clear hl4 CD
    cases ok
    all_goals
      go_wp2_with fail
      go_ret
      exact ⟨rfl, B4.out⟩
theorem FnVaFixedBytes (neg : Bool) (a : Option Addr) (len cap : Nat) (zs : List Int) (x : Int) (w : World) (h : (a = none ∧ len = 0 ∧ cap = 0 ∧ zs = []) ∨ ∃ x, a = some x ∧ len ≤ cap ∧ cap ≤ maxLen ∧ zs.length = cap ∧ (∀ i, i < zs.length → w.cell? (x.add i) = some (.int .u8 (zs.getD i 0))) ∧ ∀ n ∈ zs, (Lit.int .u8 n).wf = true) (hx : (Lit.int .u8 x).wf = true) :
    Calls Try.prog 6 #[.agg #[.bool neg, .slice a len cap], .int .u8 x] w fun e w' => e = .returned (.bool true) ∧ Below w.heap.size w w' := by
  have hcap : len ≤ cap ∧ cap ≤ maxLen := by
    rcases h with ⟨rfl, rfl, rfl, rfl⟩ | ⟨x, rfl, h1, h2, _⟩
    · exact ⟨Nat.le_refl _, by decide⟩
    · exact ⟨h1, h2⟩
  unfold maxLen at hcap
  obtain ⟨s, rfl, hs⟩ : ∃ s : Nat, x = s ∧ s < 256 := by
    simp [Lit.wf, IntKind.min, IntKind.max, IntKind.wrap, IntKind.bits, IntKind.signed] at hx
    exact ⟨x.toNat, by omega, by omega⟩
  by_cases hf : len ≤ 2147483647
  · obtain ⟨h1, h2, hr, hb⟩ := rd_row_in h (by omega)
    exact law_fixedBytes neg a len cap _ s w hr hb h1 hcap.2 hs hf
  · exact law_fixedBytes_no neg a len cap s w hf (by omega)
end Go.Proofs.Ytjikodjljocpmaa.Kb
