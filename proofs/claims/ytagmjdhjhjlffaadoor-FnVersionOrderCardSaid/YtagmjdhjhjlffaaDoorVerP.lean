/- Versions, the plain part: rows of digits, a text split at its points. -/
import Derived.Test.YtagmjdhjhjlffaaDoorKb
import Derived.Lib.ItoaMem
import Derived.Lib.ParseIntB
namespace Go.Proofs.YtagmjdhjhjlffaaDoor.Kb
open Go
set_option linter.unusedVariables false
set_option linter.unusedSimpArgs false
set_option maxHeartbeats 4000000
def S (l : List UInt8) : ByteArray := ⟨l.toArray⟩
theorem S_size (l : List UInt8) : (S l).size = l.length := by simp [S, ByteArray.size]
theorem S_inj {a b : List UInt8} : S a = S b ↔ a = b := by
  constructor
  · intro h
    have := congrArg (fun s : ByteArray => s.data.toList) h
    simpa [S] using this
  · rintro rfl; rfl
/-- The last k digits of n. -/
def lowD : Nat → Nat → List UInt8
  | _, 0 => []
  | n, k + 1 => lowD (n / 10) k ++ [UInt8.ofNat (48 + n % 10)]
theorem lowD_len : ∀ (k n : Nat), (lowD n k).length = k
  | 0, n => rfl
  | k + 1, n => by simp [lowD, lowD_len k]
theorem lowD_cons : ∀ (k n : Nat), lowD n (k + 1) = UInt8.ofNat (48 + n / 10 ^ k % 10) :: lowD n k
  | 0, n => by simp [lowD]
  | k + 1, n => by
    rw [lowD, lowD_cons k (n / 10), lowD, Nat.div_div_eq_div_mul]
    simp [Nat.pow_succ, Nat.mul_comm]
theorem lowD_pad : ∀ (a n m : Nat), n < 10 ^ m → lowD n (a + m) = List.replicate a 48 ++ lowD n m
  | 0, n, m, h => by simp
  | a + 1, n, m, h => by
    have h2 : n < 10 ^ (a + m) := Nat.lt_of_lt_of_le h (Nat.pow_le_pow_right (by omega) (by omega))
    rw [show a + 1 + m = (a + m) + 1 by omega, lowD_cons, lowD_pad a n m h, Nat.div_eq_of_lt h2]
    simp [List.replicate_succ]
theorem decDigits_low (u : Nat) : Lib.decDigits u = lowD u (Lib.nDigits u) := by
  induction u using Nat.strongRecOn with
  | _ u ih =>
    by_cases h : u < 10
    · rw [Lib.decDigits_one h, Lib.nDigits_small h]
      simp [lowD, Nat.mod_eq_of_lt h]
    · rw [Lib.decDigits, dif_neg h, Lib.nDigits_big h, lowD, ih (u / 10) (by omega)]
theorem nDigits_le {n : Nat} : ∀ {k : Nat}, 1 ≤ k → n < 10 ^ k → Lib.nDigits n ≤ k := by
  intro k
  induction k generalizing n with
  | zero => intro h; omega
  | succ k ih =>
    intro _ h
    by_cases h9 : n < 10
    · rw [Lib.nDigits_small h9]; omega
    · rw [Lib.nDigits_big h9]
      rcases Nat.eq_zero_or_pos k with rfl | hk
      · simp at h; omega
      · have := ih (n := n / 10) hk (by rw [Nat.pow_succ] at h; omega)
        omega
/-- The width of n, at least 'least'. -/
def wide (n least : Nat) : Nat := max least (Lib.nDigits n)
theorem wide_one (n : Nat) : wide n 1 = Lib.nDigits n := by have := Lib.nDigits_pos n; unfold wide; omega
theorem wide_fix {n k : Nat} (hk : 1 ≤ k) (h : n < 10 ^ k) : wide n k = k := by have := nDigits_le hk h; unfold wide; omega
theorem lt_wide (n least : Nat) : n < 10 ^ wide n least := Nat.lt_of_lt_of_le (Lib.lt_pow_nDigits n) (Nat.pow_le_pow_right (by omega) (by unfold wide; omega))
theorem wide_go {n least j : Nat} (h1 : 1 ≤ least) (hj : j < wide n least) : 0 < n / 10 ^ j ∨ j < least := by
  rcases Nat.lt_or_ge j least with h | h
  · exact .inr h
  · refine .inl ?_
    rcases Nat.lt_or_ge n (10 ^ j) with h2 | h2
    · have := nDigits_le (by omega : 1 ≤ j) h2; unfold wide at hj; omega
    · exact Nat.div_pos h2 (Nat.pow_pos (by omega))
theorem wide_stop {n least : Nat} : n / 10 ^ wide n least = 0 ∧ least ≤ wide n least := ⟨Nat.div_eq_of_lt (lt_wide n least), by unfold wide; omega⟩
theorem fmt_low {n k : Nat} (hk : 1 ≤ k) (h : n < 10 ^ k) : (List.replicate k 48 ++ Lib.decDigits n).drop (k + Lib.nDigits n - k) = lowD n k := by
  have hl := nDigits_le hk h
  have h2 := lowD_pad (k - Lib.nDigits n) n (Lib.nDigits n) (Lib.lt_pow_nDigits n)
  rw [show k - Lib.nDigits n + Lib.nDigits n = k by omega] at h2
  rw [h2, decDigits_low, List.drop_append_of_le_length (by simp; omega)]
  simp
theorem parse_low : ∀ (k n acc : Nat), (acc * 10 ^ k + n % 10 ^ k < 18446744073709551616) → (n % 10 ^ k = n) → Lib.parseUintM (2 ^ 64 - 1) acc (lowD n k) = .ok (acc * 10 ^ k + n)
  | 0, n, acc, h, hn => by
    simp at hn
    subst hn
    simp [lowD, Lib.parseUintM]
  | k + 1, n, acc, h, hn => by
    have hp : 0 < 10 ^ k := Nat.pow_pos (by omega)
    rw [hn] at h
    have hlt : n < 10 ^ (k + 1) := by rw [← hn]; exact Nat.mod_lt _ (Nat.pow_pos (by omega))
    have hd : n / 10 ^ k < 10 := by rw [Nat.div_lt_iff_lt_mul hp]; rw [Nat.pow_succ] at hlt; omega
    obtain ⟨d, hd2⟩ : ∃ d, n / 10 ^ k = d := ⟨_, rfl⟩
    have hdm := Nat.div_add_mod n (10 ^ k)
    rw [hd2] at hd hdm
    have hlow : lowD n k = lowD (n % 10 ^ k) k := by
      clear h hn hlt hd hd2 hdm d
      induction k generalizing n with
      | zero => rfl
      | succ j ih =>
        rw [lowD, lowD, ih (n := n / 10) (Nat.pow_pos (by omega)), ih (n := n % 10 ^ (j + 1) / 10) (Nat.pow_pos (by omega))]
        have e1 : n % 10 ^ (j + 1) % 10 = n % 10 := by rw [Nat.pow_succ]; exact Nat.mod_mul_left_mod _ _ _
        have e2 : n % 10 ^ (j + 1) / 10 = n / 10 % 10 ^ j := by rw [Nat.pow_succ, Nat.mul_comm]; exact Nat.mod_mul_right_div_self _ _ _
        rw [e1, e2, Nat.mod_mod]
    have hc : (UInt8.ofNat (48 + d)).toNat = 48 + d := by simp; omega
    have hacc : acc * 10 ^ (k + 1) = acc * 10 * 10 ^ k := by rw [Nat.pow_succ, Nat.mul_comm (10 ^ k) 10, Nat.mul_assoc]
    have hmul : (acc * 10 + d) * 10 ^ k = acc * 10 * 10 ^ k + 10 ^ k * d := by rw [Nat.add_mul, Nat.mul_comm d]
    have hle : acc * 10 + d ≤ (acc * 10 + d) * 10 ^ k := Nat.le_mul_of_pos_right _ hp
    rw [lowD_cons, hd2, Nat.mod_eq_of_lt hd, hlow, Lib.parseUintM, hc, if_pos (by omega), if_neg (by omega), if_neg (by omega), show 48 + d - 48 = d by omega, parse_low k (n % 10 ^ k) (acc * 10 + d) (by rw [Nat.mod_mod]; omega) (Nat.mod_mod _ _)]
    congr 1
    omega
theorem parse_ok {k n : Nat} (hk : 1 ≤ k) (h : n < 10 ^ k) (h64 : n < 18446744073709551616) : Lib.parseUintB 64 (lowD n k) = .ok n := by
  unfold Lib.parseUintB
  rw [if_neg (by intro he; have := lowD_len k n; rw [he] at this; simp at this; omega), parse_low k n 0 (by rw [Nat.mod_eq_of_lt h]; omega) (Nat.mod_eq_of_lt h)]
  simp
theorem low_digit : ∀ (k n : Nat), ∀ c ∈ lowD n k, c ≠ 46
  | 0, n, c, hc => by simp [lowD] at hc
  | k + 1, n, c, hc => by
    rw [lowD, List.mem_append] at hc
    rcases hc with h | h
    · exact low_digit k _ c h
    · simp at h
      subst h
      intro he
      have := congrArg UInt8.toNat he
      simp at this
      omega
/-- What zzSplitN(s, k + 1) gives. -/
def spl : Nat → List UInt8 → List (List UInt8)
  | 0, s => [s]
  | k + 1, s => if 46 ∈ s then s.takeWhile (· ≠ 46) :: spl k ((s.dropWhile (· ≠ 46)).drop 1) else [s]
/-- Parts with points between. -/
def join : List (List UInt8) → List UInt8
  | [] => []
  | [a] => a
  | a :: b :: r => a ++ 46 :: join (b :: r)
theorem take_pt {a r : List UInt8} (h : ∀ c ∈ a, c ≠ 46) : (a ++ 46 :: r).takeWhile (· ≠ 46) = a ∧ (a ++ 46 :: r).dropWhile (· ≠ 46) = 46 :: r := by
  induction a with
  | nil => simp
  | cons x t ih =>
    have hx := h x (by simp)
    obtain ⟨h1, h2⟩ := ih (fun c hc => h c (by simp [hc]))
    simp only [List.cons_append, List.takeWhile_cons, List.dropWhile_cons, hx, ne_eq, not_false_iff, decide_true, if_true]
    exact ⟨congrArg (x :: ·) (by simpa using h1), by simpa using h2⟩
theorem spl_join : ∀ (l : List (List UInt8)) (k : Nat), l ≠ [] → l.length ≤ k + 1 → (∀ a ∈ l, ∀ c ∈ a, c ≠ 46) → spl k (join l) = l
  | [], k, h, _, _ => absurd rfl h
  | [a], 0, _, _, _ => rfl
  | [a], k + 1, _, _, h => by
    have : (46 : UInt8) ∉ a := fun hm => h a (by simp) 46 hm rfl
    simp [join, spl, this]
  | a :: b :: r, 0, _, hl, _ => by simp at hl
  | a :: b :: r, k + 1, _, hl, h => by
    obtain ⟨h1, h2⟩ := take_pt (r := join (b :: r)) (h a (by simp))
    rw [join, spl, if_pos (by simp), h1, h2]
    simp only [List.drop_succ_cons, List.drop_zero]
    rw [spl_join (b :: r) k (by simp) (by simp at hl ⊢; omega) (fun x hx => h x (List.mem_cons_of_mem _ hx))]
theorem join_snoc : ∀ (l : List (List UInt8)) (x : List UInt8), l ≠ [] → join (l ++ [x]) = join l ++ 46 :: x
  | [], x, h => absurd rfl h
  | [a], x, _ => by simp [join]
  | a :: b :: r, x, _ => by
    have := join_snoc (b :: r) x (by simp)
    simp only [List.cons_append] at this ⊢
    rw [join, this, join]
    simp
end Go.Proofs.YtagmjdhjhjlffaaDoor.Kb
