/- Versions: scDigits, zzSplitN. -/
import Derived.Test.YtagmjdhjhjlffaaDoorVerB
namespace Go.Proofs.YtagmjdhjhjlffaaDoor.Kb
open Go Go.RowKit
set_option linter.unusedVariables false
set_option linter.unusedSimpArgs false
set_option maxHeartbeats 6400000
def lenOf : Value → Nat
  | .slice _ l _ => l
  | _ => 0
theorem own_new (w : World) {B : Nat} {t : TypeId} (u : Value) (hB : B ≤ w.heap.size) : (w.alloc (.cells #[u] t)).ownsRow B t 1 (.slice (some ⟨w.heap.size, 0, none⟩) 1 1) 1 [u] :=
  ⟨rfl, .inr ⟨w.heap.size, 1, #[u], rfl, hB, Blk.new w #[u] t, Nat.le_refl _, by decide, rfl, by simp⟩⟩
/-- A text's bytes as numbers. -/
def nums (l : List UInt8) : List Int := l.map fun c => (c.toNat : Int)
theorem nums_cons (d : Nat) (hd : d < 10) (l : List UInt8) : nums (UInt8.ofNat (48 + d) :: l) = (48 + (d : Int)) :: nums l := by
  have : (UInt8.ofNat (48 + d)).toNat = 48 + d := by simp only [UInt8.toNat_ofNat']; omega
  simp only [nums, List.map_cons, this]
  simp
theorem str_nums (l : List UInt8) : strOfNums (nums l) = S l := by
  apply ByteArray.ext
  simp [strOfNums, nums, S, Function.comp_def]
set_option maxRecDepth 100000 in
theorem scDigits (n least : Nat) (hn : n < 18446744073709551616) (h1 : 1 ≤ least) (h2 : least ≤ 10) (w : World) : Calls Tryd.prog 12 #[.int .u64 n, .int .i64 least] w fun e w' => Says (lowD n (wide n least)) w e w' := by
  have I' := info_of (P := Tryd.prog) (t := 5) (z := .int .u8 0) (s := 1) (n := 1) (by kernel_rfl)
  obtain ⟨i0, hi⟩ := I'
  have I := Hd.mk hi
  clear hi
  obtain ⟨m, hm⟩ : ∃ m, wide n least = m := ⟨_, rfl⟩
  have hm20 : m ≤ 20 := by
    have := nDigits_le (n := n) (k := 20) (by omega) (by omega)
    rw [← hm]; unfold wide; omega
  have HG : Hd (∀ j, j < m → 0 < n / 10 ^ j ∨ j < least) := ⟨fun j hj => wide_go h1 (by rw [hm]; exact hj)⟩
  have HS : Hd (n / 10 ^ m = 0 ∧ least ≤ m) := ⟨by rw [← hm]; exact wide_stop⟩
  have HC := Hd.mk (fun j => lowD_cons j n)
  have hm := Hd.mk hm
  have HB0 := Hd.mk (Below.refl w.heap.size w)
  have HO0 : Hd (w.ownsRow w.heap.size 5 1 (.slice none 0 0) 0 (bc (nums (lowD n 0)))) := ⟨⟨rfl, .inl ⟨rfl, rfl⟩⟩⟩
  go_enter Tryd.func12, Tryd.ntmps12
  go_wp2
  go_loopw [0, 5] (fun x v wq => ∃ j : Nat, j ≤ m ∧ x = .int .u64 (n / 10 ^ j : Nat) ∧ wq.ownsRow w.heap.size 5 1 v j (bc (nums (lowD n j))) ∧ Below w.heap.size w wq) (fun _ v _ => m - lenOf v)
  case atStart => exact ⟨0, Nat.zero_le _, by simp, HO0.out, HB0.out⟩
  case round =>
    obtain ⟨j, hj, rfl, hown, hbw⟩ := hrel
    obtain ⟨A, c, rfl, hc1, hc2, hr, _, _⟩ := own_rd hown (by omega)
    obtain ⟨q, hq⟩ : ∃ q, n / 10 ^ j = q := ⟨_, rfl⟩
    have hq64 : q < 18446744073709551616 := by rw [← hq]; exact Nat.lt_of_le_of_lt (Nat.div_le_self _ _) hn
    rw [hq]
    by_cases hlt : j < m
    · have hcase := HG.out j hlt
      rw [hq] at hcase
      have HQ : Hd (n / 10 ^ (j + 1) = q / 10) := ⟨by rw [Nat.pow_succ, ← Nat.div_div_eq_div_mul, hq]⟩
      have HN : Hd (nums (lowD n (j + 1)) = (48 + ((q % 10 : Nat) : Int)) :: nums (lowD n j)) := ⟨by rw [HC.out j, hq, nums_cons _ (Nat.mod_lt _ (by omega))]⟩
      have hgt : (decide (0 < (q : Int)) || decide ((j : Int) < least)) = true := by simp; omega
      have hmod : (q : Int) % 10 = ((q % 10 : Nat) : Int) := by omega
      have htd : IntKind.u64.wrap ((q : Int).tdiv 10) = ((q / 10 : Nat) : Int) := by
        rw [IntKind.wrap_u64, show (q : Int).tdiv 10 = ((q / 10 : Nat) : Int) from rfl]; omega
      have hte : (q : Int).tdiv 10 = ((q / 10 : Nat) : Int) := rfl
      obtain ⟨q1, hq1⟩ : ∃ q1, q / 10 = q1 := ⟨_, rfl⟩
      rw [hq1] at HQ htd hte
      have hq1b : q1 < 18446744073709551616 := by omega
      have Hq1 := Hd.mk hq1
      obtain ⟨d, hd⟩ : ∃ d, q % 10 = d := ⟨_, rfl⟩
      have hd10 : d < 10 := by omega
      rw [hd] at hmod HN
      have HR := Hd.mk hr; have HBW := Hd.mk hbw
      clear hown hr hq hd hbw hq1
      have HO1 : Hd ((wr.alloc (.cells #[.int .u8 (48 + d)] 5)).ownsRow w.heap.size 5 1 (.slice (some ⟨wr.heap.size, 0, none⟩) 1 1) 1 [.int .u8 (48 + d)]) := ⟨own_new wr _ HBW.out.size⟩
      have HB1 : Hd (Below w.heap.size w (wr.alloc (.cells #[.int .u8 (48 + d)] 5))) := ⟨HBW.out.alloc HBW.out.size _⟩
      have HR1 : Hd (Rd (wr.alloc (.cells #[.int .u8 (48 + d)] 5)) [] A j (nums (lowD n j))) := ⟨HR.out.below ((Below.refl _ _).alloc (Nat.le_refl _) _)⟩
      rcases (by omega : ¬ (0 : Int) < q ∨ (0 : Int) < q) with hq0 | hq0
      · have hjl : (j : Int) < least := by omega
        obtain rfl : q = 0 := by omega
        obtain rfl : d = 0 := by omega
        go_wp2_with (at_builtin; refine wpList_append_rd rfl (.tmp 18) (.tmp 19) 40 rfl w.heap.size 5 i0 (.int .u8 0) Tryd.underlying40 I.out.1 I.out.2.1 I.out.2.2.1 I.out.2.2.2 rfl _ _ _ rfl HO1.out A j c (nums (lowD n j)) (by simp [Act.eval, Act.put]) HR1.out (by omega) HB1.out.size ?_)
        intro v2 w2 own2 g2
        rw [Nat.add_comm 1 j] at own2
        have HO3 := Hd.mk own2
        have HB3 := Hd.mk (below_grown_own HB1.out HO1.out HB1.out.size (Nat.le_refl _) g2)
        clear own2 g2
        obtain ⟨A2, c2, rfl, _⟩ := own_slice HO3.out
        go_wp2
        go_roundw
        case rel =>
          refine ⟨j + 1, by omega, by rw [HQ.out, ← Hq1.out]; simp, ?_, HB3.out⟩
          rw [HN.out]
          have := HO3.out
          simpa [bc] using this
        case measure => simp [lenOf]; omega
      · go_wp2_with (at_builtin; refine wpList_append_rd rfl (.tmp 18) (.tmp 19) 40 rfl w.heap.size 5 i0 (.int .u8 0) Tryd.underlying40 I.out.1 I.out.2.1 I.out.2.2.1 I.out.2.2.2 rfl _ _ _ rfl HO1.out A j c (nums (lowD n j)) (by simp [Act.eval, Act.put]) HR1.out (by omega) HB1.out.size ?_)
        intro v2 w2 own2 g2
        rw [Nat.add_comm 1 j] at own2
        have HO3 := Hd.mk own2
        have HB3 := Hd.mk (below_grown_own HB1.out HO1.out HB1.out.size (Nat.le_refl _) g2)
        clear own2 g2
        obtain ⟨A2, c2, rfl, _⟩ := own_slice HO3.out
        go_wp2
        go_roundw
        case rel =>
          refine ⟨j + 1, by omega, by rw [HQ.out], ?_, HB3.out⟩
          rw [HN.out]
          have := HO3.out
          simpa [bc] using this
        case measure => simp [lenOf]; omega
    · obtain rfl : j = m := by omega
      obtain ⟨z1, z2⟩ := HS.out
      rw [hq] at z1
      subst z1
      have s1 := str_run (P := Tryd.prog) (src := 40) (dst := 9) (c := c) Tryd.underlying40 Tryd.underlying5 Tryd.underlying9 hr
      rw [str_nums] at s1
      have HBW := Hd.mk hbw
      have hjl : ¬ (j : Int) < least := by omega
      have HM := hm
      clear hown hr hbw hq
      go_wp2
      go_ret
      exact ⟨rfl, HBW.out⟩
end Go.Proofs.YtagmjdhjhjlffaaDoor.Kb
