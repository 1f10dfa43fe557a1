/- The reference's whole numbers: natShort, NatSub, NatPow. -/
import Derived.Test.YtjikodjljocpmaaNatC
namespace Go.Proofs.Ytjikodjljocpmaa.Kb
open Go Go.RowKit
set_option linter.unusedVariables false
set_option linter.unusedSimpArgs false
set_option maxHeartbeats 1000000
theorem mixL_down {T S m N : Nat} {u : Int} (hm : m < N) (hu : u = (limb LB S m : Nat)) : (mixL T S (m + 1) N).toArray.setIfInBounds m (.int .u32 u) = (mixL T S m N).toArray := by
  subst hu
  apply Array.ext'
  rw [Array.toList_setIfInBounds]
  apply List.ext_getElem?
  intro j
  rw [List.getElem?_set]
  by_cases hj : j < N
  · by_cases e : m = j
    · subst e; simp [mixL, hj]
    · rw [if_neg e]
      simp only [mixL, List.getElem?_map, List.getElem?_range hj, Option.map_some]
      by_cases h1 : j < m
      · rw [if_pos h1, if_pos (by omega)]
      · rw [if_neg h1, if_neg (by omega)]
  · have : ¬ m = j := by omega
    rw [if_neg this]
    simp [mixL, hj]
theorem zs_mix (N : Nat) (S m : Nat) (h : ∀ j, j < N → m ≤ j → limb LB S j = 0) : zs N (.int .u32 0) = mixL 0 S m N := by
  apply List.ext_getElem?
  intro j
  by_cases hj : j < N
  · by_cases h1 : j < m
    · simp [zs, mixL, hj, limb, h1]
    · simp [zs, mixL, hj, h1, h j hj (by omega)]
  · simp [zs, mixL, hj]
/-- What natShort answers. -/
def ShortOut (w : World) (a b : Nat) (e : Ending) (w' : World) : Prop := ∃ A l c, e = .returned (.tuple #[.slice A l c, .int .u32 (a % b : Nat)]) ∧ DigV .u32 LB w' A l c (a / b) ∧ Below w.heap.size w w' ∧ ∀ ad, A = some ad → w.heap.size ≤ ad.block
set_option maxRecDepth 100000 in
theorem natShort (A : Option Addr) (la ca a b : Nat) (w : World) (ha : DigV .u32 LB w A la ca a) (fa : la ≤ 8796093022208) (h0 : 0 < b) (hb : b < 1000000000) :
    Calls Try.prog 60 #[.slice A la ca, .int .u32 b] w fun e w' => ShortOut w a b e w' := by
  have HA := Hd.mk ha
  have ca1 := ha.cap; have ca2 := ha.small
  have HQ := Hd.mk (show a / b < LB ^ la from Nat.lt_of_le_of_lt (Nat.div_le_self _ _) ha.lt)
  have Z := Hd.mk (zs_mix la (a / b) la (fun j h1 h2 => by omega))
  clear ha
  go_enter Try.func60, Try.ntmps60
  go_wp2_with (refine wpList_make_z rfl _ _ 27 rfl 74 (.int .u32 0) 4 Try.underlying27 infoL rfl .i64 .i64 _ _ la rfl rfl rfl rfl (by omega) (by omega) ?_)
  intro w1 hbk hl hs
  have HK := Hd.mk (hbk.cast (by rw [Z.out])); have HL := Hd.mk hl
  clear hbk hl hs
  go_wp2
  go_loopw [7, 8] (fun r i wr => ∃ k : Nat, k ≤ la ∧ i = .int .i64 ((k : Int) - 1) ∧ r = .int .u64 (a / LB ^ k % b : Nat) ∧ Blk wr w.heap.size (mixL 0 (a / b) k la).toArray 74 ∧ Below w.heap.size w wr) (fun _ i _ => (intOf i + 1).toNat)
  case atStart => exact ⟨la, Nat.le_refl _, by simp, by rw [Nat.div_eq_of_lt HA.out.lt]; simp, HK.out, HL.out⟩
  case round =>
    obtain ⟨k, hk, rfl, rfl, hbk, hbel⟩ := hrel
    have HK := Hd.mk hbk; have HL := Hd.mk hbel
    clear hbk hbel
    cases k with
    | zero =>
      have e0 : ((0 : Nat) : Int) - 1 = -1 := by decide
      simp only [e0]
      have hd := mix_dig (n := a / b) (HK.out.cast (by congr 1; exact mixL_eq fun j hj => by simp)) HQ.out (by omega)
      have C := Hd.mk (natTrim _ _ _ _ _ hd)
      have hr : a / LB ^ 0 % b < 1000000000 := Nat.lt_trans (Nat.mod_lt _ h0) hb
      have E := Hd.mk (show a / LB ^ 0 % b = a % b by simp)
      clear e0 hd
      generalize hR : a / LB ^ 0 % b = r at *
      clear hR
      go_wp2_with fail
      with_reducible refine C.out.mono ?_
      rintro e w3 ⟨⟨m, rfl, hm⟩, rfl⟩
      have HM := Hd.mk hm
      clear hm C
      go_wp2
      go_ret2
      exact ⟨some ⟨w.heap.size, 0, none⟩, m, la, by rw [← E.out]; rfl, HM.out, HL.out, fun ad h => by cases h; exact Nat.le_refl _⟩
    | succ k =>
      have e0 : ((k + 1 : Nat) : Int) - 1 = k := by omega
      simp only [e0]
      obtain ⟨g1, rfl, s1, l1⟩ := HA.out.at_ k (by omega)
      have s1' : wr.cell? ⟨g1, k, none⟩ = some (.int .u32 (limb LB a k)) := by rw [HL.out.cell (p := ⟨g1, k, none⟩) l1]; exact s1
      have s3 : ∃ v, wr.cell? ⟨w.heap.size, k, none⟩ = some v := ⟨_, HK.out.cell k (mixL_get (T := 0) (S := a / b) (m := k + 1) (N := la) (by omega))⟩
      obtain ⟨v3, s3⟩ := s3
      have f3 := HK.out.free k
      have hx := LBlt a k
      have hr : a / LB ^ (k + 1) % b < b := Nat.mod_lt _ h0
      have P1 := Hd.mk (short_limb LB1 (a := a) (b := b) (i := k) h0)
      have P2 := Hd.mk (short_rest LB1 a b k)
      have hq := LBlt (a / b) k
      rw [P1.out] at hq
      clear s1 l1 e0
      generalize hX : limb LB a k = x at *
      generalize hR : a / LB ^ (k + 1) % b = r at *
      have HX := Hd.mk hX; have HR := Hd.mk hR
      clear hX hR
      rw [LB_eq] at hq
      have hq2 : ((r : Int) * 1000000000 + x) / b < 1000000000 := by
        have : (((r * 1000000000 + x) / b : Nat) : Int) = ((r : Int) * 1000000000 + x) / b := by simp
        omega
      have hq3 : 0 ≤ ((r : Int) * 1000000000 + x) / b := Int.ediv_nonneg (by omega) (by omega)
      have i1 : (1 : Int) ≤ b := by omega
      clear hq
      go_wp2
      go_roundw
      case rel =>
        refine ⟨k, by omega, by simp, ?_, ?_, HL.out.setCell (Nat.le_refl _) _⟩
        · rw [P2.out, LB_eq]; simp
        · refine (HK.out.set k _).cast ?_
          exact mixL_down (by omega) (by rw [P1.out, LB_eq]; simp)
      case measure => simp [intOf]
theorem natShortI (A : Option Addr) (la ca a b : Nat) (x : Int) (w : World) (ha : DigV .u32 LB w A la ca a) (fa : la ≤ 8796093022208) (h0 : 0 < b) (hb : b < 1000000000) (hx : x = b) :
    Calls Try.prog 60 #[.slice A la ca, .int .u32 x] w fun e w' => ShortOut w a b e w' := by subst hx; exact natShort A la ca a b w ha fa h0 hb
/-- A round of NatSub: what the next one finds. -/
theorem sub_next {w w2 : World} {a b k : Nat} {v : Value} {y u : Int} (hown : w2.ownsRow w.heap.size 74 1 v (k + 1) (lc .u32 LB (a - b) k ++ [.int .u32 u])) (hu : u = (limb LB (a - b) k : Nat)) :
    w2.ownsRow w.heap.size 74 1 v (k + 1) (lc .u32 LB (a - b) (k + 1)) := by
  rw [lc_succ, ← hu]
  exact hown
set_option maxRecDepth 100000 in
theorem natSub (A : Option Addr) (la ca a : Nat) (A' : Option Addr) (lb cb b : Nat) (w : World) (ha : DigV .u32 LB w A la ca a) (hb : DigV .u32 LB w A' lb cb b) (fa : la ≤ 8796093022208) (hle : b ≤ a) :
    Calls Try.prog 39 #[.slice A la ca, .slice A' lb cb] w fun e w' => NatOut w (a - b) e w' := by
  obtain ⟨i0, hi, hz0, hz1, hz2⟩ := info_of infoL
  have I := Hd.mk (And.intro hi (And.intro hz0 (And.intro hz1 hz2)))
  have HA := Hd.mk ha; have HB := Hd.mk hb
  have ca1 := ha.cap; have ca2 := ha.small; have cb1 := hb.cap; have cb2 := hb.small
  have DL := Hd.mk (fun i => diff_limb LB1 (a := a) (b := b) (i := i) hle)
  clear hi hz0 hz1 hz2 ha hb
  go_enter Try.func39, Try.ntmps39
  go_wp2
  go_loopw [5, 6, 12] (fun v cy i wr => ∃ k : Nat, k ≤ la ∧ i = .int .i64 k ∧ cy = .int .u32 (cin LB (a - b) b k) ∧ wr.ownsRow w.heap.size 74 1 v k (lc .u32 LB (a - b) k) ∧ Below w.heap.size w wr) (fun _ _ i _ => la - (intOf i).toNat)
  case atStart => exact ⟨0, by omega, rfl, by rw [cin_zero LB1]; rfl, by simpa [lc] using World.ownsRow_nil _ _ _ _, Below.refl _ _⟩
  case round =>
    obtain ⟨k, hk, rfl, rfl, hown, hbel⟩ := hrel
    have HO := Hd.mk hown; have HL := Hd.mk hbel
    have HN := Hd.mk (fun o : Obj => show w.heap.size ≤ (wr.alloc o).heap.size by have := hbel.size; simp; omega)
    clear hown hbel
    by_cases hlt : k < la
    · obtain ⟨g1, rfl, s1, l1⟩ := HA.out.at_ k hlt
      have s1' : wr.cell? ⟨g1, k, none⟩ = some (.int .u32 (limb LB a k)) := by rw [HL.out.cell (p := ⟨g1, k, none⟩) l1]; exact s1
      have hc1 := cin_le LB1 (a - b) b k
      have hx := LBlt a k; have hy := LBlt b k
      have D := Hd.mk (DL.out k)
      have FB := Hd.mk (fun h : k < lb => HB.out.at_ k h)
      have ZB := Hd.mk (fun h : lb ≤ k => limb_over LB1 HB.out.lt h)
      clear s1 l1
      generalize hX : limb LB a k = x at *
      generalize hY : limb LB b k = y at *
      generalize hC : cin LB (a - b) b k = cy at *
      have HX := Hd.mk hX; have HY := Hd.mk hY; have HC := Hd.mk hC
      clear hX hY hC
      by_cases h2 : k < lb
      · obtain ⟨g2, rfl, s2, l2⟩ := FB.out h2
        have s2' : wr.cell? ⟨g2, k, none⟩ = some (.int .u32 y) := by rw [HL.out.cell (p := ⟨g2, k, none⟩) l2]; exact s2
        clear s2 l2
        rcases D.out with ⟨d1, d2, d3⟩ | ⟨d1, d2, d3⟩
        · have D2 := Hd.mk d2; have D3 := Hd.mk d3; have hD := d1
          rw [LB_eq] at d2
          clear d2 d3
          go_wp2_with (at_builtin; refine wpList_append_one (base := w.heap.size) (n := k) (u := .int .u32 ((x : Int) + 1000000000 - ((cy : Int) + y))) (by_ := 4) rfl _ _ 27 rfl Try.underlying27 I.out.1 I.out.2.1 I.out.2.2.1 I.out.2.2.2 rfl rfl (HO.out.alloc _) rfl (Blk.new _ _ _) rfl (by unfold maxLen; omega) (by omega) (HN.out _) ?_)
          intro v2 w2 hown2 hg2
          have HO2 := Hd.mk (sub_next (y := 0) hown2 (by rw [D2.out]; have := LB_eq; omega))
          have HL2 := Hd.mk (below_grown_own (HL.out.alloc HL.out.size _) (HO.out.alloc _) (HN.out _) (Nat.le_refl _) hg2)
          clear hown2 hg2 hD s2' s1'
          go_wp2
          go_roundw
          case rel => exact ⟨k + 1, by omega, by go_num, by rw [D3.out]; rfl, HO2.out, HL2.out⟩
          case measure => simp [intOf]; omega
        · have D2 := Hd.mk d2; have D3 := Hd.mk d3; have hD : ¬ x < cy + y := by omega
          clear d2 d3
          go_wp2_with (at_builtin; refine wpList_append_one (base := w.heap.size) (n := k) (u := .int .u32 ((x : Int) - ((cy : Int) + y))) (by_ := 4) rfl _ _ 27 rfl Try.underlying27 I.out.1 I.out.2.1 I.out.2.2.1 I.out.2.2.2 rfl rfl (HO.out.alloc _) rfl (Blk.new _ _ _) rfl (by unfold maxLen; omega) (by omega) (HN.out _) ?_)
          intro v2 w2 hown2 hg2
          have HO2 := Hd.mk (sub_next (y := 0) hown2 (by rw [D2.out]; have := LB_eq; omega))
          have HL2 := Hd.mk (below_grown_own (HL.out.alloc HL.out.size _) (HO.out.alloc _) (HN.out _) (Nat.le_refl _) hg2)
          clear hown2 hg2 hD s2' s1'
          go_wp2
          go_roundw
          case rel => exact ⟨k + 1, by omega, by go_num, by rw [D3.out]; rfl, HO2.out, HL2.out⟩
          case measure => simp [intOf]; omega
      · obtain rfl : y = 0 := ZB.out (by omega)
        rcases D.out with ⟨d1, d2, d3⟩ | ⟨d1, d2, d3⟩
        · have D2 := Hd.mk d2; have D3 := Hd.mk d3; have hD : x < cy := by omega
          clear d2 d3
          go_wp2_with (at_builtin; refine wpList_append_one (base := w.heap.size) (n := k) (u := .int .u32 ((x : Int) + 1000000000 - (cy : Int))) (by_ := 4) rfl _ _ 27 rfl Try.underlying27 I.out.1 I.out.2.1 I.out.2.2.1 I.out.2.2.2 rfl rfl (HO.out.alloc _) rfl (Blk.new _ _ _) rfl (by unfold maxLen; omega) (by omega) (HN.out _) ?_)
          intro v2 w2 hown2 hg2
          have HO2 := Hd.mk (sub_next (y := 0) hown2 (by rw [D2.out]; have := LB_eq; omega))
          have HL2 := Hd.mk (below_grown_own (HL.out.alloc HL.out.size _) (HO.out.alloc _) (HN.out _) (Nat.le_refl _) hg2)
          clear hown2 hg2 hD s1'
          go_wp2
          go_roundw
          case rel => exact ⟨k + 1, by omega, by go_num, by rw [D3.out]; rfl, HO2.out, HL2.out⟩
          case measure => simp [intOf]; omega
        · have D2 := Hd.mk d2; have D3 := Hd.mk d3; have hD : ¬ x < cy := by omega
          clear d2 d3
          go_wp2_with (at_builtin; refine wpList_append_one (base := w.heap.size) (n := k) (u := .int .u32 ((x : Int) - (cy : Int))) (by_ := 4) rfl _ _ 27 rfl Try.underlying27 I.out.1 I.out.2.1 I.out.2.2.1 I.out.2.2.2 rfl rfl (HO.out.alloc _) rfl (Blk.new _ _ _) rfl (by unfold maxLen; omega) (by omega) (HN.out _) ?_)
          intro v2 w2 hown2 hg2
          have HO2 := Hd.mk (sub_next (y := 0) hown2 (by rw [D2.out]; have := LB_eq; omega))
          have HL2 := Hd.mk (below_grown_own (HL.out.alloc HL.out.size _) (HO.out.alloc _) (HN.out _) (Nat.le_refl _) hg2)
          clear hown2 hg2 hD s1'
          go_wp2
          go_roundw
          case rel => exact ⟨k + 1, by omega, by go_num, by rw [D3.out]; rfl, HO2.out, HL2.out⟩
          case measure => simp [intOf]; omega
    · obtain rfl : k = la := by omega
      obtain ⟨A2, c2, rfl, hd, hf⟩ := own_dig HO.out (Nat.lt_of_le_of_lt (Nat.sub_le _ _) HA.out.lt)
      have HF := Hd.mk hf
      have C := Hd.mk (natTrim _ _ _ _ _ hd)
      have hd1 := hd.cap; have hd2 := hd.small
      clear hd hf
      go_wp2_with fail
      with_reducible refine C.out.mono ?_
      rintro e w3 ⟨⟨m, rfl, hm⟩, rfl⟩
      have HM := Hd.mk hm
      clear hm C
      go_wp2
      go_ret
      exact ⟨_, _, _, rfl, HM.out, HL.out, HF.out⟩
theorem natFromI (x : Int) (n : Nat) (w : World) (hx : x = n) (h : n < 18446744073709551616) : Calls Try.prog 23 #[.int .u64 x] w fun e w' => NatOut w n e w' := by subst hx; exact natFrom n w h
set_option maxRecDepth 100000 in
theorem natPow (A : Option Addr) (la ca a N : Nat) (w : World) (ha : DigV .u32 LB w A la ca a) (f1 : la ≤ 1000) (f2 : N ≤ 100000) :
    Calls Try.prog 42 #[.slice A la ca, .int .i64 N] w fun e w' => NatOut w (a ^ N) e w' := by
  have HA := Hd.mk ha
  have C0 := Hd.mk (fun w => natFromI 1 1 w rfl (by decide))
  clear ha
  go_enter Try.func42, Try.ntmps42
  go_wp2_with fail
  with_reducible refine (C0.out _).mono ?_
  rintro e w1 ⟨A1, l1, c1, rfl, hd, hb, hf⟩
  have HD := Hd.mk hd; have HL := Hd.mk hb; have HF := Hd.mk hf
  clear hd hb hf C0
  go_wp2_with fail
  go_loopw [1, 5] (fun i v wr => ∃ k : Nat, k ≤ N ∧ i = .int .i64 ((N : Int) - k) ∧ (∃ A l c, v = .slice A l c ∧ DigV .u32 LB wr A l c (a ^ k) ∧ ∀ ad, A = some ad → w.heap.size ≤ ad.block) ∧ Below w.heap.size w wr) (fun i _ _ => (intOf i).toNat)
  case atStart => exact ⟨0, by omega, by simp, ⟨_, _, _, rfl, by simpa using HD.out, HF.out⟩, HL.out⟩
  case round =>
    obtain ⟨k, hk, rfl, ⟨A2, l2, c2, rfl, hd, hf⟩, hbel⟩ := hrel
    have HD := Hd.mk hd; have HL := Hd.mk hbel; have HF := Hd.mk hf
    clear hd hbel hf
    by_cases hlt : k < N
    · have fl : l2 ≤ la * k + 1 := HD.out.len_le LB1 (show a ^ k < LB ^ (la * k + 1) by
        have h1 : a ^ k ≤ (LB ^ la) ^ k := Nat.pow_le_pow_left (Nat.le_of_lt HA.out.lt) k
        rw [← Nat.pow_mul] at h1
        exact Nat.lt_of_le_of_lt h1 (Nat.pow_lt_pow_right LB1 (by omega)))
      have fl2 : la * k ≤ 1000 * 100000 := Nat.mul_le_mul f1 (by omega)
      have C := Hd.mk (natMul _ _ _ _ _ _ _ _ _ HD.out (HA.out.below HL.out) (by omega) (by omega))
      have i1 : (0 : Int) < (N : Int) - k := by omega
      clear fl fl2
      go_wp2_with fail
      with_reducible refine C.out.mono ?_
      rintro e w3 ⟨A3, l3, c3, rfl, hd3, hb3, hf3⟩
      have HD3 := Hd.mk hd3; have HL3 := Hd.mk (HL.out.trans (hb3.mono HL.out.size)); have HF3 := Hd.mk (fun ad h => Nat.le_trans HL.out.size (hf3 ad h))
      clear hd3 hb3 hf3 C
      go_wp2_with fail
      go_roundw
      case rel => exact ⟨k + 1, by omega, by congr 1; omega, ⟨_, _, _, rfl, by rw [Nat.pow_succ]; exact HD3.out, HF3.out⟩, HL3.out⟩
      case measure => simp [intOf]; omega
    · obtain rfl : k = N := by omega
      have e0 : ((k : Int) - k) = 0 := by omega
      simp only [e0]
      go_wp2_with fail
      go_ret
      exact ⟨_, _, _, rfl, HD.out, HL.out, HF.out⟩
end Go.Proofs.Ytjikodjljocpmaa.Kb
