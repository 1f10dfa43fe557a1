/- The reference's whole numbers: NatFrom, natTrim, NatCmp. -/
import Derived.Test.YtjikodjljocpmaaNatA
namespace Go.Proofs.Ytjikodjljocpmaa.Kb
open Go Go.RowKit
set_option linter.unusedVariables false
set_option linter.unusedSimpArgs false
set_option maxHeartbeats 1000000
theorem belowN {B : Nat} {w w' : World} (h : Below B w w') (n : Nat) : Below B w (w'.drewN n) := ⟨h.os, h.tape, h.output, h.size, h.block⟩
/-- What natTrim answers. -/
def TrimOut (w : World) (A : Option Addr) (c n : Nat) (e : Ending) (w' : World) : Prop := (∃ m, e = .returned (.slice A m c) ∧ DigV .u32 LB w A m c n) ∧ w = w'
set_option maxRecDepth 100000 in
theorem natTrim (A : Option Addr) (l c n : Nat) (w : World) (h : DigL .u32 LB w A l c n) :
    Calls Try.prog 43 #[.slice A l c] w fun e w' => TrimOut w A c n e w' := by
  have H := Hd.mk h
  have c1 := h.cap; have c2 := h.small
  clear h
  go_enter Try.func43, Try.ntmps43
  go_wp2
  go_loop [0] (fun v => ∃ m : Nat, v = .slice A m c ∧ m ≤ l ∧ n < LB ^ m) (fun v => match v with | .slice _ m _ => m | _ => 0)
  case atStart => exact ⟨l, rfl, Nat.le_refl _, H.out.lt⟩
  case round =>
    obtain ⟨m, rfl, hm, hn⟩ := hrel
    have HN := Hd.mk hn
    clear hn
    cases m with
    | zero =>
      go_wp2
      go_ret
      exact ⟨⟨0, rfl, ⟨⟨HN.out, by omega, c2, fun j hj => by omega⟩, .inl rfl⟩⟩, rfl⟩
    | succ m =>
      obtain ⟨g, rfl, hc, hg⟩ := H.out.at_ m (by omega)
      have HT := Hd.mk (top_zero LB1 HN.out)
      have LX := Hd.mk (limb_top LB1 HN.out)
      clear hg
      generalize hX : limb LB n m = x at *
      have HX := Hd.mk hX
      clear hX
      have b1 : (m : Int) + 1 ≤ c := by omega
      by_cases hx : x = 0
      · subst hx
        go_wp2
        go_round
        case rel => exact ⟨m, by simp, by omega, HT.out.1 rfl⟩
        case measure => simp
      · have hx' : ((x : Int) == 0) = false := by simp; omega
        go_wp2
        go_ret
        refine ⟨⟨m + 1, by simp, ⟨⟨HN.out, by omega, c2, fun j hj => H.out.at_ j (by omega)⟩, .inr ?_⟩⟩, rfl⟩
        rcases Nat.lt_or_ge n (LB ^ m) with h | h
        · exact absurd (HT.out.2 h) hx
        · simpa using h
set_option maxRecDepth 100000 in
theorem natFrom (x : Nat) (w : World) (h : x < 18446744073709551616) :
    Calls Try.prog 23 #[.int .u64 x] w fun e w' => NatOut w x e w' := by
  obtain ⟨i0, hi, hz0, hz1, hz2⟩ := info_of infoL
  have I := Hd.mk (And.intro hi (And.intro hz0 (And.intro hz1 hz2)))
  have HM := Hd.mk (show x < LB ^ 3 by unfold LB; omega)
  clear hi hz0 hz1 hz2
  go_enter Try.func23, Try.ntmps23
  go_wp2
  go_loopw [0, 3] (fun y v wr => ∃ k : Nat, y = .int .u64 (x / LB ^ k : Nat) ∧ (k = 0 ∨ LB ^ (k - 1) ≤ x) ∧ wr.ownsRow w.heap.size 74 1 v k (lc .u32 LB x k) ∧ Below w.heap.size w wr) (fun y _ _ => (intOf y).toNat)
  case atStart => exact ⟨0, by simp, .inl rfl, by simpa [lc] using World.ownsRow_nil _ _ _ _, Below.refl _ _⟩
  case round =>
    obtain ⟨k, rfl, hge, hown, hbel⟩ := hrel
    have hk : k ≤ 3 := ge_bound LB1 HM.out hge
    have HG := Hd.mk hge; have HO := Hd.mk hown; have HL := Hd.mk hbel
    have HN := Hd.mk (fun o : Obj => show w.heap.size ≤ (wr.alloc o).heap.size by have := hbel.size; simp; omega)
    have hq : x / LB ^ k < 18446744073709551616 := Nat.lt_of_le_of_lt (Nat.div_le_self _ _) h
    have HQ := Hd.mk (Nat.div_pos_iff (a := x) (b := LB ^ k))
    have e1 : x / LB ^ (k + 1) = x / LB ^ k / 1000000000 := by rw [Nat.pow_succ, ← Nat.div_div_eq_div_mul, LB_eq]
    have e2 : limb LB x k = x / LB ^ k % 1000000000 := by unfold limb; rw [LB_eq]
    have E1 := Hd.mk e1; have E2 := Hd.mk e2
    clear hge hown hbel e1 e2
    generalize hY : x / LB ^ k = y at *
    have HY := Hd.mk hY
    clear hY
    by_cases h0 : 0 < y
    · have HLE := Hd.mk (HQ.out.1 h0).2
      go_wp2_with (at_builtin; refine wpList_append_one (base := w.heap.size) (n := k) (u := .int .u32 ((y : Int) % 1000000000)) (by_ := 4) rfl _ _ 27 rfl Try.underlying27 I.out.1 I.out.2.1 I.out.2.2.1 I.out.2.2.2 rfl rfl (HO.out.alloc _) rfl (Blk.new _ _ _) rfl (by unfold maxLen; omega) (by omega) (HN.out _) ?_)
      intro v2 w2 hown2 hg2
      have HO2 := Hd.mk (show w2.ownsRow w.heap.size 74 1 v2 (k + 1) (lc .u32 LB x (k + 1)) by rw [lc_succ, E2.out]; simpa using hown2)
      have HL2 := Hd.mk (below_grown_own (HL.out.alloc HL.out.size _) (HO.out.alloc _) (HN.out _) (Nat.le_refl _) hg2)
      clear hown2 hg2
      go_wp2
      go_roundw
      case rel => exact ⟨k + 1, by rw [E1.out]; simp, .inr (by simpa using HLE.out), HO2.out, HL2.out⟩
      case measure => simp [intOf]; omega
    · obtain rfl : y = 0 := by omega
      have hlt : x < LB ^ k := by
        rcases Nat.lt_or_ge x (LB ^ k) with h | h
        · exact h
        · have := Nat.div_pos h (Nat.pow_pos (by decide)); rw [HY.out] at this; omega
      obtain ⟨A2, c2, rfl, hd, hf⟩ := own_dig HO.out hlt
      have HD := Hd.mk hd; have HF := Hd.mk hf
      clear hd hlt hf
      go_wp2
      go_ret
      exact ⟨_, _, _, rfl, ⟨HD.out, HG.out⟩, HL.out, HF.out⟩
/-- -1, 0 or 1 as a number is less than another, the same, or greater. -/
def cmpI (a b : Nat) : Int := if a < b then -1 else if b < a then 1 else 0
theorem cmpI_lt {a b : Nat} (h : a < b) : cmpI a b = -1 := by unfold cmpI; rw [if_pos h]
theorem cmpI_gt {a b : Nat} (h : b < a) : cmpI a b = 1 := by unfold cmpI; rw [if_neg (by omega), if_pos h]
theorem cmpI_eq {a b : Nat} (h : a = b) : cmpI a b = 0 := by unfold cmpI; rw [if_neg (by omega), if_neg (by omega)]
theorem i64_eq {a b : Int} (h : a = b) : Ending.returned (.int .i64 a) = .returned (.int .i64 b) := by rw [h]
set_option maxRecDepth 100000 in
theorem natCmp (A : Option Addr) (la ca a : Nat) (A' : Option Addr) (lb cb b : Nat) (w : World) (ha : DigV .u32 LB w A la ca a) (hb : DigV .u32 LB w A' lb cb b) :
    Calls Try.prog 19 #[.slice A la ca, .slice A' lb cb] w fun e w' => e = .returned (.int .i64 (cmpI a b)) ∧ Below w.heap.size w w' := by
  have HA := Hd.mk ha; have HB := Hd.mk hb
  have ca1 := ha.cap; have ca2 := ha.small; have cb1 := hb.cap; have cb2 := hb.small
  clear ha hb
  rcases Nat.lt_trichotomy la lb with hl | hl | hl
  · have hne : ((la : Int) != lb) = true := by simp; omega
    have R := Hd.mk (cmpI_lt (len_less LB1 HA.out.lt HB.out.ge hl))
    go_enter Try.func19, Try.ntmps19
    go_wp2
    go_ret
    exact ⟨i64_eq R.out.symm, Below.refl _ _⟩
  · subst hl
    go_enter Try.func19, Try.ntmps19
    go_wp2
    go_loopw [5] (fun i wr => ∃ k : Nat, k ≤ la ∧ i = .int .i64 ((k : Int) - 1) ∧ a / LB ^ k = b / LB ^ k ∧ Below w.heap.size w wr) (fun i _ => (intOf i + 1).toNat)
    case atStart => exact ⟨la, Nat.le_refl _, by simp, by rw [Nat.div_eq_of_lt HA.out.lt, Nat.div_eq_of_lt HB.out.lt], Below.refl _ _⟩
    case round =>
      obtain ⟨k, hk, rfl, he, hbel⟩ := hrel
      have HE := Hd.mk he; have HL := Hd.mk hbel
      clear he hbel
      cases k with
      | zero =>
        have e0 : ((0 : Nat) : Int) - 1 = -1 := by decide
        simp only [e0]
        go_wp2
        go_ret
        exact ⟨i64_eq (cmpI_eq (by simpa using HE.out)).symm, HL.out⟩
      | succ k =>
        have e0 : ((k + 1 : Nat) : Int) - 1 = k := by omega
        simp only [e0]
        obtain ⟨g1, rfl, s1, l1⟩ := HA.out.at_ k (by omega)
        obtain ⟨g2, rfl, s2, l2⟩ := HB.out.at_ k (by omega)
        have s1' : wr.cell? ⟨g1, k, none⟩ = some (.int .u32 (limb LB a k)) := by rw [HL.out.cell (p := ⟨g1, k, none⟩) l1]; exact s1
        have s2' : wr.cell? ⟨g2, k, none⟩ = some (.int .u32 (limb LB b k)) := by rw [HL.out.cell (p := ⟨g2, k, none⟩) l2]; exact s2
        have CL := Hd.mk (cmp_limb LB1 HE.out)
        have hx := LBlt a k; have hy := LBlt b k
        have i1 : (k : Int) < la := by omega
        have i2 : (0 : Int) ≤ k := by omega
        clear s1 s2 l1 l2 e0
        generalize limb LB a k = x at *
        generalize limb LB b k = y at *
        by_cases hxy : x = y
        · subst hxy
          go_wp2
          go_quiet (fail)
          go_wp2
          go_roundw
          case rel => exact ⟨k, by omega, rfl, CL.out.2.2 trivial, belowN HL.out _⟩
          case measure => simp [intOf]
        · have n1 : ((x : Int) != y) = true := by simp; omega
          go_wp2
          go_quiet (fail)
          go_wp2
          by_cases hlt : x < y
          · have hlt' : (x : Int) < y := by omega
            go_quiet (fail)
            go_wp2
            go_ret
            exact ⟨i64_eq (cmpI_lt (CL.out.1 hlt)).symm, by first | exact belowN HL.out _ | exact belowN (belowN HL.out _) _⟩
          · have hlt' : ¬ (x : Int) < y := by omega
            go_quiet (fail)
            go_wp2
            go_ret
            exact ⟨i64_eq (cmpI_gt (CL.out.2.1 (by omega))).symm, by first | exact belowN HL.out _ | exact belowN (belowN HL.out _) _⟩
  · have hne : ((la : Int) != lb) = true := by simp; omega
    have R := Hd.mk (cmpI_gt (len_less LB1 HB.out.lt HA.out.ge hl))
    go_enter Try.func19, Try.ntmps19
    go_wp2
    go_ret
    exact ⟨i64_eq R.out.symm, Below.refl _ _⟩
end Go.Proofs.Ytjikodjljocpmaa.Kb
