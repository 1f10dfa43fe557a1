/- math/big: a carry added to a row of words in place; addVW. -/
import Derived.Test.YtjikodjljocpmaaBigM
import Derived.Lib.Builder
import Derived.BigQuiet
namespace Go.Proofs.Ytjikodjljocpmaa.Kb
open Go Go.RowKit
set_option linter.unusedVariables false
set_option linter.unusedSimpArgs false
set_option maxHeartbeats 1000000
theorem gb_drewN {w w' : World} {row : Option Nat} (n : Nat) (h : w.grownBy w' row) : w.grownBy (w'.drewN n) row := ⟨h.os, h.tape, h.output, h.size, h.block⟩
theorem carry_none {a b p : Nat} (hb : ∀ j, p ≤ j → limb WB b j = 0) (h : cin WB a b p = 0) (d : Nat) : cin WB a b (p + d) = 0 := by
  induction d with
  | zero => exact h
  | succ d ih =>
    show cin WB a b (p + d + 1) = 0
    rw [cin_succ WB1, ih, hb (p + d) (by omega)]
    exact Nat.div_eq_of_lt (by have := limb_lt WB1 a (p + d); omega)
theorem limb_keep {a b p j : Nat} (hb : ∀ j, p ≤ j → limb WB b j = 0) (h : cin WB a b p = 0) (hj : p ≤ j) : limb WB (a + b) j = limb WB a j := by
  obtain ⟨d, rfl⟩ : ∃ d, j = p + d := ⟨j - p, by omega⟩
  rw [sum_limb WB1, carry_none hb h, hb _ hj, Nat.zero_add, Nat.add_zero]
  exact Nat.mod_eq_of_lt (by have := limb_lt WB1 a (p + d); omega)
theorem limb_up {a b p : Nat} (hb : limb WB b p = 0) (h : cin WB a b p = 1) (hx : limb WB a p ≠ 18446744073709551615) : limb WB (a + b) p = limb WB a p + 1 ∧ cin WB a b (p + 1) = 0 := by
  have h1 := WBlt a p
  rw [sum_limb WB1, cin_succ WB1, h, hb]
  exact ⟨(Nat.mod_eq_of_lt (by show _ < 18446744073709551616; omega)).trans (by omega), Nat.div_eq_of_lt (by show _ < 18446744073709551616; omega)⟩
theorem limb_roll {a b p : Nat} (hb : limb WB b p = 0) (h : cin WB a b p = 1) (hx : limb WB a p = 18446744073709551615) : limb WB (a + b) p = 0 ∧ cin WB a b (p + 1) = 1 := by
  rw [sum_limb WB1, cin_succ WB1, h, hb, hx]
  decide
/-- What addVW answers, in place. -/
def VWOut (w : World) (g a b o m : Nat) (f : Nat → Value) (N : Nat) (t : List Value) (e : Ending) (w' : World) : Prop :=
  e = .returned (.int .u64 (cin WB a b m : Nat)) ∧ Blk w' g (mapR (fun j => if o ≤ j ∧ j < m then .int .u64 (limb WB (a + b) j) else f j) N t) 91 ∧ w.grownBy w' (some g)
set_option maxRecDepth 100000 in
theorem addVWs (g o k cz cx N a b : Nat) (f : Nat → Value) (t : List Value) (w : World) (hz : Blk w g (mapR f N t) 91) (hN : o + k ≤ N) (hN2 : N ≤ 9223372036854775807) (hk0 : 0 < k) (hcz : k ≤ cz) (hcx : k ≤ cx) (hf : ∀ j, o ≤ j → j < o + k → f j = .int .u64 (limb WB a j))
    (hb : ∀ j, o ≤ j → limb WB b j = 0) :
    Calls Try.prog 77 #[.slice (some ⟨g, o, none⟩) k cz, .slice (some ⟨g, o, none⟩) k cx, .int .u64 (cin WB a b o : Nat)] w fun e w' => VWOut w g a b o (o + k) f N t e w' := by
  obtain ⟨jW, hj, _⟩ := info_of infoW
  have hne : ∀ W : World, (binOp .neq 137 (.pointer (some ⟨g, o, none⟩)) (.pointer (some ⟨g, o, none⟩))).run Try.prog W = .ok (.bool false) W := fun W => Lib.run_neq_ptr_same W _ Try.underlying137 hj
  have HZ := Hd.mk hz; have HF := Hd.mk hf; have HB := Hd.mk hb
  have d0 : w.cell? ⟨g, o, none⟩ = some (.int .u64 (limb WB a o)) := by
    have := hz.cell o (mapR_get (by omega))
    rw [hf o (Nat.le_refl _) (by omega)] at this
    exact this
  have f0 := hz.free o
  have C := Hd.mk (fun w => bitsAddL a b o w)
  have HS1 := Hd.mk (hz.set o (.int .u64 (limb WB (a + b) o)))
  have GB1 := Hd.mk (gb_set w g o (.int .u64 (limb WB (a + b) o)))
  rw [hb o (Nat.le_refl _)] at C
  have C' := Hd.mk (fun w => (show Calls Try.prog 83 #[.int .u64 (limb WB a o : Nat), .int .u64 (cin WB a b o : Nat), .int .u64 0] w fun e w' => e = .returned (.tuple #[.int .u64 (limb WB (a + b) o : Nat), .int .u64 (cin WB a b (o + 1) : Nat)]) ∧ w = w' from by
    refine (bitsAdd (limb WB a o) (cin WB a b o) 0 (by omega) w).mono ?_
    rintro e w' ⟨rfl, rfl⟩
    rw [sum_limb WB1, cin_succ WB1, hb o (Nat.le_refl _), show limb WB a o + cin WB a b o + 0 = cin WB a b o + limb WB a o + 0 by omega]
    exact ⟨rfl, rfl⟩))
  have hc1 := cin_le WB1 a b (o + 1)
  have LS := Hd.mk (fun (p i : Nat) (h1 : o ≤ p) (h2 : p < o + k) (h0 : o ≤ i) (h3 : cin WB a b i = 0) (h4 : i ≤ p) => show f p = .int .u64 (limb WB (a + b) p) by
    rw [hf p h1 h2, limb_keep (fun j hj => hb j (by omega)) h3 h4])
  clear hz hf hb C
  rcases (show cin WB a b (o + 1) = 0 ∨ cin WB a b (o + 1) = 1 by omega) with hc | hc
  · have RS := Hd.mk (show cin WB a b (o + k) = 0 by
      have := carry_none (a := a) (b := b) (p := o + 1) (fun j hj => HB.out j (by omega)) hc (k - 1)
      rwa [show o + 1 + (k - 1) = o + k by omega] at this)
    have HCC := Hd.mk hc
    rw [hc] at C'
    clear hc hc1
    go_enter Try.func77, Try.ntmps77
    go_wp2_with fail
    with_reducible refine (C'.out _).mono ?_
    rintro e w2 ⟨rfl, rfl⟩
    go_wp2_with fail
    go_quiet (fail)
    go_wp2
    go_ret
    refine ⟨by rw [RS.out]; rfl, ?_, gb_drewN _ GB1.out⟩
    refine Blk.drewN (HS1.out.cast ?_) _
    rw [mapR_set (by omega)]
    refine mapR_congr fun p hp => ?_
    by_cases h1 : p = o
    · subst h1
      rw [if_pos rfl, if_pos (by omega)]
    · rw [if_neg h1]
      by_cases h2 : o ≤ p ∧ p < o + k
      · rw [if_pos h2, LS.out p (o + 1) h2.1 h2.2 (by omega) HCC.out (by omega)]
      · rw [if_neg h2]
  · have HCC := Hd.mk hc
    rw [hc] at C'
    clear hc hc1
    go_enter Try.func77, Try.ntmps77
    go_wp2_with fail
    with_reducible refine (C'.out _).mono ?_
    rintro e w2 ⟨rfl, rfl⟩
    clear C'
    go_wp2_with fail
    go_loopw [9, 10] (fun i _ wr => ∃ j : Nat, 1 ≤ j ∧ j ≤ k ∧ i = .int .i64 j ∧ cin WB a b (o + j) = 1 ∧ Blk wr g (mapR (fun p => if o ≤ p ∧ p < o + j then .int .u64 (limb WB (a + b) p) else f p) N t) 91 ∧ w.grownBy wr (some g)) (fun i _ _ => k - (intOf i).toNat)
    case atStart =>
      refine ⟨1, by omega, by omega, rfl, HCC.out, ?_, GB1.out⟩
      refine HS1.out.cast ?_
      rw [mapR_set (by omega)]
      refine mapR_congr fun p hp => ?_
      by_cases h1 : p = o
      · subst h1
        rw [if_pos rfl, if_pos (by omega)]
      · rw [if_neg h1, if_neg (by omega)]
    case round =>
      obtain ⟨j, hj1, hjk, rfl, hcj, hbk, hgb⟩ := hrel
      have HK := Hd.mk hbk; have HG := Hd.mk hgb; have HCJ := Hd.mk hcj
      clear hbk hgb hcj
      by_cases hlt : j < k
      · have d1 : wr.cell? ⟨g, o + j, none⟩ = some (.int .u64 (limb WB a (o + j))) := by
          have := HK.out.cell (o + j) (mapR_get (by omega))
          rw [if_neg (by omega), HF.out (o + j) (by omega) (by omega)] at this
          exact this
        have f1 := HK.out.free (o + j)
        have hx := WBlt a (o + j)
        have HB' := Hd.mk (HB.out (o + j) (by omega))
        by_cases hm : limb WB a (o + j) = 18446744073709551615
        · obtain ⟨r1, r2⟩ := limb_roll HB'.out HCJ.out hm
          rw [hm] at d1
          have R1 := Hd.mk r1; have R2 := Hd.mk r2
          clear r1 r2 hm hx
          go_wp2
          go_roundw
          case rel =>
            refine ⟨j + 1, by omega, by omega, by go_num, R2.out, ?_, HG.out.trans (gb_set _ _ _ _)⟩
            refine (HK.out.set (o + j) _).cast ?_
            rw [mapR_set (by omega)]
            refine mapR_congr fun p hp => ?_
            by_cases h1 : p = o + j
            · subst h1
              rw [if_pos rfl, if_pos (by omega), R1.out]; rfl
            · rw [if_neg h1]
              by_cases h2 : o ≤ p ∧ p < o + j
              · rw [if_pos h2, if_pos (by omega)]
              · rw [if_neg h2, if_neg (by omega)]
          case measure => simp [intOf]; omega
        · obtain ⟨r1, r2⟩ := limb_up HB'.out HCJ.out hm
          have R1 := Hd.mk r1; have R2 := Hd.mk r2
          have RS := Hd.mk (show cin WB a b (o + k) = 0 by
            have := carry_none (a := a) (b := b) (p := o + j + 1) (fun j hj => HB.out j (by omega)) r2 (k - (j + 1))
            rwa [show o + j + 1 + (k - (j + 1)) = o + k by omega] at this)
          have HM := Hd.mk hm
          clear r1 r2 hm
          generalize hX : limb WB a (o + j) = x at *
          have HX := Hd.mk hX
          have hm1 : x ≠ 18446744073709551615 := HM.out
          have hm2 : ((x : Int) != 18446744073709551615) = true := by simp; omega
          clear hX
          go_wp2
          go_quiet (fail)
          go_wp2
          go_ret
          refine ⟨by rw [RS.out]; rfl, ?_, gb_drewN _ (HG.out.trans (gb_set _ _ _ _))⟩
          refine Blk.drewN ((HK.out.set (o + j) _).cast ?_) _
          rw [mapR_set (by omega)]
          refine mapR_congr fun p hp => ?_
          by_cases h1 : p = o + j
          · subst h1
            rw [if_pos rfl, if_pos (by omega), R1.out]; simp
          · rw [if_neg h1]
            by_cases h2 : o ≤ p ∧ p < o + j
            · rw [if_pos h2, if_pos (by omega)]
            · rw [if_neg h2]
              by_cases h3 : o ≤ p ∧ p < o + k
              · rw [if_pos h3, LS.out p (o + j + 1) h3.1 h3.2 (by omega) R2.out (by omega)]
              · rw [if_neg h3]
      · obtain rfl : j = k := by omega
        go_wp2
        go_ret
        exact ⟨by rw [HCJ.out]; rfl, HK.out, HG.out⟩
end Go.Proofs.Ytjikodjljocpmaa.Kb
