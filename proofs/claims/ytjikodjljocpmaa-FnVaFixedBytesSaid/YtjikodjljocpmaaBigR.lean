/- math/big: nat.add of one word, where it makes a row. -/
import Derived.Test.YtjikodjljocpmaaBigQ
namespace Go.Proofs.Ytjikodjljocpmaa.Kb
open Go Go.RowKit
set_option linter.unusedVariables false
set_option linter.unusedSimpArgs false
set_option maxHeartbeats 1000000
theorem gb_trans2 {a b c : World} {g g2 : Nat} (h : a.grownBy b (some g)) (k : b.grownBy c (some g2)) (hg : a.heap.size ≤ g2) : a.grownBy c (some g) :=
  ⟨k.os.trans h.os, k.tape.trans h.tape, k.output.trans h.output, Nat.le_trans h.size k.size, fun j hj hne => (k.block j (Nat.lt_of_lt_of_le hj h.size) (fun e => by cases e; omega)).trans (h.block j hj hne)⟩
set_option maxRecDepth 100000 in
theorem addGrow (g l c cy gy a b : Nat) (f : Nat → Value) (t : List Value) (w : World) (hz : Blk w g (mapR f c t) 91) (hl0 : 0 < l) (hlc : l = c) (hc : c ≤ 1000) (ha : a < WB ^ l) (hf : ∀ j, j < l → f j = .int .u64 (limb WB a j))
    (hb : b < WB) (hy : w.cell? ⟨gy, 0, none⟩ = some (.int .u64 b)) (hy2 : gy < w.heap.size) (hcy : 1 ≤ cy) :
    Calls Try.prog 67 #[.slice (some ⟨g, 0, none⟩) l c, .slice (some ⟨g, 0, none⟩) l c, .slice (some ⟨gy, 0, none⟩) 1 cy] w fun e w' => SumOut w g (a + b) e w' := by
  have hb1 : ∀ j, 1 ≤ j → limb WB b j = 0 := fun j hj => limb_over WB1 (j := 1) (by rwa [Nat.pow_one]) hj
  have hb0 : limb WB b 0 = b := by unfold limb; rw [Nat.pow_zero, Nat.div_one]; exact Nat.mod_eq_of_lt hb
  have hp : WB ^ 1 ≤ WB ^ l := Nat.pow_le_pow_right (by decide) hl0
  have hbl : b < WB ^ l := by rw [Nat.pow_one] at hp; omega
  have hsum : a + b < WB ^ (l + 1) := by
    have : WB ^ l * 2 ≤ WB ^ (l + 1) := by rw [Nat.pow_succ]; exact Nat.mul_le_mul_left _ WB1
    omega
  have hl1 : l ≤ c := by omega
  have hl2 : c < l + 1 := by omega
  have glt := hz.lt
  have CM := Hd.mk (show Calls Try.prog 71 #[.slice (some ⟨g, 0, none⟩) l c, .int .i64 ((l : Int) + 1)] w fun e w' => MakeOut w (l + 1) e w' from natMake (some ⟨g, 0, none⟩) l c (l + 1) w (by omega) (by omega) (by omega))
  have HZ := Hd.mk hz
  have CV := Hd.mk (fun (w2 : World) (c' : Nat) (h2 : l + 1 ≤ c') (hb2 : Blk w2 w.heap.size (zs c' (.int .u64 0)).toArray 91) (hl : Below w.heap.size w w2) =>
    addVV w.heap.size 1 c' c' (fun _ => .int .u64 0) [] (some ⟨g, 0, none⟩) (some ⟨gy, 0, none⟩) c cy a b w2.drew (by rw [← zs_mapR]; exact hb2.drew) (by omega) (by omega)
      (fun j h1 h2 => by
        obtain rfl : j = 0 := by omega
        exact ⟨g, rfl, by rw [← hf 0 (by omega)]; exact ((hz.below hl hz.lt).cell 0 (mapR_get (by omega))), Nat.lt_of_lt_of_le hz.lt hl.size⟩)
      (fun j h1 h2 => by
        obtain rfl : j = 0 := by omega
        exact ⟨gy, rfl, by rw [hb0]; exact (hl.cell (p := ⟨gy, 0, none⟩) hy2).trans hy, Nat.lt_of_lt_of_le hy2 hl.size⟩)
      (fun ad h => by cases h; show gy ≠ w.heap.size; omega))
  have FL := Hd.mk hf; have LO := Hd.mk (limb_out ha hbl); have HS := Hd.mk hsum; have HB1 := Hd.mk hb1
  clear hz hf hb0 hb1 hp hbl hsum hb hy ha hlc
  have i1 : (1 : Int) ≤ c := by omega
  have i2 : (1 : Int) ≤ cy := by omega
  have e1 : ¬ (l : Int) < 1 := by omega
  have e2 : ((l : Int) == 0) = false := by simp; omega
  go_enter Try.func67, Try.ntmps67
  go_wp2_with fail
  with_reducible refine CM.out.mono ?_
  rintro e w2 ⟨c', rfl, hc1, hc2, hb2, hl2⟩
  have HG2 := Hd.mk (show w.grownBy w2 (some g) from ⟨hl2.os, hl2.tape, hl2.output, hl2.size, fun k hk _ => hl2.block k hk⟩)
  have CV2 := Hd.mk (CV.out w2 c' hc1 hb2 hl2)
  have HX2 := Hd.mk (HZ.out.below hl2 glt)
  clear CM CV hb2 hl2
  have i3 : (1 : Int) ≤ c' := by omega
  go_wp2_with fail
  first
    | (go_region_held3 (fun W => True) (first | assumption | trivial)
        (first | (go_at_call 76; (with_reducible refine CV2.out.mono ?_); rintro e w3 ⟨rfl, h1, h2⟩)))
    | fail
  have H1 := Hd.mk h1
  have G1 := Hd.mk (gb_trans2 HG2.out (grownBy_of_drew h2) (Nat.le_refl _))
  have HX3 := Hd.mk (HX2.out.grown (grownBy_of_drew h2) (by simp; omega))
  clear h1 h2 CV2
  have f3 := H1.out.free l
  obtain ⟨v3, s3⟩ : ∃ v, w3.cell? ⟨w.heap.size, l, none⟩ = some v := ⟨_, H1.out.cell l (mapR_get (by omega))⟩
  by_cases h1 : l = 1
  · subst h1
    have HN := Hd.mk (natNorm (some ⟨w.heap.size, 0, none⟩) (1 + 1) c' (a + b) _ (blk_dig (H1.out.set 1 (.int .u64 (cin WB a b 1 : Nat))|>.cast (by rw [mapR_set (by omega)])) hc1 hc1 (by omega) HS.out (fun j hj => by
      by_cases e : j = 1
      · subst e; rw [if_pos rfl, LO.out]
      · rw [if_neg e, if_pos (by omega)])))
    have GS := Hd.mk (gb_trans2 G1.out (gb_set w3 w.heap.size 1 (.int .u64 (cin WB a b 1 : Nat))) (Nat.le_refl _))
    go_wp2_with fail
    with_reducible refine HN.out.mono ?_
    rintro e w4 ⟨⟨m, rfl, hm⟩, rfl⟩
    have HM := Hd.mk hm
    clear hm HN
    go_wp2
    go_ret
    exact ⟨_, _, _, rfl, HM.out, GS.out, fun ad h => by cases h; exact .inr (Nat.le_refl _)⟩
  · have j1 : (1 : Int) < l := by omega
    have j2 : (l : Int) ≤ c := by omega
    have j3 : (1 : Int) ≤ l := by omega
    have j4 : ¬ c = 1 := by omega
    have j5 : ¬ c' = 1 := by omega
    have j6 : (l : Int) ≤ c' := by omega
    have CW := Hd.mk (addVWo w.heap.size g 1 (l - 1) (c' - 1) (c - 1) c' c a b _ f [] t w3.drew H1.out.drew HX3.out.drew (by omega) (by omega) (by omega) (by omega) (by omega) (by omega) (by omega) (fun j h2 h3 => FL.out j (by omega)) HB1.out)
    rw [show 1 + (l - 1) = l by omega] at CW
    go_wp2_with fail
    first
      | (go_region_held3 (fun W => True) (first | assumption | trivial)
          (first | (go_at_call 77; (with_reducible refine CW.out.mono ?_); rintro e w4 ⟨rfl, h1, h2⟩)))
      | fail
    have H2 := Hd.mk h1; have G2 := Hd.mk (gb_trans2 G1.out (grownBy_of_drew h2) (Nat.le_refl _))
    clear h1 h2 CW s3 f3
    have f3 := H2.out.free l
    obtain ⟨v3, s3⟩ : ∃ v, w4.cell? ⟨w.heap.size, l, none⟩ = some v := ⟨_, H2.out.cell l (mapR_get (by omega))⟩
    have HN := Hd.mk (natNorm (some ⟨w.heap.size, 0, none⟩) (l + 1) c' (a + b) _ (blk_dig (H2.out.set l (.int .u64 (cin WB a b l : Nat))|>.cast (by rw [mapR_set (by omega)])) hc1 hc1 (by omega) HS.out (fun j hj => by
      by_cases e : j = l
      · subst e; rw [if_pos rfl, LO.out]
      · rw [if_neg e]
        by_cases e2 : j < 1
        · rw [if_neg (by omega), if_pos e2]
        · rw [if_pos (by omega)])))
    have GS := Hd.mk (gb_trans2 G2.out (gb_set w4 w.heap.size l (.int .u64 (cin WB a b l : Nat))) (Nat.le_refl _))
    go_wp2_with fail
    with_reducible refine HN.out.mono ?_
    rintro e w5 ⟨⟨m, rfl, hm⟩, rfl⟩
    have HM := Hd.mk hm
    clear hm HN
    go_wp2
    go_ret
    exact ⟨_, _, _, rfl, HM.out, GS.out, fun ad h => by cases h; exact .inr (Nat.le_refl _)⟩
end Go.Proofs.Ytjikodjljocpmaa.Kb
