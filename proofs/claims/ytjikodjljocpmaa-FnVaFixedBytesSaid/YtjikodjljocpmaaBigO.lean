/- math/big: nat.add of one word, in place; nat.set. -/
import Derived.Test.YtjikodjljocpmaaBigN
namespace Go.Proofs.Ytjikodjljocpmaa.Kb
open Go Go.RowKit
set_option linter.unusedVariables false
set_option linter.unusedSimpArgs false
set_option maxHeartbeats 1000000
theorem limb_out {a b l : Nat} (ha : a < WB ^ l) (hb : b < WB ^ l) : limb WB (a + b) l = cin WB a b l := by
  rw [sum_limb WB1, limb_over WB1 ha (Nat.le_refl _), limb_over WB1 hb (Nat.le_refl _), Nat.add_zero]
  exact Nat.mod_eq_of_lt (by have := cin_le WB1 a b l; have := WB1; omega)
theorem grownBy_of_drew {w w' : World} {row : Option Nat} (h : w.drew.grownBy w' row) : w.grownBy w' row := ⟨h.os, h.tape, h.output, h.size, h.block⟩
theorem blk_dig {w : World} {g N l c n : Nat} {f : Nat → Value} {t : List Value} {ty : TypeId} (hb : Blk w g (mapR f N t) ty) (hl : l ≤ N) (hc : l ≤ c) (hc2 : c ≤ 9223372036854775807) (hn : n < WB ^ l) (hf : ∀ j, j < l → f j = .int .u64 (limb WB n j)) : DigL .u64 WB w (some ⟨g, 0, none⟩) l c n :=
  ⟨hn, hc, hc2, fun j hj => ⟨g, rfl, by rw [← hf j hj]; exact hb.cell j (mapR_get (by omega)), hb.lt⟩⟩
/-- What a sum answers whose row is its own, or the one that stood. -/
def SumOut (w : World) (g n : Nat) (e : Ending) (w' : World) : Prop := ∃ A l c, e = .returned (.slice A l c) ∧ DigV .u64 WB w' A l c n ∧ w.grownBy w' (some g) ∧ ∀ ad, A = some ad → ad.block = g ∨ w.heap.size ≤ ad.block
set_option maxRecDepth 100000 in
theorem addPlace (g l c cy gy a b : Nat) (f : Nat → Value) (t : List Value) (w : World) (hz : Blk w g (mapR f c t) 91) (hl0 : 0 < l) (hlc : l + 1 ≤ c) (hc : c ≤ 8796093022208) (ha : a < WB ^ l) (hf : ∀ j, j < l → f j = .int .u64 (limb WB a j))
    (hb : b < WB) (hy : w.cell? ⟨gy, 0, none⟩ = some (.int .u64 b)) (hy2 : gy < w.heap.size) (hy3 : gy ≠ g) (hcy : 1 ≤ cy) :
    Calls Try.prog 67 #[.slice (some ⟨g, 0, none⟩) l c, .slice (some ⟨g, 0, none⟩) l c, .slice (some ⟨gy, 0, none⟩) 1 cy] w fun e w' => SumOut w g (a + b) e w' := by
  have hb1 : ∀ j, 1 ≤ j → limb WB b j = 0 := fun j hj => limb_over WB1 (j := 1) (by rwa [Nat.pow_one]) hj
  have hb0 : limb WB b 0 = b := by unfold limb; rw [Nat.pow_zero, Nat.div_one]; exact Nat.mod_eq_of_lt hb
  have hp : WB ^ 1 ≤ WB ^ l := Nat.pow_le_pow_right (by decide) hl0
  have hbl : b < WB ^ l := by rw [Nat.pow_one] at hp; omega
  have hsum : a + b < WB ^ (l + 1) := by
    have : WB ^ l * 2 ≤ WB ^ (l + 1) := by rw [Nat.pow_succ]; exact Nat.mul_le_mul_left _ WB1
    omega
  have CM := Hd.mk (fun w => natMake_fitsI (some ⟨g, 0, none⟩) l c (l + 1) ((l : Int) + 1) w hlc (by omega) (by omega))
  have CV := Hd.mk (addVV g 1 c c f t (some ⟨g, 0, none⟩) (some ⟨gy, 0, none⟩) c cy a b w.drew hz.drew (by omega) (by omega)
    (fun j h1 h2 => ⟨g, rfl, by rw [← hf j (by omega)]; exact hz.drew.cell j (mapR_get (by omega)), hz.lt⟩)
    (fun j h1 h2 => by
      obtain rfl : j = 0 := by omega
      exact ⟨gy, rfl, by rw [hb0]; exact hy, hy2⟩)
    (fun ad h => by cases h; exact hy3))
  have FL := Hd.mk hf; have LO := Hd.mk (limb_out ha hbl); have HS := Hd.mk hsum; have HB1 := Hd.mk hb1
  clear hz hf hb1 hb0 hp hbl hsum hb hy ha
  have i1 : (1 : Int) ≤ c := by omega
  have i2 : (1 : Int) ≤ cy := by omega
  go_enter Try.func67, Try.ntmps67
  go_wp2_with fail
  with_reducible refine (CM.out _).mono ?_
  rintro e w2 ⟨rfl, rfl⟩
  clear CM
  go_wp2_with fail
  first
    | (go_region_held3 (fun W => True) (first | assumption | trivial)
        (first | (go_at_call 76; (with_reducible refine CV.out.mono ?_); rintro e w3 ⟨rfl, h1, h2⟩)))
    | fail
  have H1 := Hd.mk h1; have G1 := Hd.mk (grownBy_of_drew h2)
  clear h1 h2 CV
  have f3 := H1.out.free l
  obtain ⟨v3, s3⟩ : ∃ v, w3.cell? ⟨g, l, none⟩ = some v := ⟨_, H1.out.cell l (mapR_get (by omega))⟩
  by_cases h1 : l = 1
  · subst h1
    have HN := Hd.mk (natNorm (some ⟨g, 0, none⟩) (1 + 1) c (a + b) _ (blk_dig (H1.out.set 1 (.int .u64 (cin WB a b 1 : Nat))|>.cast (by rw [mapR_set (by omega)])) hlc hlc (by omega) HS.out (fun j hj => by
      by_cases e : j = 1
      · subst e; rw [if_pos rfl, LO.out]
      · rw [if_neg e, if_pos (by omega)])))
    have GS := Hd.mk (G1.out.trans (gb_set w3 g 1 (.int .u64 (cin WB a b 1 : Nat))))
    go_wp2_with fail
    with_reducible refine HN.out.mono ?_
    rintro e w4 ⟨⟨m, rfl, hm⟩, rfl⟩
    have HM := Hd.mk hm
    clear hm HN
    go_wp2
    go_ret
    exact ⟨_, _, _, rfl, HM.out, GS.out, fun ad h => by cases h; exact .inl rfl⟩
  · have j1 : (1 : Int) < l := by omega
    have j2 : (l : Int) ≤ c := by omega
    have j3 : (1 : Int) ≤ l := by omega
    have j4 : ¬ c = 1 := by omega
    have CW := Hd.mk (addVWs g 1 (l - 1) (c - 1) (c - 1) c a b _ t w3.drew H1.out.drew (by omega) (by omega) (by omega) (by omega) (by omega) (fun j h2 h3 => by
      rw [if_neg (by omega)]; exact FL.out j (by omega)) HB1.out)
    rw [show 1 + (l - 1) = l by omega] at CW
    go_wp2_with fail
    first
      | (go_region_held3 (fun W => True) (first | assumption | trivial)
          (first | (go_at_call 77; (with_reducible refine CW.out.mono ?_); rintro e w4 ⟨rfl, h1, h2⟩)))
      | fail
    have H2 := Hd.mk h1; have G2 := Hd.mk (G1.out.trans (grownBy_of_drew h2))
    clear h1 h2 CW s3 f3
    have f3 := H2.out.free l
    obtain ⟨v3, s3⟩ : ∃ v, w4.cell? ⟨g, l, none⟩ = some v := ⟨_, H2.out.cell l (mapR_get (by omega))⟩
    have HN := Hd.mk (natNorm (some ⟨g, 0, none⟩) (l + 1) c (a + b) _ (blk_dig (H2.out.set l (.int .u64 (cin WB a b l : Nat))|>.cast (by rw [mapR_set (by omega)])) hlc hlc (by omega) HS.out (fun j hj => by
      by_cases e : j = l
      · subst e; rw [if_pos rfl, LO.out]
      · rw [if_neg e]
        by_cases e2 : j < 1
        · rw [if_neg (by omega), if_pos e2]
        · rw [if_pos (by omega)])))
    have GS := Hd.mk (G2.out.trans (gb_set w4 g l (.int .u64 (cin WB a b l : Nat))))
    go_wp2_with fail
    with_reducible refine HN.out.mono ?_
    rintro e w5 ⟨⟨m, rfl, hm⟩, rfl⟩
    have HM := Hd.mk hm
    clear hm HN
    go_wp2
    go_ret
    exact ⟨_, _, _, rfl, HM.out, GS.out, fun ad h => by cases h; exact .inl rfl⟩
end Go.Proofs.Ytjikodjljocpmaa.Kb
