/- The reference's decimals: vaLittle, VaWhole, vaBig, VaSame. -/
import Derived.Test.YtjikodjljocpmaaNatE
namespace Go.Proofs.Ytjikodjljocpmaa.Kb
open Go Go.RowKit
set_option linter.unusedVariables false
set_option linter.unusedSimpArgs false
set_option maxHeartbeats 1000000
/-- The bytes of a number, the lowest first. -/
def leL (n m : Nat) : List Int := (List.range m).map fun j => (limb 256 n j : Int)
theorem leL_len (n m : Nat) : (leL n m).length = m := by simp [leL]
theorem leL_mapR (n m : Nat) : mapR (fun j => .int .u8 (limb 256 n j)) m [] = (bc (leL n m)).toArray := by
  unfold mapR leL bc
  simp
/-- What vaLittle answers. -/
def LittleOut (w : World) (n N : Nat) (e : Ending) (w' : World) : Prop := e = .returned (.slice (some ⟨w.heap.size, 0, none⟩) N N) ∧ Blk w' w.heap.size (bc (leL n N)).toArray 5 ∧ Below w.heap.size w w'
set_option maxRecDepth 100000 in
theorem vaLittle (A : Option Addr) (l c n K N : Nat) (z : Int) (w : World) (h : DigV .u32 LB w A l c n) (hK : n < 256 ^ K) (hK2 : K ≤ 8796093022208) (fl : l ≤ 8796093022208) (hz : z = N) (hN : N ≤ 1000) :
    Calls Try.prog 24 #[.slice A l c, .int .i64 z] w fun e w' => LittleOut w n N e w' := by
  subst hz
  have H := Hd.mk h; have HK := Hd.mk hK
  clear h hK
  go_enter Try.func24, Try.ntmps24
  go_wp2_with (refine wpList_make_z rfl _ _ 22 rfl 5 (.int .u8 0) 1 Try.underlying22 infoB rfl .i64 .i64 _ _ N rfl rfl rfl rfl (by omega) (by omega) ?_)
  intro w1 hbk hl hs
  rw [zs_mapR] at hbk
  have HB := Hd.mk hbk; have HL := Hd.mk hl; have HS := Hd.mk hs
  clear hbk hl hs
  have C := Hd.mk (fun W (hw : Below w.heap.size w W) => vaBytes A l c n K W (H.out.below hw) HK.out hK2 fl)
  go_wp2_with fail
  with_reducible refine (C.out w1 HL.out).mono ?_
  rintro e w2 ⟨A2, m, c2, rfl, hm1, hm2, hm3, hm4, hr, hb2, hf2⟩
  unfold maxLen at hm2
  have M3 := Hd.mk hm3; have M4 := Hd.mk hm4
  have HR := Hd.mk (show Rd w2 [w.heap.size] A2 m (beL n m) from ⟨hr.len, hr.small, fun j hj => by
    obtain ⟨ad, h1, h2, h3, _⟩ := hr.at_ j hj
    refine ⟨ad, h1, h2, h3, fun hm => ?_⟩
    have := hf2 ad h1
    have := HS.out
    simp at hm
    omega⟩)
  have HB2 := Hd.mk (HB.out.below hb2 HB.out.lt)
  have HL2 := Hd.mk (HL.out.trans (hb2.mono HL.out.size))
  have hmK : m ≤ K := ge_bound B256 HK.out hm4
  have BEL := Hd.mk (fun W (hw : Bel w2.heap.size [w.heap.size] w2 W) => show Below w.heap.size w W from HL2.out.trans ((hw.weak HL2.out.size (fun x hx hlt => by simp at hx; omega)).to))
  clear hm3 hm4 hr hb2 hf2
  go_wp2_with fail
  go_loopw [14] (fun i wr => ∃ k : Nat, k ≤ m ∧ i = .int .i64 k ∧ Blk wr w.heap.size (mapR (fun j => .int .u8 (if m ≤ j + k then limb 256 n j else 0 : Nat)) N []) 5 ∧ Bel w2.heap.size [w.heap.size] w2 wr) (fun i _ => m - (intOf i).toNat)
  case atStart => exact ⟨0, by omega, rfl, HB2.out.cast (mapR_congr fun j hj => by
    by_cases h : m ≤ j + 0
    · rw [if_pos h, limb_over B256 M3.out (by omega)]; rfl
    · rw [if_neg h]; rfl), Bel.refl _ _ _⟩
  case round =>
    obtain ⟨k, hk, rfl, hb, hl⟩ := hrel
    have HB3 := Hd.mk hb; have HL3 := Hd.mk hl
    clear hb hl
    by_cases hlt : k < m
    · obtain ⟨q, hq⟩ : ∃ q, m = k + q + 1 := ⟨m - k - 1, by omega⟩
      obtain ⟨ad, rfl, s1⟩ := (HR.out.bel HL3.out).cell k hlt
      have e1 : (beL n m).getD k 0 = (limb 256 n q : Nat) := by
        rw [List.getD_eq_getElem?_getD, List.getElem?_eq_getElem (by rw [beL_len]; exact hlt)]
        simp only [beL, List.getElem_map, List.getElem_range, Option.getD_some]
        rw [show m - 1 - k = q by omega]
      rw [e1] at s1
      have hx := bytelt n q
      have E2 := Hd.mk (show (m : Int) - 1 - k = q by omega)
      have HQ := Hd.mk hq
      clear e1 hq
      have GX := Hd.mk (show ∃ y, y = limb 256 n q from ⟨_, rfl⟩)
      obtain ⟨y, hy⟩ := GX.out
      rw [← hy] at s1 hx
      have HY := Hd.mk hy
      clear hy GX
      go_wp2_with fail
      with_reducible refine (C.out wr (BEL.out _ HL3.out)).mono ?_
      rintro e w5 ⟨A5, m5, c5, rfl, g1, g2, g3, g4, _, hb5, _⟩
      obtain rfl : m5 = m := lens_eq B256 g3 g4 M3.out M4.out
      have HB5 := Hd.mk (HB3.out.below hb5 HB3.out.lt)
      have HL5 := Hd.mk (HL3.out.trans ((Bel.of hb5 : Bel wr.heap.size [w.heap.size] wr w5).weak HL3.out.size (fun x hx _ => hx)) : Bel w2.heap.size [w.heap.size] w2 w5)
      clear g1 g2 g3 g4 hb5
      have E3 := E2.out
      have hq1 : k + q < m5 := by have := HQ.out; omega
      have hq2 : m5 ≤ k + q + 1 := by have := HQ.out; omega
      by_cases hN2 : q < N
      · have hN3 : (q : Int) < N := by omega
        have s5 : ∃ v, w5.cell? ⟨w.heap.size, q, none⟩ = some v := ⟨_, HB5.out.cell q (mapR_get hN2)⟩
        obtain ⟨v5, s5⟩ := s5
        have f5 := HB5.out.free q
        go_wp2
        go_roundw
        case rel =>
          refine ⟨k + 1, by omega, by go_num, ?_, HL5.out.set (.inr (by simp)) _⟩
          refine Blk.cast (HB5.out.set q _) ?_
          rw [mapR_set hN2]
          refine mapR_congr fun p hp => ?_
          by_cases h1 : p = q
          · subst h1
            rw [if_pos rfl, if_pos (by omega), HY.out]
          · rw [if_neg h1]
            by_cases h2 : m5 ≤ p + k
            · rw [if_pos h2, if_pos (by omega)]
            · rw [if_neg h2, if_neg (by omega)]
        case measure => simp [intOf]; omega
      · have hN3 : ¬ (q : Int) < N := by omega
        go_wp2
        go_roundw
        case rel =>
          refine ⟨k + 1, by omega, by go_num, ?_, HL5.out⟩
          refine HB5.out.cast (mapR_congr fun p hp => ?_)
          by_cases h2 : m5 ≤ p + k
          · rw [if_pos h2, if_pos (by omega)]
          · rw [if_neg h2, if_neg (by omega)]
        case measure => simp [intOf]; omega
    · obtain rfl : k = m := by omega
      go_wp2
      go_ret
      refine ⟨rfl, HB3.out.cast ?_, BEL.out _ HL3.out⟩
      rw [← leL_mapR]
      exact mapR_congr fun j hj => by rw [if_pos (by omega)]
end Go.Proofs.Ytjikodjljocpmaa.Kb
