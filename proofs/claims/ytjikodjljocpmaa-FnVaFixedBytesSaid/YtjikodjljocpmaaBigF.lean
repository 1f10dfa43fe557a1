/- Encoder.Decimal. -/
import Derived.Test.YtjikodjljocpmaaBigE
namespace Go.Proofs.Ytjikodjljocpmaa.Kb
open Go Go.RowKit
set_option linter.unusedVariables false
set_option linter.unusedSimpArgs false
set_option maxHeartbeats 2000000
/-- The scratch row: the bytes of a number ahead of place p. -/
def scr (a p : Nat) (Z : List Value) : Array Value := mapR (fun q => if q < p then .int .u8 (limb 256 a q : Nat) else Z.getD q undef) 4096 []
theorem scr_zero {a : Nat} {Z : List Value} (hz : Z.length = 4096) : Z.toArray = scr a 0 Z := by
  apply Array.ext'
  show Z = (List.range 4096).map (fun q => if q < 0 then Value.int .u8 (limb 256 a q : Nat) else Z.getD q undef) ++ []
  rw [List.append_nil]
  apply List.ext_getElem?
  intro j
  by_cases hj : j < 4096
  · rw [List.getElem?_eq_getElem (by omega), List.getElem?_map, List.getElem?_range hj]
    simp [List.getD_eq_getElem?_getD, List.getElem?_eq_getElem (show j < Z.length by omega)]
  · rw [List.getElem?_eq_none (by omega), List.getElem?_eq_none (by simp; omega)]
theorem scr_step {a p : Nat} {Z : List Value} (hp : p < 4096) {u : Int} (hu : u = (limb 256 a p : Nat)) : (scr a p Z).setIfInBounds p (.int .u8 u) = scr a (p + 1) Z := by
  subst hu
  unfold scr
  rw [mapR_set hp]
  refine mapR_congr fun q hq => ?_
  by_cases h1 : q = p
  · subst h1; rw [if_pos rfl, if_pos (by omega)]
  · rw [if_neg h1]
    by_cases h2 : q < p
    · rw [if_pos h2, if_pos (by omega)]
    · rw [if_neg h2, if_neg (by omega)]
theorem scr_cell {w : World} {g : Nat} {t : TypeId} {a p q : Nat} {Z : List Value} (h : Blk w g (scr a p Z) t) (hq : q < 4096) : ∃ v, w.cell? ⟨g, q, none⟩ = some v := ⟨_, h.cell q (mapR_get hq)⟩
theorem scr_get {w : World} {g : Nat} {t : TypeId} {a p q : Nat} {Z : List Value} (h : Blk w g (scr a p Z) t) (hq : q < p) (hp : p ≤ 4096) : w.cell? ⟨g, q, none⟩ = some (.int .u8 (limb 256 a q : Nat)) := by
  have := h.cell q (mapR_get (show q < 4096 by omega))
  rwa [if_pos hq] at this
/-- The scratch row at the end: 16 bytes of a number. -/
theorem scr_end {a n : Nat} {Z : List Value} {u v : Int} (hl : ∀ q, q < 14 → limb 256 a q = limb 256 n q) (hu : u = (limb 256 n 14 : Nat)) (hv : v = (limb 256 n 15 : Nat)) :
    ((scr a 16 Z).setIfInBounds 14 (.int .u8 u)).setIfInBounds 15 (.int .u8 v) = scr n 16 Z := by
  subst hu
  subst hv
  unfold scr
  rw [mapR_set (by decide), mapR_set (by decide)]
  refine mapR_congr fun q hq => ?_
  by_cases h1 : q = 15
  · subst h1; simp
  · rw [if_neg h1]
    by_cases h2 : q = 14
    · subst h2; simp
    · rw [if_neg h2]
      by_cases h3 : q < 16
      · rw [if_pos h3, if_pos h3, hl q (by omega)]
      · rw [if_neg h3, if_neg h3]
theorem scr_rd {w : World} {g : Nat} {n : Nat} {Z : List Value} {t : TypeId} (h : Blk w g (scr n 16 Z) t) : Rd w [] (some ⟨g, 0, none⟩) 16 (leL n 16) := by
  refine ⟨leL_len _ _, by omega, fun j hj => ⟨_, rfl, ?_, h.lt, by simp⟩⟩
  rw [leL_len] at hj
  refine h.cellz j ?_
  rw [show (scr n 16 Z)[j]? = some (if j < 16 then .int .u8 (limb 256 n j : Nat) else Z.getD j undef) from mapR_get (by omega), if_pos hj]
  simp [leL]
set_option maxRecDepth 100000 in
theorem E_Decimal (K : EK) (out : List Int) (g : Nat) (neg : Bool) (A : Option Addr) (l c a y : Nat) (x : Int) (w : World) (h : Enc K w out) (hi : BigI w g neg A l c a) (hg : g ≠ K.sb ∧ g < w.heap.size) (hA : ∀ ad, A = some ad → 0 < l → ad.block ≠ K.sb)
    (hx : x + 6176 = y) (hy : y < 16384) (ha : a < 2 ^ 113) (hn : out.length + 16 ≤ 1000000000) (hneg : neg = true → a ≠ 0) :
    Calls Try.prog 28 #[.pointer (some ⟨K.e, 0, none⟩), .pointer (some ⟨g, 0, none⟩), .int .i64 x] w fun e w' => e = .returned (.tuple #[]) ∧ Wrote K w out (leL (decN neg a y) 16) w' := by
  obtain ⟨Z, hz, hZ⟩ := h.sc
  have c1 : w.cell? ⟨K.e, 1, none⟩ = some (.slice (some ⟨K.sb, 0, none⟩) 4096 4096) := h.blk.cell 1 rfl
  have hl2 : l ≤ 2 := hi.dig.len_le WB1 (Nat.lt_trans ha (by decide +kernel))
  have CB := Hd.mk (intBits g neg A l c a w hi)
  have H := Hd.mk h; have HI := Hd.mk hi; have HA := Hd.mk ha; have HG := Hd.mk hg; have HAD := Hd.mk hA
  have HZ := Hd.mk (hZ.cast (scr_zero (a := a) hz))
  have HX := Hd.mk hx
  have dc := hi.dig.cap; have ds := hi.dig.small
  have HNG := Hd.mk hneg
  clear h hi ha hg hA hZ hx hneg
  go_enter Try.func28, Try.ntmps28
  go_wp2_with fail
  with_reducible refine CB.out.mono ?_
  rintro e w2 ⟨rfl, rfl⟩
  go_wp2_with fail
  go_loopw [7, 20] (fun j i wr => ∃ p : Nat, p ≤ l ∧ i = .int .i64 p ∧ j = .int .i64 (8 * p : Nat) ∧ Blk wr K.sb (scr a (8 * p) Z) 5 ∧ Bel w.heap.size [K.sb] w wr) (fun _ i _ => l - (intOf i).toNat)
  case atStart => exact ⟨0, by omega, rfl, rfl, HZ.out, Bel.refl _ _ _⟩
  case round =>
    obtain ⟨p, hp, rfl, rfl, hb, hl⟩ := hrel
    have HB := Hd.mk hb; have HL := Hd.mk hl
    clear hb hl
    by_cases hlt : p < l
    · obtain ⟨g1, rfl, s1, l1⟩ := HI.out.dig.at_ p hlt
      have s1' : wr.cell? ⟨g1, p, none⟩ = some (.int .u64 (limb WB a p)) := by rw [HL.out.cell (p := ⟨g1, p, none⟩) l1 (by simp; exact HAD.out _ rfl (by omega))]; exact s1
      have hd := WBlt a p
      clear s1 l1
      have BW := Hd.mk (fun i hi => byte_word a p i hi)
      generalize hD : limb WB a p = d at *
      clear hD
      go_wp2
      go_loopw [7, 9, 10] (fun j v i wr2 => ∃ t : Nat, t ≤ 8 ∧ i = .int .i64 t ∧ j = .int .i64 (8 * p + t : Nat) ∧ v = .int .u64 (d / 256 ^ t : Nat) ∧ Blk wr2 K.sb (scr a (8 * p + t) Z) 5 ∧ Bel w.heap.size [K.sb] w wr2) (fun _ _ i _ => 8 - (intOf i).toNat)
      case atStart => exact ⟨0, by omega, rfl, rfl, by simp, HB.out, HL.out⟩
      case round =>
        obtain ⟨t, ht, rfl, rfl, rfl, hb2, hl2⟩ := hrel
        have HB2 := Hd.mk hb2; have HL2 := Hd.mk hl2
        clear hb2 hl2
        by_cases ht8 : t < 8
        · have V1 := Hd.mk (BW.out t ht8)
          have V2 := Hd.mk (show d / 256 ^ (t + 1) = d / 256 ^ t / 256 by rw [Nat.pow_succ, Nat.div_div_eq_div_mul])
          have hv : d / 256 ^ t < 18446744073709551616 := Nat.lt_of_le_of_lt (Nat.div_le_self _ _) hd
          generalize hV : d / 256 ^ t = v at *
          clear hV
          obtain ⟨v0, s0⟩ := scr_cell HB2.out (q := 8 * p + t) (by omega)
          have f0 := HB2.out.free (8 * p + t)
          go_wp2
          go_roundw
          case rel =>
            refine ⟨t + 1, by omega, by go_num, by go_num, by rw [V2.out]; simp, ?_, HL2.out.set (.inr (by simp)) _⟩
            refine Blk.cast (HB2.out.set (8 * p + t) _) (scr_step (by omega) ?_)
            rw [← V1.out]
            simp
          case measure => simp [intOf]; omega
        · obtain rfl : t = 8 := by omega
          go_wp2
          go_roundw
          case rel => exact ⟨p + 1, by omega, by go_num, by simp; omega, HB2.out, HL2.out⟩
          case measure => simp [intOf]; omega
    · obtain rfl : p = l := by omega
      have WP := Hd.mk (show a < 256 ^ (8 * p) by have := HI.out.dig.lt; rwa [WB_pow] at this)
      go_wp2
      go_loopw [11] (fun i wr2 => ∃ q : Nat, 8 * p ≤ q ∧ q ≤ 16 ∧ i = .int .i64 q ∧ Blk wr2 K.sb (scr a q Z) 5 ∧ Bel w.heap.size [K.sb] w wr2) (fun i _ => 16 - (intOf i).toNat)
      case atStart => exact ⟨8 * p, Nat.le_refl _, by omega, rfl, HB.out, HL.out⟩
      case round =>
        obtain ⟨q, hq1, hq2, rfl, hb2, hl2⟩ := hrel
        have HB2 := Hd.mk hb2; have HL2 := Hd.mk hl2
        clear hb2 hl2
        by_cases hq16 : q < 16
        · obtain ⟨v0, s0⟩ := scr_cell HB2.out (q := q) (by omega)
          have f0 := HB2.out.free q
          go_wp2
          go_roundw
          case rel => exact ⟨q + 1, by omega, by omega, by go_num, Blk.cast (HB2.out.set q _) (scr_step (by omega) (by rw [limb_over B256 WP.out hq1]; rfl)), HL2.out.set (.inr (by simp)) _⟩
          case measure => simp [intOf]; omega
        · obtain rfl : q = 16 := by omega
          have s14 := scr_get HB2.out (q := 14) (by omega) (by omega)
          have s15 := scr_get HB2.out (q := 15) (by omega) (by omega)
          have f14 := HB2.out.free 14; have f15 := HB2.out.free 15
          have hx1 : -9223372036854775808 ≤ x := by have := HX.out; omega
          have hx2 : x ≤ 100000 := by have := HX.out; omega
          have L14 : limb 256 a 14 < 2 := by have := a_14 HA.out; omega
          generalize hU14 : limb 256 a 14 = u14 at *
          generalize hU15 : limb 256 a 15 = u15 at *
          have D14 := Hd.mk (dec_14 neg (y := y) HA.out)
          have D15 := Hd.mk (dec_15 neg HA.out hy)
          rw [hU14] at D14
          have E0 := HX.out
          have OR14 := Hd.mk (show bits .or .u8 (u14 : Int) ((y : Int) % 256 * 2 % 256) = ((u14 + 2 * y % 256 : Nat) : Int) by
            have h1 := or_even ⟨y % 128, Nat.mod_lt _ (by decide)⟩ ⟨u14, by omega⟩
            rw [show (y : Int) % 256 * 2 % 256 = ((2 * (y % 128) : Nat) : Int) by omega, h1]
            congr 1
            simp
            omega)
          have OR15 := Hd.mk (show bits .or .u8 ((y : Int) / 128) 128 = ((y / 128 + 128 : Nat) : Int) by
            have h1 := or_128 ⟨y / 128, by omega⟩
            rw [show (y : Int) / 128 = ((y / 128 : Nat) : Int) by omega]
            exact h1)
          have HSET := Hd.mk (fun (W : World) (u v : Int) (hW : W = (wr.setCell ⟨K.sb, 14, none⟩ (.int .u8 u)).setCell ⟨K.sb, 15, none⟩ (.int .u8 v)) => (show Bel w.heap.size [K.sb] w W ∧ Blk W K.sb (((scr a 16 Z).setIfInBounds 14 (.int .u8 u)).setIfInBounds 15 (.int .u8 v)) 5 from by
            subst hW
            exact ⟨(HL2.out.set (.inr (by simp)) _).set (.inr (by simp)) _, (HB2.out.set 14 _).set 15 _⟩))
          have HBI := Hd.mk (fun (W : World) (hb : Bel w.heap.size [K.sb] w W) => (show BigI W g neg A p c a from ⟨HI.out.blk.bel hb HG.out.2 (by simp; exact HG.out.1), ⟨⟨HI.out.dig.lt, HI.out.dig.cap, HI.out.dig.small, fun j hj => by
            obtain ⟨g1, e1, s1, l1⟩ := HI.out.dig.at_ j hj
            exact ⟨g1, e1, by rw [hb.cell (p := ⟨g1, j, none⟩) l1 (by simp; exact HAD.out _ e1 (by omega))]; exact s1, Nat.lt_of_lt_of_le l1 hb.size⟩⟩, HI.out.dig.ge⟩, HI.out.ne⟩))
          have FIN := Hd.mk (fun (W : World) (hb : Bel w.heap.size [K.sb] w W) (hB : Blk W K.sb (scr (decN neg a y) 16 Z) 5) => (show Enc K W out from H.out.scr hb (scr (decN neg a y) 16 Z).toList (by simp [scr, mapR]) (by simpa using hB)))
          have LOW := Hd.mk (fun q (hq : q < 14) => (dec_low neg a y q hq).symm)
          cases neg
          · have hv : ((sgn false a : Int) == -1) = false := by unfold sgn; split <;> simp
            have SG := Hd.mk (fun W hb => intSign g false A p c a W (HBI.out W hb))
            generalize sgn false a = sv at *
            go_wp2_with fail
            rw [OR14.out]
            obtain ⟨W, hW⟩ : ∃ W, W = (wr.setCell ⟨K.sb, 14, none⟩ (.int .u8 (u14 + 2 * y % 256 : Nat))).setCell ⟨K.sb, 15, none⟩ (.int .u8 ((y : Int) / 128)) := ⟨_, rfl⟩
            rw [← hW]
            obtain ⟨hwb, hwB⟩ := HSET.out W _ _ hW
            rw [scr_end LOW.out (by rw [D14.out]) (by rw [D15.out]; simp)] at hwB
            have HE := FIN.out W hwb hwB
            have CWr := Hd.mk (W_Write K out (leL (decN false a y) 16) W HE (some ⟨K.sb, 0, none⟩) 16 4096 (scr_rd hwB) rfl hn)
            have e0 : W.cell? ⟨K.e, 0, none⟩ = some (.pointer (some ⟨K.wr, 0, none⟩)) := HE.blk.cell 0 rfl
            have CS := Hd.mk (SG.out W hwb)
            have HWB := Hd.mk hwb
            clear hW hwb hwB HE s14 s15 f14 f15
            with_reducible refine CS.out.mono ?_
            rintro e w3 ⟨rfl, rfl⟩
            go_wp2_with fail
            with_reducible refine CWr.out.mono ?_
            rintro e w4 ⟨rfl, hw4⟩
            have HW4 := Hd.mk (wrote_of (HWB.out.weak H.out.le (by simp)) hw4)
            clear hw4
            go_wp2_with fail
            go_end0
            exact ⟨rfl, HW4.out⟩
          · have hv : sgn true a = -1 := by unfold sgn; rw [if_neg (HNG.out rfl)]; rfl
            have SG := Hd.mk (fun W hb => intSign g true A p c a W (HBI.out W hb))
            rw [hv] at SG
            clear hv
            go_wp2_with fail
            rw [OR14.out]
            obtain ⟨W, hW⟩ : ∃ W, W = (wr.setCell ⟨K.sb, 14, none⟩ (.int .u8 (u14 + 2 * y % 256 : Nat))).setCell ⟨K.sb, 15, none⟩ (.int .u8 ((y : Int) / 128)) := ⟨_, rfl⟩
            rw [← hW]
            obtain ⟨hwb, hwB⟩ := HSET.out W _ _ hW
            have CS := Hd.mk (SG.out W hwb)
            have e15 : W.cell? ⟨K.sb, 15, none⟩ = some (.int .u8 ((y : Int) / 128)) := hwB.cell 15 (by rw [Array.getElem?_setIfInBounds]; simp [scr, mapR])
            have g15 := hwB.free 15
            have HWB := Hd.mk hwb; have HWC := Hd.mk hwB
            have e0 : W.cell? ⟨K.e, 0, none⟩ = some (.pointer (some ⟨K.wr, 0, none⟩)) := (H.out.blk.bel hwb H.out.blk.lt (by simp; exact H.out.n1)).cell 0 rfl
            have en := H.out.n1
            clear hW hwb hwB s14 s15 f14 f15
            with_reducible refine CS.out.mono ?_
            rintro e w3 ⟨rfl, rfl⟩
            go_wp2_with fail
            rw [OR15.out]
            obtain ⟨W2, hW2⟩ : ∃ W2, W2 = W.setCell ⟨K.sb, 15, none⟩ (.int .u8 (y / 128 + 128 : Nat)) := ⟨_, rfl⟩
            rw [← hW2]
            have hwb2 : Bel w.heap.size [K.sb] w W2 := by subst hW2; exact HWB.out.set (.inr (by simp)) _
            have hwB2 : Blk W2 K.sb (scr (decN true a y) 16 Z) 5 := by
              subst hW2
              refine Blk.cast (HWC.out.set 15 _) ?_
              rw [Array.setIfInBounds_setIfInBounds]
              exact scr_end LOW.out (by rw [D14.out]) (by rw [D15.out]; simp)
            have HE := FIN.out W2 hwb2 hwB2
            have CWr := Hd.mk (W_Write K out (leL (decN true a y) 16) W2 HE (some ⟨K.sb, 0, none⟩) 16 4096 (scr_rd hwB2) rfl hn)
            have HWB2 := Hd.mk hwb2
            clear hW2 hwb2 hwB2 HE e15 g15 e0
            with_reducible refine CWr.out.mono ?_
            rintro e w4 ⟨rfl, hw4⟩
            have HW4 := Hd.mk (wrote_of (HWB2.out.weak H.out.le (by simp)) hw4)
            clear hw4
            go_wp2_with fail
            go_end0
            exact ⟨rfl, HW4.out⟩
end Go.Proofs.Ytjikodjljocpmaa.Kb
