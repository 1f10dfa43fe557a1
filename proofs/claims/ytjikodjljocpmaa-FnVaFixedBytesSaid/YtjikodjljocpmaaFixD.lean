/- Decoder.Fixed. -/
import Derived.Test.YtjikodjljocpmaaBigY
import Derived.Test.YtjikodjljocpmaaBigI
namespace Go.Proofs.Ytjikodjljocpmaa.Kb
open Go Go.RowKit
set_option linter.unusedVariables false
set_option linter.unusedSimpArgs false
set_option maxHeartbeats 2000000
theorem xor_255 : ∀ n : Fin 256, bits .xor .u8 IntKind.u8.max ((n.1 : Nat) : Int) = ((255 - n.1 : Nat) : Int) := by decide +kernel
/-- What Decoder.Fixed works on: the number v of the n bytes, its sign, and the number a whose words it makes. -/
structure FixN (n v a : Nat) (neg : Bool) : Prop where
  vlt : v < 256 ^ n
  alt : a < 256 ^ n
  top : decide (128 ≤ limb 256 v (n - 1)) = neg
  lim : ∀ k, k < n → limb 256 a k = if neg = true then 255 - limb 256 v k else limb 256 v k
  same : neg = false → a = v
  sum : neg = true → v + a + 1 = 256 ^ n
theorem FixN.of {n v : Nat} (hn : 0 < n) (hv : v < 256 ^ n) : ∃ a neg, FixN n v a neg := by
  by_cases h : 128 ≤ limb 256 v (n - 1)
  · have e : v + (256 ^ n - 1 - v) + 1 = 256 ^ n := by omega
    exact ⟨256 ^ n - 1 - v, true, hv, by omega, by simp [h], fun k hk => by simpa using inv_limb e hk, by simp, fun _ => e⟩
  · exact ⟨v, false, hv, hv, by simp [h], fun k hk => by simp, fun _ => rfl, by simp⟩
theorem twoN_of {xs : List Int} {n a : Nat} {neg : Bool} (hby : ∀ x ∈ xs, 0 ≤ x ∧ x < 256) (hl : xs.length = n) (hn : 0 < n) (h : FixN n (beN xs.reverse) a neg) : twoN xs = (neg, if neg = true then a + 1 else a) := by
  have e1 : xs.getLastD 0 = ((limb 256 (beN xs.reverse) (n - 1) : Nat) : Int) := by
    have e2 := leL_of hby
    rw [hl] at e2
    have e3 : xs[n - 1]? = (leL (beN xs.reverse) n)[n - 1]? := by rw [e2]
    rw [List.getLastD_eq_getLast?, List.getLast?_eq_getElem?, hl, e3]
    simp [leL, List.getElem?_range (show n - 1 < n by omega)]
  have ht := h.top
  unfold twoN
  rw [e1]
  cases neg
  · rw [if_neg (by simp at ht; omega), h.same rfl]; rfl
  · rw [if_pos (by simp at ht; omega), hl]
    have := h.sum rfl
    simp
    omega
/-- What Decoder.Fixed answers. -/
def DFixOut (K : DK) (w : World) (neg : Bool) (a n : Nat) (e : Ending) (w' : World) : Prop := ∃ g A l c, e = .returned (.pointer (some ⟨g, 0, none⟩)) ∧ w.heap.size ≤ g ∧ BigI w' g neg A l c a ∧ l ≤ 100000 ∧ Went K w 0 n w' ∧ ∀ ad, A = some ad → w.heap.size ≤ ad.block
set_option maxRecDepth 100000 in
theorem D_Fixed (K : DK) (w : World) (h : Dec K w 0 .nilIface) (m0 : Nat) (hn : m0 + 1 ≤ 100) (hxl : K.xs.length = m0 + 1) :
    Calls Try.prog 35 #[.pointer (some ⟨K.d, 0, none⟩), .int .i64 ((m0 : Int) + 1)] w fun e w' => DFixOut K w (twoN K.xs).1 (twoN K.xs).2 (m0 + 1) e w' := by
  obtain ⟨Z, hz, hZ⟩ := h.sc
  have c3 : w.cell? ⟨K.d, 3, none⟩ = some (.slice (some ⟨K.sb, 0, none⟩) 4096 4096) := h.b.blk.cell 3 rfl
  have C := Hd.mk (readFull_ok K 0 0 _ h.b K.sb Z 5 hZ (Ne.symm h.b.ne) (h.b.rd.sub (by simp)) (m0 + 1) 4096 (some ⟨K.sb, 0, none⟩) (fun _ => rfl) (by omega) (by omega) (by omega))
  have hby := h.by_
  have hx : K.xs = leL (beN K.xs.reverse) (m0 + 1) := by have := leL_of hby; rw [hxl] at this; exact this.symm
  have hvlt : beN K.xs.reverse < 256 ^ (m0 + 1) := by have := beN_lt K.xs.reverse (fun x hx => hby x (List.mem_reverse.1 hx)); rwa [List.length_reverse, hxl] at this
  obtain ⟨a, neg, hF⟩ := FixN.of (Nat.succ_pos m0) hvlt
  rw [twoN_of hby hxl (Nat.succ_pos m0) hF]
  generalize beN K.xs.reverse = v at *
  have H := Hd.mk h; have HZ := Hd.mk hz; have HX := Hd.mk hx; have HXL := Hd.mk hxl; have HF := Hd.mk hF
  clear h hZ hz hx hxl hby hF hvlt
  have i1 : (m0 : Int) + 1 ≤ 4096 := by omega
  have i2 : (0 : Int) ≤ (m0 : Int) + 1 := by omega
  go_enter Try.func35, Try.ntmps35
  go_wp2_with fail
  with_reducible refine C.out.mono ?_
  rintro e w1 ⟨rfl, hr⟩
  have hb1 : Blk w1 K.sb (scr v (m0 + 1) Z) 5 := by
    have := hr.2.1
    rw [List.drop_zero, List.take_of_length_le (by rw [HXL.out]; omega), HX.out] at this
    exact this.cast (scr_spliceN HZ.out (by omega))
  have HR1 := Hd.mk hr
  have cT := scr_get hb1 (q := m0) (by omega) (by omega)
  have AN := and_128 ⟨limb 256 v m0, bytelt v m0⟩
  simp only [] at AN
  have TOP := HF.out.top
  rw [show m0.succ - 1 = m0 from rfl] at TOP
  rw [TOP] at AN
  have HT := Hd.mk TOP
  have HC1 := Hd.mk (fun q (hq : q < m0 + 1) => scr_get hb1 (q := q) (by omega) (by omega))
  have HK1 := Hd.mk (show ∃ cs, cs.size = 4096 ∧ Blk w1 K.sb cs 5 from ⟨_, by simp [scr, mapR], hb1⟩)
  have FIN := Hd.mk (fun (Wf : World) (hb : Bel w1.heap.size [] w1 Wf) => (show Went K w 0 (m0 + 1) Wf from by
    have hrd := HR1.out
    refine ⟨⟨hrd.1.bel (B := 0) hb (by simp) (fun x hx => by simp at hx), ?_, H.out.by_⟩, hrd.2.2.then hb hrd.2.2.size (by simp)⟩
    obtain ⟨cs, hcs, hKs⟩ := HK1.out
    exact ⟨cs.toList, by simpa using hcs, by simpa using hKs.bel hb hKs.lt (by simp)⟩))
  clear hr hb1 C TOP
  have VLT := Hd.mk HF.out.vlt
  go_wp2
  go_loop [9] (fun s => ∃ m : Nat, m ≤ m0 ∧ s = .int .i64 m ∧ v < 256 ^ (m + 1) ∧ (neg = true → m = m0)) (fun s => (intOf s).toNat)
  case atStart => exact ⟨m0, Nat.le_refl _, rfl, VLT.out, fun _ => rfl⟩
  case round =>
    obtain ⟨m, hm, rfl, hlt, hnm⟩ := hrel
    have HLT := Hd.mk hlt; have HNM := Hd.mk hnm
    clear hlt hnm
    have hc := HC1.out m (by omega)
    have TZ := Hd.mk (top_zero B256 HLT.out)
    have hb := bytelt v m
    have TN := Hd.mk (show neg = true → limb 256 v m ≠ 0 from fun h => by
      have h1 := HNM.out h
      have h2 := HT.out
      subst h1
      rw [h] at h2
      simp at h2
      omega)
    generalize hX : limb 256 v m = z at *
    clear hX
    have i3 : (0 : Int) ≤ m := by omega
    have i4 : (m : Int) < (m0 : Int) + 1 := by omega
    by_cases hC : 0 < m ∧ z = 0
    · obtain ⟨hm0, rfl⟩ := hC
      obtain ⟨m, rfl⟩ : ∃ k, m = k + 1 := ⟨m - 1, by omega⟩
      have hnf : neg = false := by
        cases neg
        · rfl
        · exact absurd rfl (TN.out rfl)
      subst hnf
      go_wp2
      go_round
      case rel => exact ⟨m, by omega, by simp, TZ.out.1 rfl, by simp⟩
      case measure => simp [intOf]
    · have hz1 : (¬ (0 : Int) < m) ∨ ((0 : Int) < m ∧ ((z : Int) == 0) = false) := by
        rcases Nat.eq_zero_or_pos m with h0 | h0
        · exact .inl (by omega)
        · exact .inr ⟨by omega, by simp; omega⟩
      clear hC
      have HA := Hd.mk (show a < 256 ^ (m + 1) by
        cases hn : neg
        · rw [HF.out.same hn]; exact HLT.out
        · rw [HNM.out hn]; exact HF.out.alt)
      rcases hz1 with hz1 | ⟨hz1, hz2⟩
      all_goals
        go_wp2_with (refine wpList_make_z rfl _ _ 77 rfl 91 (.int .u64 0) 8 Try.underlying77 infoW rfl .i64 .i64 _ _ (m / 8 + 1) rfl rfl (by simp) (by simp) (by omega) (by omega) ?_)
        intro w5 hbw hlw hsw
        have HBW := Hd.mk hbw; have HLW := Hd.mk hlw; have HSW := Hd.mk hsw
        clear hbw hlw hsw
        obtain ⟨cs, hcs, hKs⟩ := HK1.out
        have hsl : K.sb < w1.heap.size := hKs.lt
        have HC5 := Hd.mk (fun q (hq : q < m0 + 1) => show w5.cell? ⟨K.sb, q, none⟩ = some (.int .u8 (limb 256 v q : Nat)) by rw [HLW.out.cell (p := ⟨K.sb, q, none⟩) hsl]; exact HC1.out q hq)
        clear hKs hcs hc cT
        go_wp2
        go_loopw [60] (fun i wr => ∃ k : Nat, k ≤ m + 1 ∧ i = .int .i64 k ∧ Blk wr w1.heap.size (mapR (fun p => .int .u64 (limb WB (a % 256 ^ k) p : Nat)) (m / 8 + 1) []) 91 ∧ Bel w5.heap.size [w1.heap.size] w5 wr) (fun i _ => m + 1 - (intOf i).toNat)
        case atStart => exact ⟨0, by omega, rfl, HBW.out.cast (by rw [zs_mapR]; exact mapR_congr fun j hj => by rw [Nat.pow_zero, Nat.mod_one, limb_small WB1 (Nat.pow_pos (by decide))]; rfl), Bel.refl _ _ _⟩
        case round =>
          obtain ⟨k, hk, rfl, hbk, hlk⟩ := hrel
          have HBK := Hd.mk hbk; have HLK := Hd.mk hlk
          clear hbk hlk
          by_cases hkm : k < m + 1
          · have sb0 : wr.cell? ⟨K.sb, k, none⟩ = some (.int .u8 (limb 256 v k : Nat)) := by rw [HLK.out.cell (p := ⟨K.sb, k, none⟩) (by rw [HSW.out]; show K.sb < w1.heap.size + 1; omega) (by simp; omega)]; exact HC5.out k (by omega)
            have hk8 : k / 8 < m / 8 + 1 := by omega
            have sw0 : wr.cell? ⟨w1.heap.size, k / 8, none⟩ = some (.int .u64 (limb WB (a % 256 ^ k) (k / 8) : Nat)) := HBK.out.cell _ (mapR_get hk8)
            have fw0 := HBK.out.free (k / 8)
            obtain ⟨W1, W2⟩ := words_at a k
            have hby := bytelt a k
            have hbv := bytelt v k
            have hwd := WBlt (a % 256 ^ k) (k / 8)
            have ht : k % 8 ≤ 7 := by omega
            have SO := Hd.mk (shl_or ht hby W1)
            have WW := Hd.mk W2
            have LM := HF.out.lim k (by omega)
            have j1 : (0 : Int) ≤ (k : Int) / 8 := by omega
            have j2 : (k : Int) / 8 < (m : Int) / 8 + 1 := by omega
            have j3 : (k : Int) < (m : Int) + 1 := by omega
            have j4 : (0 : Int) ≤ (k : Int) % 8 * 8 := by omega
            have j5 : (k : Int) % 8 * 8 < 64 := by omega
            clear W1 W2
            have XO := xor_255 ⟨limb 256 v k, hbv⟩
            simp only [] at XO
            generalize hBB : limb 256 a k = bb at *
            generalize hVV : limb 256 v k = vv at *
            generalize hDD : limb WB (a % 256 ^ k) (k / 8) = dd at *
            clear hBB hDD hVV
            have SO2 := Hd.mk (show bits .or .u64 (dd : Int) (IntKind.u64.wrap ((bb : Int) * 2 ^ (k % 8 * 8))) = ((bb * 2 ^ (8 * (k % 8)) + dd : Nat) : Int) by rw [Nat.mul_comm (k % 8) 8]; exact SO.out)
            cases neg
            · simp at LM
              subst LM
              go_wp2
              go_region
              rw [SO2.out, ← WW.out]
              go_wp2
              go_roundw
              case rel =>
                refine ⟨k + 1, by omega, by go_num, ?_, (HLK.out.set (.inr (by simp)) _).drew⟩
                refine Blk.drew (Blk.cast (HBK.out.set (k / 8) _) ?_)
                rw [mapR_set hk8]
                refine mapR_congr fun p hp => ?_
                by_cases h1 : p = k / 8
                · subst h1; rw [if_pos rfl]
                · rw [if_neg h1, words_same h1]
              case measure => simp [intOf]; omega
            · simp at LM
              rw [← LM] at XO
              clear LM
              go_wp2
              go_region
              rw [SO2.out, ← WW.out]
              go_wp2
              go_roundw
              case rel =>
                refine ⟨k + 1, by omega, by go_num, ?_, (HLK.out.set (.inr (by simp)) _).drew⟩
                refine Blk.drew (Blk.cast (HBK.out.set (k / 8) _) ?_)
                rw [mapR_set hk8]
                refine mapR_congr fun p hp => ?_
                by_cases h1 : p = k / 8
                · subst h1; rw [if_pos rfl]
                · rw [if_neg h1, words_same h1]
              case measure => simp [intOf]; omega
          · obtain rfl : k = m + 1 := by omega
            have ea : a % 256 ^ (m + 1) = a := Nat.mod_eq_of_lt HA.out
            rw [ea] at HBK
            have hVw : Below w1.heap.size w1 wr := HLW.out.trans ((HLK.out.weak HLW.out.size (fun x hx hlt => by simp at hx; omega)).to)
            have hVr : w1.heap.size < wr.heap.size := HBK.out.lt
            have hVg : Below w1.heap.size w1 (wr.alloc (.cells #[.bool false, .slice none 0 0] 80)) := hVw.alloc hVw.size _
            have hG := Blk.new wr #[.bool false, .slice none 0 0] 80
            have hDL : DigL .u64 WB (wr.alloc (.cells #[.bool false, .slice none 0 0] 80)) (some ⟨w1.heap.size, 0, none⟩) (m / 8 + 1) (m / 8 + 1) a := ⟨by
              rw [WB_pow]
              exact Nat.lt_of_lt_of_le HA.out (Nat.pow_le_pow_right (by decide) (by omega)), Nat.le_refl _, by omega, fun j hj => ⟨_, rfl, (HBK.out.alloc (.cells #[.bool false, .slice none 0 0] 80)).cell j (mapR_get hj), by simp; omega⟩⟩
            have CSB := Hd.mk (intSetBits wr.heap.size _ _ _ a _ hG hDL (fun ad h => by cases h; simp; omega))
            have HVG := Hd.mk hVg
            have HWR := Hd.mk (show w.heap.size ≤ wr.heap.size from Nat.le_trans HR1.out.2.2.size (by omega))
            have HVR := Hd.mk (show ∀ ad : Addr, some (⟨w1.heap.size, 0, none⟩ : Addr) = some ad → w.heap.size ≤ ad.block from fun ad h => by cases h; exact HR1.out.2.2.size)
            have L2 := Hd.mk (show a < WB ^ 13 by
              rw [WB_pow]
              exact Nat.lt_of_lt_of_le HA.out (Nat.pow_le_pow_right (by decide) (by omega)))
            have HBG := Hd.mk (HBK.out.alloc (.cells #[.bool false, .slice none 0 0] 80))
            clear ea hVw hVg hG hDL
            go_wp2_with fail
            with_reducible refine CSB.out.mono ?_
            rintro e w6 ⟨l6, rfl, hi6, hb6⟩
            have l6a : l6 ≤ 13 := hi6.dig.len_le WB1 L2.out
            have hV6 : Bel w1.heap.size [] w1 w6 := (Bel.of HVG.out).trans (hb6.weak HVG.out.size (fun x hx hlt => by simp at hx; omega))
            have HB6 := Hd.mk (HBG.out.bel hb6 (by simp; omega) (by simp; omega))
            have HI6 := Hd.mk hi6; have HV6 := Hd.mk hV6
            clear hi6 hb6 hV6 CSB
            cases neg
            · go_wp2_with fail
              go_ret
              exact ⟨wr.heap.size, _, l6, _, rfl, HWR.out, by simpa using HI6.out, by omega, FIN.out _ HV6.out, HVR.out⟩
            · have CO := Hd.mk (natOne w6)
              go_wp2_with fail
              with_reducible refine CO.out.mono ?_
              rintro e w7 ⟨rfl, hw7⟩
              have B7 : Below w6.heap.size w6 w7 := by rw [hw7]; exact ((Below.refl _ _).alloc (Nat.le_refl _) _).alloc (by simp) _
              have q7 : Blk w7 (w6.heap.size + 1) #[.bool false, .slice (some ⟨w6.heap.size, 0, none⟩) 1 1] 80 := by
                rw [hw7]
                have := Blk.new (w6.alloc (.cells #[.int .u64 1] 91)) #[.bool false, .slice (some ⟨w6.heap.size, 0, none⟩) 1 1] 80
                simpa using this
              have y7 : w7.cell? ⟨w6.heap.size, 0, none⟩ = some (.int .u64 ((1 : Nat) : Int)) := by
                rw [hw7]
                exact ((Blk.new w6 #[.int .u64 1] 91).alloc _).cell 0 rfl
              have sz7 : w6.heap.size < w7.heap.size := by rw [hw7]; simp; omega
              have lt6 := HB6.out.lt
              have CA := Hd.mk (intAddW wr.heap.size w1.heap.size l6 (m / 8 + 1) 1 w6.heap.size (w6.heap.size + 1) a 1 (fun p => .int .u64 (limb WB a p : Nat)) [] w7 (HI6.out.blk.below B7 HI6.out.blk.lt) q7 (HB6.out.below B7 lt6) HI6.out.dig.cap (by omega) (by omega) HI6.out.dig.lt (fun j hj => rfl) (by decide) (by decide +kernel) y7 sz7 (by omega) (Nat.le_refl _) (by omega))
              have HV7 := Hd.mk (HV6.out.trans (Bel.of (B7.mono HV6.out.size)))
              clear B7 q7 y7 hw7 CO
              go_wp2_with fail
              with_reducible refine CA.out.mono ?_
              rintro e w8 ⟨A8, l8, c8, rfl, hi8, hb8, hf8⟩
              have l8a : l8 ≤ 14 := hi8.dig.len_le WB1 (show a + 1 < WB ^ 14 by
                have h1 := L2.out
                rw [show (14 : Nat) = 13 + 1 from rfl, Nat.pow_succ]
                have : 2 ≤ WB := by decide +kernel
                have h3 := Nat.mul_le_mul_left (WB ^ 13) this
                have : 0 < WB ^ 13 := Nat.pow_pos (by decide +kernel)
                omega)
              have CN := Hd.mk (intNegSame _ _ _ _ _ _ _ hi8)
              have HV8 := Hd.mk (HV7.out.trans (hb8.weak HV7.out.size (fun x hx hlt => by simp at hx; omega)))
              have HF8 := Hd.mk (show ∀ ad : Addr, A8 = some ad → w.heap.size ≤ ad.block from fun ad h => by
                have h1 := HR1.out.2.2.size; have h2 := HV7.out.size
                rcases hf8 ad h with h3 | h3 <;> omega)
              clear hi8 hb8 hf8 CA
              go_wp2_with fail
              with_reducible refine CN.out.mono ?_
              rintro e w9 ⟨rfl, hi9, hb9⟩
              have HI9 := Hd.mk hi9
              have HV9 := Hd.mk (HV8.out.trans (hb9.weak HV8.out.size (fun x hx hlt => by simp at hx; omega)))
              clear hi9 hb9 CN
              go_wp2_with fail
              go_ret
              exact ⟨wr.heap.size, _, l8, _, rfl, HWR.out, by simpa using HI9.out, by omega, FIN.out _ HV9.out, HF8.out⟩
end Go.Proofs.Ytjikodjljocpmaa.Kb
