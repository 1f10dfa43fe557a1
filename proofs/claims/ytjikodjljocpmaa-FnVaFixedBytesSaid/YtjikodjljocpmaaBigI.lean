/- Decoder.Decimal. -/
import Derived.Test.YtjikodjljocpmaaBigF
import Derived.Test.YtjikodjljocpmaaBigH
import Derived.Test.YtjikodjljocpmaaDecM
namespace Go.Proofs.Ytjikodjljocpmaa.Kb
open Go Go.RowKit
set_option linter.unusedVariables false
set_option linter.unusedSimpArgs false
set_option maxHeartbeats 2000000
theorem scr_splice {n : Nat} {Z : List Value} (hz : Z.length = 4096) : (splice Z 0 (bc (leL n 16))).toArray = scr n 16 Z := by
  apply Array.ext'
  show splice Z 0 (bc (leL n 16)) = (List.range 4096).map (fun q => if q < 16 then Value.int .u8 (limb 256 n q : Nat) else Z.getD q undef) ++ []
  rw [List.append_nil]
  apply List.ext_getElem?
  intro j
  have hl : (bc (leL n 16)).length = 16 := by simp [leL_len]
  have e1 : splice Z 0 (bc (leL n 16)) = bc (leL n 16) ++ Z.drop 16 := by simp [splice, hl, leL_len]
  rw [e1]
  by_cases hj : j < 4096
  · rw [List.getElem?_map, List.getElem?_range hj]
    by_cases h16 : j < 16
    · rw [List.getElem?_append_left (by omega)]
      simp [leL, h16]
    · rw [List.getElem?_append_right (by omega), hl, List.getElem?_drop, show 16 + (j - 16) = j by omega]
      simp [h16, List.getD_eq_getElem?_getD, List.getElem?_eq_getElem (show j < Z.length by omega)]
  · rw [List.getElem?_append_right (by omega), List.getElem?_eq_none (by rw [List.length_drop, hl]; omega), List.getElem?_eq_none (by simp; omega)]
theorem and_15 : ∀ t : Fin 96, ∀ b : Bool, (bits .and .u8 ((t.1 + (if b = true then 128 else 0) : Nat) : Int) 112 == 112) = false ∧ (bits .and .u8 ((t.1 + (if b = true then 128 else 0) : Nat) : Int) 96 == 96) = false ∧ (bits .and .u8 ((t.1 + (if b = true then 128 else 0) : Nat) : Int) 128 != 0) = b := by decide +kernel
theorem and_1 : ∀ n : Fin 256, bits .and .u8 ((n.1 : Nat) : Int) 1 = ((n.1 % 2 : Nat) : Int) := by decide +kernel
theorem bits_or_comm (k : IntKind) (a b : Int) : bits .or k a b = bits .or k b a := by
  unfold bits
  simp only []
  rw [BitVec.or_comm]
theorem exp_of {v u y : Nat} {neg : Bool} (hv : y / 128 + (if neg = true then 128 else 0) = v) (hu : u ≤ 1) (hy : y ≤ 12287) :
    wrap64 (wrap64 (IntKind.u16.wrap (bits .or .u16 (IntKind.u16.wrap (IntKind.u16.wrap (v : Int) * 256)) ((u : Int) + 2 * (y : Int) % 256) * 2) / 4) - 6176) = (y : Int) - 6176 := by
  have hv2 : v ≤ 223 := by rw [← hv]; split <;> omega
  have e1 : IntKind.u16.wrap (v : Int) = v := u16_wrap_id _ (by omega) (by omega)
  have e2 : IntKind.u16.wrap ((v : Int) * 256) = (v : Int) * 256 := u16_wrap_id _ (by omega) (by omega)
  rw [e1, e2, bits_or_comm, u16_or8 _ _ (by omega) (by omega) (by omega) (by omega) (by omega)]
  have e : IntKind.u16.wrap (((u : Int) + 2 * (y : Int) % 256 + (v : Int) * 256) * 2) = 4 * (y : Int) + 2 * u := by
    obtain ⟨q, r, hr, rfl⟩ : ∃ q r, r < 128 ∧ y = 128 * q + r := ⟨y / 128, y % 128, Nat.mod_lt _ (by decide), by omega⟩
    have h1 : (128 * q + r) / 128 = q := by omega
    rw [h1] at hv
    have h2 : (2 * ((128 * q + r : Nat) : Int)) % 256 = 2 * r := by omega
    rw [IntKind.wrap_u16, h2]
    have h3 : v = q ∨ v = q + 128 := by
      cases neg
      · exact .inl (by simpa using hv.symm)
      · exact .inr (by simpa using hv.symm)
    rcases h3 with h3 | h3 <;> (rw [h3]; omega)
  have e4 : (4 * (y : Int) + 2 * (u : Int)) / 4 = y := by omega
  have e5 : wrap64 (y : Int) = y := IntWalk.wrap64_in _ ⟨by omega, by omega⟩
  rw [e, e4, e5]
  exact IntWalk.wrap64_in _ ⟨by omega, by omega⟩
/-- One byte more, put into words. -/
theorem words_same {a k p : Nat} (hp : p ≠ k / 8) : limb WB (a % 256 ^ (k + 1)) p = limb WB (a % 256 ^ k) p := by
  have hk : k = 8 * (k / 8) + k % 8 := (Nat.div_add_mod k 8).symm
  have hpow : 256 ^ k = 256 ^ (k % 8) * WB ^ (k / 8) := by rw [WB_pow, ← Nat.pow_add]; congr 1; omega
  rcases Nat.lt_or_ge p (k / 8) with h | h
  · rw [mod_succ B256, hpow, ← Nat.mul_assoc, limb_low WB1 _ _ _ _ h]
  · have h1 : 256 ^ (k + 1) ≤ WB ^ p := by rw [WB_pow]; exact Nat.pow_le_pow_right (by decide) (by omega)
    have h2 : 256 ^ k ≤ WB ^ p := by rw [WB_pow]; exact Nat.pow_le_pow_right (by decide) (by omega)
    rw [limb_small WB1 (Nat.lt_of_lt_of_le (mod_lt' B256 a (k + 1)) h1), limb_small WB1 (Nat.lt_of_lt_of_le (mod_lt' B256 a k) h2)]
theorem words_at (a k : Nat) : limb WB (a % 256 ^ k) (k / 8) < 256 ^ (k % 8) ∧ limb WB (a % 256 ^ (k + 1)) (k / 8) = limb 256 a k * 2 ^ (8 * (k % 8)) + limb WB (a % 256 ^ k) (k / 8) := by
  have hpow : 256 ^ k = 256 ^ (k % 8) * WB ^ (k / 8) := by rw [WB_pow, ← Nat.pow_add]; congr 1; omega
  have hlt := mod_lt' B256 a k
  have hq : a % 256 ^ k / WB ^ (k / 8) < 256 ^ (k % 8) := Nat.div_lt_of_lt_mul (by rw [Nat.mul_comm, ← hpow]; exact hlt)
  have hw : 256 ^ (k % 8) * 256 ≤ WB := by
    rw [WB_256, ← Nat.pow_succ]
    exact Nat.pow_le_pow_right (by decide) (by omega)
  have hd : limb WB (a % 256 ^ k) (k / 8) = a % 256 ^ k / WB ^ (k / 8) := by
    unfold limb
    exact Nat.mod_eq_of_lt (by omega)
  have hb := bytelt a k
  have e : 2 ^ (8 * (k % 8)) = 256 ^ (k % 8) := by rw [Nat.pow_mul]
  refine ⟨by rw [hd]; exact hq, ?_⟩
  rw [mod_succ B256, hpow, ← Nat.mul_assoc, limb_at WB1, ← hpow, hd, e]
  have hm : limb 256 a k * 256 ^ (k % 8) + 256 ^ (k % 8) ≤ 256 * 256 ^ (k % 8) := by rw [← Nat.succ_mul]; exact Nat.mul_le_mul_right _ hb
  rw [Nat.mod_eq_of_lt (by omega)]
  omega
set_option maxRecDepth 100000 in
theorem D_Decimal (K : DK) (w : World) (h : Dec K w 0 .nilIface) (neg : Bool) (a y : Nat) (hx : K.xs = leL (decN neg a y) 16) (ha : a < 2 ^ 113) (hy : y ≤ 12287) (x : Int) (hxy : x = (y : Int) - 6176) :
    Calls Try.prog 31 #[.pointer (some ⟨K.d, 0, none⟩)] w fun e w' => ∃ g A l c, e = .returned (.tuple #[.pointer (some ⟨g, 0, none⟩), .int .i64 x, .nilIface]) ∧ w.heap.size ≤ g ∧ BigI w' g (neg && decide (a ≠ 0)) A l c a ∧ l ≤ 100000 ∧ Went K w 0 16 w' ∧ ∀ ad, A = some ad → w.heap.size ≤ ad.block := by
  obtain ⟨Z, hz, hZ⟩ := h.sc
  have hxl : K.xs.length = 16 := by rw [hx, leL_len]
  have c3 : w.cell? ⟨K.d, 3, none⟩ = some (.slice (some ⟨K.sb, 0, none⟩) 4096 4096) := h.b.blk.cell 3 rfl
  have C := Hd.mk (readFull_ok K 0 0 _ h.b K.sb Z 5 hZ (Ne.symm h.b.ne) (h.b.rd.sub (by simp)) 16 4096 (some ⟨K.sb, 0, none⟩) (fun _ => rfl) (by omega) (by omega) (by omega))
  have H := Hd.mk h; have HZ := Hd.mk hz; have HX := Hd.mk hx; have HA := Hd.mk ha; have HXL := Hd.mk hxl; have HXY := Hd.mk hxy
  have D15 := dec_15 neg ha (show y < 16384 by omega)
  have D14 := dec_14 neg (y := y) ha
  have A14 := a_14 ha
  clear h hZ hz hx ha hxl hxy
  go_enter Try.func31, Try.ntmps31
  go_wp2_with fail
  with_reducible refine C.out.mono ?_
  rintro e w1 ⟨rfl, hr⟩
  have hb1 : Blk w1 K.sb (scr (decN neg a y) 16 Z) 5 := by
    have := hr.2.1
    rw [List.drop_zero, List.take_of_length_le (by rw [HXL.out]; omega), HX.out] at this
    exact this.cast (scr_splice HZ.out)
  have HR1 := Hd.mk hr
  have c15 := scr_get hb1 (q := 15) (by omega) (by omega)
  have c14 := scr_get hb1 (q := 14) (by omega) (by omega)
  have f14 := hb1.free 14
  obtain ⟨B1, B2, B3⟩ := and_15 ⟨y / 128, by omega⟩ neg
  simp only [] at B1 B2 B3
  rw [D15] at c15
  rw [D14, A14.2] at c14
  have hu : a / 256 ^ 14 ≤ 1 := A14.1
  have HB1 := Hd.mk hb1
  have U := Hd.mk A14.2
  generalize hV : y / 128 + (if neg = true then 128 else 0) = v at *
  generalize hUU : a / 256 ^ 14 = u at *
  have HV := Hd.mk hV
  clear hr hb1 C D15 D14 A14 hV hUU
  go_wp2
  go_quiet (fail)
  have hEX := exp_of HV.out hu hy
  rw [hEX, ← HXY.out]
  obtain ⟨W, hW⟩ : ∃ W, W = w1.drewN nq := ⟨_, rfl⟩
  rw [← hW]
  have hWB : Below w1.heap.size w1 W := by subst hW; exact belowN (Below.refl _ _) _
  have hb1 : Blk W K.sb (scr (decN neg a y) 16 Z) 5 := by subst hW; exact HB1.out.drewN _
  have c14' : W.cell? ⟨K.sb, 14, none⟩ = some (.int .u8 ((u : Int) + 2 * y % 256)) := by
    have := scr_get hb1 (q := 14) (by omega) (by omega)
    rw [dec_14 neg HA.out, U.out] at this
    simpa using this
  have f14' := hb1.free 14
  have b14 : bits .and .u8 ((u : Int) + 2 * y % 256) 1 = u := by
    have := and_1 ⟨u + 2 * y % 256, by omega⟩
    simp only [] at this
    rw [show ((u : Int) + 2 * y % 256) = ((u + 2 * y % 256 : Nat) : Int) by omega, this]
    omega
  have HWB := Hd.mk hWB; have HB2 := Hd.mk hb1
  clear hEX hW hWB hb1 c15 c14 f14 B1 B2 B3
  have LOW := Hd.mk (fun q (hq : q < 14) => dec_low neg a y q hq)
  have HV2 := Hd.mk (show Bel w1.heap.size [K.sb] w1 (W.setCell ⟨K.sb, 14, none⟩ (.int .u8 u)) from (Bel.of HWB.out).set (.inr (by simp)) _)
  have HC2 := Hd.mk (show ∀ q, q < 15 → (W.setCell ⟨K.sb, 14, none⟩ (.int .u8 u)).cell? ⟨K.sb, q, none⟩ = some (.int .u8 (limb 256 a q : Nat)) from fun q hq => by
    refine (HB2.out.set 14 (.int .u8 u)).cell q ?_
    unfold scr
    rw [mapR_set (by decide), mapR_get (by omega)]
    by_cases h1 : q = 14
    · subst h1; rw [if_pos rfl, U.out]
    · rw [if_neg h1, if_pos (by omega), LOW.out q (by omega)])
  have HK2 := Hd.mk (show ∃ cs, cs.size = 4096 ∧ Blk (W.setCell ⟨K.sb, 14, none⟩ (.int .u8 u)) K.sb cs 5 from ⟨_, by simp [scr, mapR], HB2.out.set 14 _⟩)
  have LT := Hd.mk (show a < 256 ^ 15 from Nat.lt_trans HA.out (by decide +kernel))
  go_wp2
  obtain ⟨V, hV⟩ : ∃ V, V = W.setCell ⟨K.sb, 14, none⟩ (.int .u8 u) := ⟨_, rfl⟩
  rw [← hV] at HV2 HC2 HK2 ⊢
  clear hV c14' f14'
  go_loop [10] (fun s => ∃ m : Nat, m ≤ 14 ∧ s = .int .i64 m ∧ a < 256 ^ (m + 1)) (fun s => (intOf s).toNat)
  case atStart => exact ⟨14, Nat.le_refl _, rfl, LT.out⟩
  case round =>
    obtain ⟨m, hm, rfl, hlt⟩ := hrel
    have HLT := Hd.mk hlt
    clear hlt
    have hc := HC2.out m (by omega)
    have TZ := Hd.mk (top_zero B256 HLT.out)
    have hb := bytelt a m
    generalize hX : limb 256 a m = z at *
    clear hX
    have i1 : (0 : Int) ≤ m := by omega
    have i2 : (m : Int) < 16 := by omega
    by_cases hC : 0 < m ∧ z = 0
    · obtain ⟨hm0, rfl⟩ := hC
      obtain ⟨m, rfl⟩ : ∃ k, m = k + 1 := ⟨m - 1, by omega⟩
      go_wp2
      go_round
      case rel => exact ⟨m, by omega, by simp, TZ.out.1 rfl⟩
      case measure => simp [intOf]
    · have hz1 : (¬ (0 : Int) < m) ∨ ((0 : Int) < m ∧ ((z : Int) == 0) = false) := by
        rcases Nat.eq_zero_or_pos m with h0 | h0
        · exact .inl (by omega)
        · exact .inr ⟨by omega, by simp; omega⟩
      clear hC
      rcases hz1 with hz1 | ⟨hz1, hz2⟩
      all_goals
        go_wp2_with (refine wpList_make_z rfl _ _ 77 rfl 91 (.int .u64 0) 8 Try.underlying77 infoW rfl .i64 .i64 _ _ (m / 8 + 1) rfl rfl (by simp) (by simp) (by omega) (by omega) ?_)
        intro w5 hbw hlw hsw
        have HBW := Hd.mk hbw; have HLW := Hd.mk hlw; have HSW := Hd.mk hsw
        clear hbw hlw hsw
        obtain ⟨cs, hcs, hKs⟩ := HK2.out
        have hsl : K.sb < V.heap.size := hKs.lt
        have HC5 := Hd.mk (fun q (hq : q < 15) => show w5.cell? ⟨K.sb, q, none⟩ = some (.int .u8 (limb 256 a q : Nat)) by rw [HLW.out.cell (p := ⟨K.sb, q, none⟩) hsl]; exact HC2.out q hq)
        clear hKs hcs hc
        go_wp2
        go_loopw [86] (fun i wr => ∃ k : Nat, k ≤ m + 1 ∧ i = .int .i64 k ∧ Blk wr V.heap.size (mapR (fun p => .int .u64 (limb WB (a % 256 ^ k) p : Nat)) (m / 8 + 1) []) 91 ∧ Bel w5.heap.size [V.heap.size] w5 wr) (fun i _ => m + 1 - (intOf i).toNat)
        case atStart => exact ⟨0, by omega, rfl, HBW.out.cast (by rw [zs_mapR]; exact mapR_congr fun j hj => by rw [Nat.pow_zero, Nat.mod_one, limb_small WB1 (Nat.pow_pos (by decide))]; rfl), Bel.refl _ _ _⟩
        case round =>
          obtain ⟨k, hk, rfl, hbk, hlk⟩ := hrel
          have HBK := Hd.mk hbk; have HLK := Hd.mk hlk
          clear hbk hlk
          by_cases hkm : k < m + 1
          · have sb0 : wr.cell? ⟨K.sb, k, none⟩ = some (.int .u8 (limb 256 a k : Nat)) := by rw [HLK.out.cell (p := ⟨K.sb, k, none⟩) (by rw [HSW.out]; show K.sb < V.heap.size + 1; omega) (by simp; omega)]; exact HC5.out k (by omega)
            have hk8 : k / 8 < m / 8 + 1 := by omega
            have sw0 : wr.cell? ⟨V.heap.size, k / 8, none⟩ = some (.int .u64 (limb WB (a % 256 ^ k) (k / 8) : Nat)) := HBK.out.cell _ (mapR_get hk8)
            have fw0 := HBK.out.free (k / 8)
            obtain ⟨W1, W2⟩ := words_at a k
            have hby := bytelt a k
            have hwd := WBlt (a % 256 ^ k) (k / 8)
            have ht : k % 8 ≤ 7 := by omega
            have SO := Hd.mk (shl_or ht hby W1)
            have WW := Hd.mk W2
            have j1 : (0 : Int) ≤ (k : Int) / 8 := by omega
            have j2 : (k : Int) / 8 < (m : Int) / 8 + 1 := by omega
            have j3 : (k : Int) < (m : Int) + 1 := by omega
            have j4 : (0 : Int) ≤ (k : Int) % 8 * 8 := by omega
            have j5 : (k : Int) % 8 * 8 < 64 := by omega
            clear W1 W2
            generalize hBB : limb 256 a k = bb at *
            generalize hDD : limb WB (a % 256 ^ k) (k / 8) = dd at *
            clear hBB hDD
            have SO2 := Hd.mk (show bits .or .u64 (dd : Int) (IntKind.u64.wrap ((bb : Int) * 2 ^ (k % 8 * 8))) = ((bb * 2 ^ (8 * (k % 8)) + dd : Nat) : Int) by rw [Nat.mul_comm (k % 8) 8]; exact SO.out)
            go_wp2
            go_region
            rw [SO2.out, ← WW.out]
            go_wp2
            go_roundw
            case rel =>
              refine ⟨k + 1, by omega, by go_num, ?_, (HLK.out.set (.inr (by simp)) _).drew⟩
              refine Blk.drew (Blk.cast (HBK.out.set (k / 8) _) ?_)
              rw [mapR_set hk8]
              refine mapR_congr fun p hp => ?_
              by_cases h1 : p = k / 8
              · subst h1; rw [if_pos rfl]
              · rw [if_neg h1, words_same h1]
            case measure => simp [intOf]; omega
          · obtain rfl : k = m + 1 := by omega
            have ea : a % 256 ^ (m + 1) = a := Nat.mod_eq_of_lt HLT.out
            rw [ea] at HBK
            have hVw : Below V.heap.size V wr := HLW.out.trans ((HLK.out.weak HLW.out.size (fun x hx hlt => by simp at hx; omega)).to)
            have hVr : V.heap.size < wr.heap.size := HBK.out.lt
            have hVg : Below V.heap.size V (wr.alloc (.cells #[.bool false, .slice none 0 0] 80)) := hVw.alloc hVw.size _
            have hG := Blk.new wr #[.bool false, .slice none 0 0] 80
            have hDL : DigL .u64 WB (wr.alloc (.cells #[.bool false, .slice none 0 0] 80)) (some ⟨V.heap.size, 0, none⟩) (m / 8 + 1) (m / 8 + 1) a := ⟨by
              rw [WB_pow]
              exact Nat.lt_of_lt_of_le HLT.out (Nat.pow_le_pow_right (by decide) (by omega)), Nat.le_refl _, by omega, fun j hj => ⟨_, rfl, (HBK.out.alloc (.cells #[.bool false, .slice none 0 0] 80)).cell j (mapR_get hj), by simp; omega⟩⟩
            have CSB := Hd.mk (intSetBits wr.heap.size _ _ _ a _ hG hDL (fun ad h => by cases h; simp; omega))
            have HVG := Hd.mk hVg
            have FIN := Hd.mk (fun (Wf : World) (hb : Bel V.heap.size [] V Wf) => (show Went K w 0 16 Wf from by
              have hb1 : Bel w1.heap.size [K.sb] w1 Wf := HV2.out.then hb HV2.out.size (by simp)
              have hrd := HR1.out
              refine ⟨⟨hrd.1.bel (B := 0) hb1 (by simp; exact H.out.b.ne) (fun x hx => by simp at hx; exact .inl hx), ?_, H.out.by_⟩, hrd.2.2.then hb1 hrd.2.2.size (by simp)⟩
              obtain ⟨cs, hcs, hKs⟩ := HK2.out
              exact ⟨cs.toList, by simpa using hcs, by simpa using hKs.bel hb hKs.lt (by simp)⟩))
            have HWR := Hd.mk (show w.heap.size ≤ wr.heap.size from Nat.le_trans HR1.out.2.2.size (Nat.le_trans HV2.out.size (by omega)))
            have HVR := Hd.mk (show ∀ ad : Addr, some (⟨V.heap.size, 0, none⟩ : Addr) = some ad → w.heap.size ≤ ad.block from fun ad h => by cases h; exact Nat.le_trans HR1.out.2.2.size HV2.out.size)
            have L2 := Hd.mk (show a < WB ^ 2 from Nat.lt_trans HA.out (by decide +kernel))
            clear ea hVw hVr hVg hG hDL
            go_wp2_with fail
            with_reducible refine CSB.out.mono ?_
            rintro e w6 ⟨l6, rfl, hi6, hb6⟩
            have l6a : l6 ≤ 100000 := Nat.le_trans (hi6.dig.len_le WB1 L2.out) (by decide)
            have hV6 : Bel V.heap.size [] V w6 := (Bel.of HVG.out).trans (hb6.weak HVG.out.size (fun x hx hlt => by simp at hx; have := HBK.out.lt; omega))
            have HI6 := Hd.mk hi6; have HV6 := Hd.mk hV6
            clear hi6 hb6 hV6 CSB
            cases neg
            · go_wp2_with fail
              go_ret3
              exact ⟨wr.heap.size, _, l6, _, rfl, HWR.out, by simpa using HI6.out, l6a, FIN.out _ HV6.out, HVR.out⟩
            · have CN := Hd.mk (intNegSame _ _ _ _ _ _ _ HI6.out)
              go_wp2_with fail
              with_reducible refine CN.out.mono ?_
              rintro e w7 ⟨rfl, hi7, hb7⟩
              have HI7 := Hd.mk hi7
              have HV7 := Hd.mk (show Bel V.heap.size [] V w7 from HV6.out.trans (hb7.weak HV6.out.size (fun x hx hlt => by simp at hx; have := HBK.out.lt; omega)))
              clear hi7 hb7 CN
              go_wp2_with fail
              go_ret3
              exact ⟨wr.heap.size, _, l6, _, rfl, HWR.out, by simpa using HI7.out, l6a, FIN.out _ HV7.out, HVR.out⟩
end Go.Proofs.Ytjikodjljocpmaa.Kb
