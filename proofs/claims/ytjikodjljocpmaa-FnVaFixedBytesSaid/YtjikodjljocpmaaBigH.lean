/- math/big: nat.bytes, Int.Bytes, Int.SetBits; impl.bigBack. -/
import Derived.Test.YtjikodjljocpmaaBigE
namespace Go.Proofs.Ytjikodjljocpmaa.Kb
open Go Go.RowKit
set_option linter.unusedVariables false
set_option linter.unusedSimpArgs false
set_option maxHeartbeats 1000000
theorem Rd.avoid {w : World} {S : List Nat} {A : Option Addr} {n : Nat} {xs : List Int} (h : Rd w [] A n xs) (hA : ∀ ad, A = some ad → ad.block ∉ S) : Rd w S A n xs :=
  ⟨h.len, h.small, fun j hj => by
    obtain ⟨ad, h1, h2, h3, _⟩ := h.at_ j hj
    exact ⟨ad, h1, h2, h3, hA ad h1⟩⟩
/-- What nat.bytes answers: where the number's first byte is; the buffer holds its bytes, the highest first. -/
def NbOut (w : World) (gb a L : Nat) (e : Ending) (w' : World) : Prop := ∃ i m : Nat, e = .returned (.int .i64 i) ∧ i + m = L ∧ a < 256 ^ m ∧ (m = 0 ∨ 256 ^ (m - 1) ≤ a) ∧ Blk w' gb (mapR (fun q => .int .u8 (limb 256 a (L - 1 - q) : Nat)) L []) 5 ∧ Bel w.heap.size [gb] w w'
set_option maxRecDepth 100000 in
theorem natBytes (A : Option Addr) (l c a gb : Nat) (w : World) (h : DigV .u64 WB w A l c a) (hA : ∀ ad, A = some ad → 0 < l → ad.block ≠ gb) (hg : Blk w gb (zs (8 * l) (.int .u8 0)).toArray 5) (fl : l ≤ 100000) :
    Calls Try.prog 66 #[.slice A l c, .slice (some ⟨gb, 0, none⟩) (8 * l) (8 * l)] w fun e w' => NbOut w gb a (8 * l) e w' := by
  have H := Hd.mk h; have HA := Hd.mk hA
  have HG := Hd.mk (show Blk w gb (mapR (fun q => .int .u8 (if 8 * l ≤ q + 0 then limb 256 a (8 * l - 1 - q) else 0 : Nat)) (8 * l) []) 5 from hg.cast (by rw [zs_mapR]; exact mapR_congr fun q hq => by rw [if_neg (by omega)]; rfl))
  have h1 := h.cap; have h2 := h.small
  have LT := Hd.mk (show a < 256 ^ (8 * l) by have := h.lt; rwa [WB_pow] at this)
  clear h hA hg
  go_enter Try.func66, Try.ntmps66
  go_wp2
  go_loopw [4, 12] (fun i k wr => ∃ p : Nat, p ≤ l ∧ k = .int .i64 p ∧ i = .int .i64 (8 * (l - p) : Nat) ∧ Blk wr gb (mapR (fun q => .int .u8 (if 8 * l ≤ q + 8 * p then limb 256 a (8 * l - 1 - q) else 0 : Nat)) (8 * l) []) 5 ∧ Bel w.heap.size [gb] w wr) (fun _ k _ => l - (intOf k).toNat)
  case atStart => exact ⟨0, by omega, rfl, by simp, HG.out, Bel.refl _ _ _⟩
  case round =>
    obtain ⟨p, hp, rfl, rfl, hb, hl⟩ := hrel
    have HB := Hd.mk hb; have HL := Hd.mk hl
    clear hb hl
    by_cases hlt : p < l
    · obtain ⟨r, hr⟩ : ∃ r, l = p + r + 1 := ⟨l - p - 1, by omega⟩
      obtain ⟨g1, rfl, s1, l1⟩ := H.out.at_ p hlt
      have s1' : wr.cell? ⟨g1, p, none⟩ = some (.int .u64 (limb WB a p)) := by rw [HL.out.cell (p := ⟨g1, p, none⟩) l1 (by simp; exact HA.out _ rfl (by omega))]; exact s1
      have hd := WBlt a p
      have HR := Hd.mk hr
      clear s1 l1 hr
      have BW := Hd.mk (fun i hi => byte_word a p i hi)
      generalize hD : limb WB a p = d at *
      clear hD
      have e0 : 8 * (l - p) = 8 * r + 8 := by have := HR.out; omega
      rw [e0]
      clear e0
      go_wp2
      go_loopw [4, 6, 7] (fun i v j wr2 => ∃ t : Nat, t ≤ 8 ∧ j = .int .i64 t ∧ i = .int .i64 (8 * r + 8 - t : Nat) ∧ v = .int .u64 (d / 256 ^ t : Nat) ∧ Blk wr2 gb (mapR (fun q => .int .u8 (if 8 * l ≤ q + (8 * p + t) then limb 256 a (8 * l - 1 - q) else 0 : Nat)) (8 * l) []) 5 ∧ Bel w.heap.size [gb] w wr2) (fun _ _ j _ => 8 - (intOf j).toNat)
      case atStart => exact ⟨0, by omega, rfl, rfl, by simp, HB.out, HL.out⟩
      case round =>
        obtain ⟨t, ht, rfl, rfl, rfl, hb2, hl2⟩ := hrel
        have HB2 := Hd.mk hb2; have HL2 := Hd.mk hl2
        clear hb2 hl2
        by_cases ht8 : t < 8
        · obtain ⟨u, hu⟩ : ∃ u, 8 * r + 8 - t = u + 1 := ⟨8 * r + 8 - t - 1, by omega⟩
          have V1 := Hd.mk (BW.out t ht8)
          have V2 := Hd.mk (show d / 256 ^ (t + 1) = d / 256 ^ t / 256 by rw [Nat.pow_succ, Nat.div_div_eq_div_mul])
          have hv : d / 256 ^ t < 18446744073709551616 := Nat.lt_of_le_of_lt (Nat.div_le_self _ _) hd
          have HU := Hd.mk hu
          generalize hV : d / 256 ^ t = v at *
          rw [hu]
          clear hV hu
          have ul : u < 8 * l := by have := HU.out; have := HR.out; omega
          obtain ⟨v0, s0⟩ : ∃ v0, wr.cell? ⟨gb, u, none⟩ = some v0 := ⟨_, HB2.out.cell u (mapR_get ul)⟩
          have f0 := HB2.out.free u
          go_wp2
          go_roundw
          case rel =>
            refine ⟨t + 1, by omega, by go_num, by have := HU.out; congr 1; omega, by rw [V2.out]; simp, ?_, HL2.out.set (.inr (by simp)) _⟩
            refine Blk.cast (HB2.out.set u _) ?_
            rw [mapR_set ul]
            refine mapR_congr fun q hq => ?_
            have hu := HU.out; have hr := HR.out
            by_cases h3 : q = u
            · subst h3
              rw [if_pos rfl, if_pos (by omega), show 8 * l - 1 - q = 8 * p + t by omega, ← V1.out]
              simp
            · rw [if_neg h3]
              by_cases h4 : 8 * l ≤ q + (8 * p + t)
              · rw [if_pos h4, if_pos (by omega)]
              · rw [if_neg h4, if_neg (by omega)]
          case measure => simp [intOf]; omega
        · obtain rfl : t = 8 := by omega
          go_wp2
          go_roundw
          case rel => exact ⟨p + 1, by omega, by go_num, by have := HR.out; congr 1; omega, HB2.out.cast (mapR_congr fun q hq => by rw [show 8 * p + 8 = 8 * (p + 1) by omega]), HL2.out⟩
          case measure => simp [intOf]; omega
    · obtain rfl : p = l := by omega
      have e0 : 8 * (p - p) = 0 := by omega
      rw [e0]
      clear e0
      have HF := Hd.mk (HB.out.cast (mapR_congr (g := fun q => .int .u8 (limb 256 a (8 * p - 1 - q) : Nat)) fun q hq => by rw [if_pos (by omega)]))
      go_wp2
      go_loopw [4] (fun i wr2 => ∃ k : Nat, k ≤ 8 * p ∧ i = .int .i64 k ∧ a < 256 ^ (8 * p - k) ∧ wr2 = wr) (fun i _ => 8 * p - (intOf i).toNat)
      case atStart => exact ⟨0, by omega, rfl, LT.out, rfl⟩
      case round =>
        obtain ⟨k, hk, rfl, hlt2, rfl⟩ := hrel
        have LT2 := Hd.mk hlt2
        clear hlt2
        by_cases hk8 : k < 8 * p
        · obtain ⟨m, hm⟩ : ∃ m, 8 * p - k = m + 1 := ⟨8 * p - k - 1, by omega⟩
          have s0 := HF.out.cell k (mapR_get hk8)
          rw [show 8 * p - 1 - k = m by omega] at s0
          have TZ := Hd.mk (top_zero B256 (n := a) (l := m) (by rw [← hm]; exact LT2.out))
          have hx := bytelt a m
          have HM := Hd.mk hm
          have i1 : (k : Int) < 8 * p := by omega
          clear hm
          generalize hX : limb 256 a m = x at *
          clear hX
          by_cases hx0 : x = 0
          · subst hx0
            go_wp2
            go_roundw
            case rel => exact ⟨k + 1, by omega, by go_num, by have := TZ.out.1 rfl; rwa [show 8 * p - (k + 1) = m by have := HM.out; omega], trivial⟩
            case measure => simp [intOf]; omega
          · have hx1 : ((x : Int) == 0) = false := by simp; omega
            go_wp2
            go_ret
            refine ⟨k, m + 1, rfl, by have := HM.out; omega, by rw [← HM.out]; exact LT2.out, .inr ?_, HF.out, HL.out⟩
            rcases Nat.lt_or_ge a (256 ^ m) with h | h
            · exact absurd (TZ.out.2 h) hx0
            · simpa using h
        · obtain rfl : k = 8 * p := by omega
          have i1 : ¬ ((8 * p : Nat) : Int) < 8 * p := by omega
          go_wp2
          go_ret
          exact ⟨8 * p, 0, rfl, by omega, by have := LT2.out; simpa using this, .inl rfl, HF.out, HL.out⟩
/-- What Int.Bytes answers. -/
def IbOut (w : World) (a : Nat) (e : Ending) (w' : World) : Prop := ∃ A m c, e = .returned (.slice A m c) ∧ m ≤ c ∧ c ≤ maxLen ∧ a < 256 ^ m ∧ (m = 0 ∨ 256 ^ (m - 1) ≤ a) ∧ Rd w' [] A m (beL a m) ∧ Below w.heap.size w w' ∧ ∀ ad, A = some ad → w.heap.size ≤ ad.block
set_option maxRecDepth 100000 in
theorem intBytes (g : Nat) (neg : Bool) (A : Option Addr) (l c a : Nat) (w : World) (h : BigI w g neg A l c a) (fl : l ≤ 100000) :
    Calls Try.prog 57 #[.pointer (some ⟨g, 0, none⟩)] w fun e w' => IbOut w a e w' := by
  have H := Hd.mk h
  have y1 : w.cell? ⟨g, 1, none⟩ = some (.slice A l c) := h.blk.cell 1 rfl
  clear h
  go_enter Try.func57, Try.ntmps57
  go_wp2_with (refine wpList_make_z rfl _ _ 22 rfl 5 (.int .u8 0) 1 Try.underlying22 infoB rfl .i64 .i64 _ _ (8 * l) rfl rfl (by simp; omega) (by simp; omega) (by omega) (by omega) ?_)
  intro w1 hb hl hs
  have hbi := H.out.below hl
  have z1 : w1.cell? ⟨g, 1, none⟩ = some (.slice A l c) := hbi.blk.cell 1 rfl
  have C := Hd.mk (natBytes A l c a w.heap.size w1 hbi.dig (fun ad h1 h2 => by have := bigI_apart H.out ad h1 h2; omega) hb fl)
  have HL := Hd.mk hl
  clear hb hl hs hbi y1
  go_wp2_with fail
  with_reducible refine C.out.mono ?_
  rintro e w2 ⟨i, m, rfl, him, ha1, ha2, hb2, hl2⟩
  have i1 : (i : Int) ≤ ((8 * l : Nat) : Int) := by omega
  have i2 : (0 : Int) ≤ i := by omega
  have HB := Hd.mk hb2; have HL2 := Hd.mk hl2; have HA1 := Hd.mk ha1; have HA2 := Hd.mk ha2
  have HIM := Hd.mk him
  have him2 : i ≤ 8 * l := by omega
  clear hb2 hl2 ha1 ha2 him C
  have BL : Below w.heap.size w w2 := HL.out.trans ((HL2.out.weak HL.out.size (fun x hx hlt => by simp at hx; omega)).to)
  have HBL := Hd.mk BL
  clear BL
  by_cases hi : i = 8 * l
  · have hm0 : m = 0 := by have := HIM.out; omega
    subst hm0
    subst hi
    go_wp2
    go_ret
    exact ⟨some ⟨w.heap.size, 0, none⟩, 0, 0, by simp, Nat.zero_le _, by unfold maxLen; omega, HA1.out, .inl rfl, ⟨rfl, by omega, fun j hj => by simp [beL] at hj⟩, HBL.out, fun ad h => by cases h; exact Nat.le_refl _⟩
  · have hi' : ¬ 8 * l = i := by omega
    have hi2 : ¬ l * 8 = i := by omega
    have hRd : Rd w2 [] (some ((⟨w.heap.size, 0, none⟩ : Addr).add i)) m (beL a m) := by
      refine ⟨beL_len _ _, by have := HIM.out; omega, fun j hj => ⟨_, rfl, ?_, by rw [add_block]; exact HB.out.lt, by simp⟩⟩
      rw [beL_len] at hj
      rw [add_add]
      refine HB.out.cellz (i + j) ?_
      rw [mapR_get (by have := HIM.out; omega)]
      simp only [beL, List.getElem_map, List.getElem_range]
      rw [show 8 * l - 1 - (i + j) = m - 1 - j by have := HIM.out; omega]
    have HRd := Hd.mk hRd
    have HM := Hd.mk (show 8 * l - i = m by have := HIM.out; omega)
    clear hRd
    go_wp2
    go_ret
    have e : (⟨w.heap.size, 0, none⟩ : Addr).add i = ⟨w.heap.size, i, none⟩ := by
      unfold Addr.add
      split
      · rename_i h0; subst h0; rfl
      · simp
    exact ⟨some ⟨w.heap.size, i, none⟩, m, 8 * l - i, by rw [← HM.out]; rfl, by rw [HM.out]; exact Nat.le_refl _, by unfold maxLen; omega, HA1.out, HA2.out, by rw [← e]; exact HRd.out, HBL.out, fun ad h => by cases h; exact Nat.le_refl _⟩
/-- What Int.SetBits answers, of a number that is new. -/
def SbOut (w : World) (g a : Nat) (A : Option Addr) (c : Nat) (e : Ending) (w' : World) : Prop := ∃ l, e = .returned (.pointer (some ⟨g, 0, none⟩)) ∧ BigI w' g false A l c a ∧ Bel w.heap.size [g] w w'
set_option maxRecDepth 100000 in
theorem intSetBits (g : Nat) (A : Option Addr) (l c a : Nat) (w : World) (hg : Blk w g #[.bool false, .slice none 0 0] 80) (h : DigL .u64 WB w A l c a) (hA : ∀ ad, A = some ad → ad.block ≠ g) :
    Calls Try.prog 56 #[.pointer (some ⟨g, 0, none⟩), .slice A l c] w fun e w' => SbOut w g a A c e w' := by
  have C := Hd.mk (natNorm A l c a w h)
  have HG := Hd.mk hg; have HA := Hd.mk hA
  have y0 : w.cell? ⟨g, 0, none⟩ = some (.bool false) := hg.cell 0 rfl
  have y1 : w.cell? ⟨g, 1, none⟩ = some (.slice none 0 0) := hg.cell 1 rfl
  have f0 := hg.free 0; have f1 := hg.free 1
  clear hg h hA
  go_enter Try.func56, Try.ntmps56
  go_wp2_with fail
  with_reducible refine C.out.mono ?_
  rintro e w2 ⟨⟨m, rfl, hd⟩, rfl⟩
  have HD := Hd.mk hd
  clear hd C
  go_wp2_with fail
  go_ret
  have hne : ∀ (i : Nat) ad, A = some ad → ad.block ≠ (⟨g, i, none⟩ : Addr).block := fun i ad h => HA.out ad h
  exact ⟨m, rfl, ⟨((HG.out.set 1 (.slice A m c)).set 0 (.bool false)).cast rfl, (HD.out.set (hne 1) _).set (hne 0) _, HA.out⟩, ((Bel.refl _ _ _).set (.inr (by simp)) _).set (.inr (by simp)) _⟩
/-- What impl.bigBack answers. -/
def BackOut (w : World) (neg : Bool) (a : Nat) (e : Ending) (w' : World) : Prop := ∃ A m c, e = .returned (.agg #[.bool neg, .slice A m c]) ∧ m ≤ c ∧ c ≤ maxLen ∧ a < 256 ^ m ∧ (m = 0 ∨ 256 ^ (m - 1) ≤ a) ∧ Rd w' [] A m (beL a m) ∧ Below w.heap.size w w' ∧ ∀ ad, A = some ad → w.heap.size ≤ ad.block
theorem sgn_neg (neg : Bool) (a : Nat) : decide (sgn neg a < 0) = (neg && decide (a ≠ 0)) := by
  unfold sgn
  by_cases h : a = 0
  · simp [h]
  · cases neg <;> simp [h]
set_option maxRecDepth 100000 in
theorem bigBack (g : Nat) (neg : Bool) (A : Option Addr) (l c a : Nat) (w : World) (h : BigI w g neg A l c a) (fl : l ≤ 100000) :
    Calls Try.prog 33 #[.pointer (some ⟨g, 0, none⟩)] w fun e w' => BackOut w (neg && decide (a ≠ 0)) a e w' := by
  have HB := Hd.mk (show Below w.heap.size w (w.alloc (.cells #[.bool false, .slice none 0 0] 24)) from (Below.refl _ _).alloc (Nat.le_refl _) _)
  have HR := Hd.mk (Blk.new w #[.bool false, .slice none 0 0] 24)
  have H := Hd.mk (h.below HB.out)
  have CS := Hd.mk (intSign g neg A l c a _ H.out)
  have CI := Hd.mk (intBytes g neg A l c a _ H.out fl)
  have SN := sgn_neg neg a
  clear h
  generalize sgn neg a = s at *
  generalize (neg && decide (a ≠ 0)) = b at *
  go_enter Try.func33, Try.ntmps33
  go_wp2_with fail
  with_reducible refine CS.out.mono ?_
  rintro e w1 ⟨rfl, rfl⟩
  go_wp2_with fail
  with_reducible refine CI.out.mono ?_
  rintro e w2 ⟨A2, m, c2, rfl, k1, k2, k3, k4, k5, k6, k7⟩
  have HR2 := Hd.mk (HR.out.below k6 HR.out.lt)
  have y0 : w2.cell? ⟨w.heap.size, 0, none⟩ = some (.bool false) := HR2.out.cell 0 rfl
  have y1 : w2.cell? ⟨w.heap.size, 1, none⟩ = some (.slice none 0 0) := HR2.out.cell 1 rfl
  have f0 := HR2.out.free 0; have f1 := HR2.out.free 1
  have K7 := Hd.mk (show Rd w2 [w.heap.size] A2 m (beL a m) from ⟨k5.len, k5.small, fun j hj => by
    obtain ⟨ad, h1, h2, h3, _⟩ := k5.at_ j hj
    refine ⟨ad, h1, h2, h3, fun hm => ?_⟩
    have := k7 ad h1
    simp at hm this
    omega⟩)
  have K8 := Hd.mk (fun ad (h : A2 = some ad) => Nat.le_trans (show w.heap.size ≤ (w.alloc (.cells #[.bool false, .slice none 0 0] 24)).heap.size by simp) (k7 ad h))
  have K1 := Hd.mk k1; have K2 := Hd.mk k2; have K3 := Hd.mk k3; have K4 := Hd.mk k4; have K5 := Hd.mk k5; have K6 := Hd.mk (HB.out.trans (k6.mono HB.out.size))
  clear k1 k2 k3 k4 k5 k6 k7 CS CI
  go_wp2_with fail
  have hV := ((HR2.out.set 0 (.bool b)).set 1 (.slice A2 m c2)).cast (cs' := #[.bool b, .slice A2 m c2]) rfl
  have e0 := hV.cell 0 rfl
  have e1 := hV.cell 1 rfl
  refine bodyPost_ret (v := .agg #[.bool b, .slice A2 m c2]) (by simp [results, Try.results33, go_sem, e0, e1]) rfl ⟨A2, m, c2, rfl, K1.out, K2.out, K3.out, K4.out, ((K7.out.set (by simp) _).set (by simp) _).sub (by simp), (K6.out.setCell (Nat.le_refl _) _).setCell (Nat.le_refl _) _, K8.out⟩
end Go.Proofs.Ytjikodjljocpmaa.Kb
