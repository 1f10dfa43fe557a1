/- math/big: nat.setBytes. -/
import Derived.Test.YtjikodjljocpmaaBigB
namespace Go.Proofs.Ytjikodjljocpmaa.Kb
open Go Go.RowKit
set_option linter.unusedVariables false
set_option linter.unusedSimpArgs false
set_option maxHeartbeats 1000000
theorem beWord (ad : Addr) (c : Nat) (xs : List Int) (w : World) (hr : Rd w [] (some ad) 8 xs) (hby : ∀ x ∈ xs, 0 ≤ x ∧ x < 256) (hc : 8 ≤ c) (hc2 : c ≤ 9223372036854775807) :
    Calls Try.prog 72 #[.slice (some ad) 8 c] w fun e w' => e = .returned (.int .u64 (beN xs)) ∧ Below w.heap.size w w' := by
  have C := Hd.mk (be64 ad c xs w hr hby hc hc2)
  clear hr hby
  go_enter Try.func72, Try.ntmps72
  go_wp2_with fail
  with_reducible refine C.out.mono ?_
  rintro e w2 ⟨rfl, hb⟩
  have HB := Hd.mk hb
  clear hb
  go_wp2
  go_ret
  exact ⟨rfl, HB.out⟩
theorem WB_pow (k : Nat) : WB ^ k = 256 ^ (8 * k) := by rw [Nat.pow_mul]; rfl
theorem beN_div {xs : List Int} (hby : ∀ x ∈ xs, 0 ≤ x ∧ x < 256) {i : Nat} (hi : i ≤ xs.length) : beN xs / 256 ^ (xs.length - i) = beN (xs.take i) := by
  have h := beN_append (xs.take i) (xs.drop i)
  rw [List.take_append_drop, List.length_drop] at h
  have h2 := beN_lt (xs.drop i) (fun x hx => hby x (List.mem_of_mem_drop hx))
  rw [List.length_drop] at h2
  rw [h, Nat.mul_comm, Nat.mul_add_div (Nat.pow_pos (by decide)), Nat.div_eq_of_lt h2, Nat.add_zero]
/-- The word at place k: the bytes from q to q + 8. -/
theorem word_at {xs : List Int} (hby : ∀ x ∈ xs, 0 ≤ x ∧ x < 256) {k q : Nat} (h : q + 8 + 8 * k = xs.length) : limb WB (beN xs) k = beN ((xs.drop q).take 8) := by
  unfold limb
  rw [WB_pow, show 8 * k = xs.length - (q + 8) by omega, beN_div hby (by omega)]
  have e : xs.take (q + 8) = xs.take q ++ (xs.drop q).take 8 := by rw [List.take_add]
  have h2 := beN_lt ((xs.drop q).take 8) (fun x hx => hby x (List.mem_of_mem_drop (List.mem_of_mem_take hx)))
  have hl : ((xs.drop q).take 8).length = 8 := by simp; omega
  rw [e, beN_append, hl]
  rw [hl] at h2
  have : (256 : Nat) ^ 8 = WB := by decide +kernel
  rw [this] at h2 ⊢
  rw [Nat.mul_comm, Nat.mul_add_mod, Nat.mod_eq_of_lt h2]
/-- The highest word, of fewer bytes. -/
theorem word_last {xs : List Int} (hby : ∀ x ∈ xs, 0 ≤ x ∧ x < 256) {k i : Nat} (h : i + 8 * k = xs.length) (hi : i < 8) : limb WB (beN xs) k = beN (xs.take i) := by
  unfold limb
  rw [WB_pow, show 8 * k = xs.length - i by omega, beN_div hby (by omega)]
  refine Nat.mod_eq_of_lt ?_
  have h2 := beN_lt (xs.take i) (fun x hx => hby x (List.mem_of_mem_take hx))
  rw [List.length_take] at h2
  refine Nat.lt_of_lt_of_le h2 ?_
  have : WB = 256 ^ 8 := by decide +kernel
  rw [this]
  exact Nat.pow_le_pow_right (by decide) (by omega)
theorem shl_or {t y d : Nat} (ht : t ≤ 7) (hy : y < 256) (hd : d < 256 ^ t) : bits .or .u64 (d : Int) (IntKind.u64.wrap ((y : Int) * 2 ^ (8 * t))) = ((y * 2 ^ (8 * t) + d : Nat) : Int) := by
  have e : 2 ^ (8 * t) = 256 ^ t := by rw [Nat.pow_mul]
  have hP : 256 ^ t * 256 ≤ 18446744073709551616 := by
    rw [← Nat.pow_succ]
    exact Nat.le_trans (Nat.pow_le_pow_right (by decide) (show t + 1 ≤ 8 by omega)) (by decide)
  have hm : y * 256 ^ t + 256 ^ t ≤ 256 * 256 ^ t := by rw [← Nat.succ_mul]; exact Nat.mul_le_mul_right _ hy
  have hw : IntKind.u64.wrap ((y : Int) * 2 ^ (8 * t)) = ((y * 2 ^ (8 * t) : Nat) : Int) := by
    have h1 : ((y * 2 ^ (8 * t) : Nat) : Int) = (y : Int) * 2 ^ (8 * t) := by simp
    rw [← h1]
    refine u64_wrap_id _ (by omega) ?_
    rw [e]
    omega
  rw [hw]
  exact or_shift' (8 * t) y d (by rw [e]; exact hd) (by rw [e]; omega)
/-- The block of a number's words: as many words as its slice may hold, those of the number first. -/
def WBlk (w : World) (A : Option Addr) (l c a : Nat) : Prop := ∀ ad, A = some ad → ∃ g f, ad = ⟨g, 0, none⟩ ∧ c ≤ 1000 ∧ Blk w g (mapR f c []) 91 ∧ ∀ j, j < l → f j = .int .u64 (limb WB a j : Nat)
theorem WBlk.keep {w w' : World} {A : Option Addr} {l c a : Nat} (h : WBlk w A l c a) (hb : ∀ ad cs, A = some ad → Blk w ad.block cs 91 → Blk w' ad.block cs 91) : WBlk w' A l c a := by
  intro ad e
  obtain ⟨g, f, rfl, h1, h2, h3⟩ := h ad e
  exact ⟨g, f, rfl, h1, hb _ _ e h2, h3⟩
/-- What nat.setBytes answers. -/
def WordsOut (w : World) (n : Nat) (e : Ending) (w' : World) : Prop := ∃ A l c, e = .returned (.slice A l c) ∧ DigV .u64 WB w' A l c n ∧ Below w.heap.size w w' ∧ (∀ ad, A = some ad → w.heap.size ≤ ad.block) ∧ WBlk w' A l c n
set_option maxRecDepth 100000 in
theorem setBytes_nil (A : Option Addr) (c : Nat) (w : World) (hc : c ≤ 9223372036854775807) :
    Calls Try.prog 61 #[.slice none 0 0, .slice A 0 c] w fun e w' => WordsOut w 0 e w' := by
  have C := Hd.mk (natMake_fitsI none 0 0 0 0 w (Nat.le_refl _) (by omega) rfl)
  have C2 := Hd.mk (natNorm none 0 0 0 w (DigV.nil WB1).toDigL)
  go_enter Try.func61, Try.ntmps61
  go_wp2_with fail
  with_reducible refine C.out.mono ?_
  rintro e w2 ⟨rfl, rfl⟩
  go_wp2_with fail
  go_loopw [5, 6] (fun a b wr => a = .int .i64 0 ∧ b = .int .i64 0 ∧ wr = w) (fun _ _ _ => 0)
  case atStart => exact ⟨rfl, rfl, rfl⟩
  case round =>
    obtain ⟨rfl, rfl, rfl⟩ := hrel
    go_wp2_with fail
    with_reducible refine C2.out.mono ?_
    rintro e w3 ⟨⟨m, rfl, hm⟩, rfl⟩
    have HM := Hd.mk hm
    clear hm
    go_wp2
    go_ret
    exact ⟨_, _, _, rfl, HM.out, Below.refl _ _, (fun ad h => by cases h), fun ad h => by cases h⟩
set_option maxRecDepth 100000 in
theorem setBytes_some (ad : Addr) (n c : Nat) (xs : List Int) (w : World) (hr : Rd w [] (some ad) n xs) (hby : ∀ x ∈ xs, 0 ≤ x ∧ x < 256) (h0 : 0 < n) (hn : n ≤ 1000) (hnc : n ≤ c) (hc : c ≤ 9223372036854775807) :
    Calls Try.prog 61 #[.slice none 0 0, .slice (some ad) n c] w fun e w' => WordsOut w (beN xs) e w' := by
  have hm0 : ((n : Int) + 8 - 1) / 8 = ((n + 7) / 8 : Nat) := by omega
  have C := Hd.mk (natMake none 0 0 ((n + 7) / 8) w (Nat.le_refl _) (by omega) (by omega))
  have HR := Hd.mk hr; have HY := Hd.mk hby; have LN := Hd.mk hr.len
  have M1 : 8 * ((n + 7) / 8) ≤ n + 7 := by omega
  have M2 : n ≤ 8 * ((n + 7) / 8) := by omega
  clear hr hby
  generalize hm : (n + 7) / 8 = m at *
  clear hm
  go_enter Try.func61, Try.ntmps61
  go_wp2_with fail
  with_reducible refine C.out.mono ?_
  rintro e w2 ⟨C', rfl, hc1, hc2, hb2, hl2⟩
  have HB2 := Hd.mk hb2; have HL2 := Hd.mk hl2
  clear hb2 hl2 hm0
  go_wp2_with fail
  go_loopw [5, 6] (fun a b wr => ∃ i k : Nat, a = .int .i64 i ∧ b = .int .i64 k ∧ i + 8 * k = n ∧ Blk wr w.heap.size (mapR (fun j => .int .u64 (if j < k then limb WB (beN xs) j else 0 : Nat)) C' []) 91 ∧ Below w.heap.size w wr) (fun a _ _ => (intOf a).toNat)
  case atStart => exact ⟨n, 0, rfl, rfl, by omega, HB2.out.cast (by rw [zs_mapR]; exact mapR_congr fun j hj => by simp), HL2.out⟩
  case round =>
    obtain ⟨i, k, rfl, rfl, hik, hb3, hl3⟩ := hrel
    have HB3 := Hd.mk hb3; have HL3 := Hd.mk hl3
    have IK := Hd.mk hik
    have ik1 : i ≤ n := by omega
    have ik2 : k ≤ n := by omega
    clear hb3 hl3
    by_cases h8 : 8 ≤ i
    · obtain ⟨q, rfl⟩ : ∃ q, i = q + 8 := ⟨i - 8, by omega⟩
      have hkm : k < m := by omega
      clear hik
      have i1 : (0 : Int) ≤ q := by omega
      have i2 : (q : Int) + 8 ≤ c := by omega
      have i3 : ¬ c = q := by omega
      have CW := Hd.mk (beWord (ad.add q) (c - q) ((xs.drop q).take 8) wr ((HR.out.below HL3.out).part q 8 (by omega)) (fun x hx => HY.out x (List.mem_of_mem_drop (List.mem_of_mem_take hx))) (by omega) (by omega))
      have WA := Hd.mk (word_at HY.out (k := k) (q := q) (by rw [LN.out]; exact IK.out))
      go_wp2_with fail
      with_reducible refine CW.out.mono ?_
      rintro e w4 ⟨rfl, hb4⟩
      have HB4 := Hd.mk (HB3.out.below hb4 HB3.out.lt)
      have HL4 := Hd.mk (HL3.out.trans (hb4.mono HL3.out.size))
      clear hb4 CW
      have s4 : ∃ v, w4.cell? ⟨w.heap.size, k, none⟩ = some v := ⟨_, HB4.out.cell k (mapR_get (by omega))⟩
      obtain ⟨v4, s4⟩ := s4
      have f4 := HB4.out.free k
      go_wp2
      go_roundw
      case rel =>
        refine ⟨q, k + 1, by simp, by go_num, by have := IK.out; omega, ?_, HL4.out.setCell (Nat.le_refl _) _⟩
        refine Blk.cast (HB4.out.set k _) ?_
        rw [mapR_set (by omega)]
        refine mapR_congr fun p hp => ?_
        by_cases h1 : p = k
        · subst h1
          rw [if_pos rfl, if_pos (by omega), WA.out]
        · rw [if_neg h1]
          by_cases h2 : p < k
          · rw [if_pos h2, if_pos (by omega)]
          · rw [if_neg h2, if_neg (by omega)]
      case measure => simp [intOf]; omega
    · by_cases hi0 : i = 0
      · subst hi0
        have hkm : k = m := by omega
        subst hkm
        clear hik
        have HD := Hd.mk (show DigL .u64 WB wr (some ⟨w.heap.size, 0, none⟩) k C' (beN xs) from ⟨by
          rw [WB_pow]
          have := beN_lt xs HY.out
          rwa [LN.out, show n = 8 * k by have := IK.out; omega] at this, by omega, by omega, fun j hj => ⟨_, rfl, by
            have := HB3.out.cell j (mapR_get (show j < C' by omega))
            rwa [if_pos hj] at this, HB3.out.lt⟩⟩)
        have C2 := Hd.mk (natNorm _ _ _ _ _ HD.out)
        go_wp2_with fail
        with_reducible refine C2.out.mono ?_
        rintro e w3 ⟨⟨m', rfl, hm⟩, rfl⟩
        have HM := Hd.mk hm
        clear hm
        go_wp2
        go_ret
        refine ⟨_, _, _, rfl, HM.out, HL3.out, (fun ad h => by cases h; exact Nat.le_refl _), fun ad h => ?_⟩
        cases h
        have ml := HM.out.len_le WB1 HD.out.lt
        exact ⟨_, _, rfl, by omega, HB3.out, fun j hj => by rw [if_pos (by omega)]⟩
      · have hkm : k + 1 = m := by omega
        subst hkm
        have WL := Hd.mk (word_last HY.out (k := k) (i := i) (by rw [LN.out]; exact IK.out) (by omega))
        clear hik
        go_wp2_with fail
        go_loopw [5, 7, 8] (fun a d s wr2 => ∃ q t : Nat, a = .int .i64 q ∧ q + t = i ∧ d = .int .u64 (beN ((xs.take i).drop q)) ∧ s = .int .u64 (8 * t : Nat) ∧ wr2 = wr) (fun a _ _ _ => (intOf a).toNat)
        case atStart => exact ⟨i, 0, rfl, by omega, by simp [beN], rfl, rfl⟩
        case round =>
          obtain ⟨q, t, rfl, hqt, rfl, rfl, rfl⟩ := hrel
          by_cases hq0 : 0 < q
          · obtain ⟨q, rfl⟩ : ∃ q', q = q' + 1 := ⟨q - 1, by omega⟩
            have QT := Hd.mk hqt
            have ht : t ≤ 7 := by omega
            obtain ⟨ad', h1, s5⟩ := (HR.out.below HL3.out).cell q (by omega)
            cases h1
            have hqx : q < xs.length := by rw [LN.out]; omega
            obtain ⟨x0, x1⟩ := getD_byte HY.out q
            have hbd := beN_lt ((xs.take i).drop (q + 1)) (fun x hx => HY.out x (List.mem_of_mem_take (List.mem_of_mem_drop hx)))
            rw [List.length_drop, List.length_take, LN.out, Nat.min_eq_left (by omega), show i - (q + 1) = t by omega] at hbd
            have STEP := Hd.mk (show beN ((xs.take i).drop q) = (xs.getD q 0).toNat * 2 ^ (8 * t) + beN ((xs.take i).drop (q + 1)) by
              rw [List.drop_eq_getElem_cons (by rw [List.length_take]; omega)]
              rw [show ((xs.take i)[q]'(by rw [List.length_take]; omega) :: (xs.take i).drop (q + 1)) = [(xs.take i)[q]'(by rw [List.length_take]; omega)] ++ (xs.take i).drop (q + 1) from rfl, beN_append]
              have hl : ((xs.take i).drop (q + 1)).length = t := by rw [List.length_drop, List.length_take, LN.out, Nat.min_eq_left (by omega)]; omega
              rw [hl, Nat.pow_mul, List.getD_eq_getElem?_getD, List.getElem?_eq_getElem hqx]
              simp [beN])
            have BD := Hd.mk hbd
            clear hqt hbd hqx
            generalize xs.getD q 0 = x at *
            obtain ⟨y, rfl⟩ : ∃ y : Nat, x = y := ⟨x.toNat, by omega⟩
            generalize beN ((xs.take i).drop (q + 1)) = d at *
            have i1 : (0 : Int) ≤ q := by omega
            have i2 : (q : Int) < n := by have := QT.out; omega
            go_wp2
            refine ⟨⟨q, t + 1, rfl, by have := QT.out; omega, ?_, by congr 1, trivial⟩, by simp [intOf]⟩
            rw [STEP.out, shl_or ht (by omega) BD.out]
            simp
          · obtain rfl : q = 0 := by omega
            obtain rfl : t = i := by omega
            have e : beN ((xs.take t).drop 0) = limb WB (beN xs) k := by rw [List.drop_zero, WL.out]
            have hlt := WBlt (beN xs) k
            rw [e]
            have s4 : ∃ v, wr.cell? ⟨w.heap.size, k, none⟩ = some v := ⟨_, HB3.out.cell k (mapR_get (by omega))⟩
            obtain ⟨v4, s4⟩ := s4
            have f4 := HB3.out.free k
            have HB5 := Hd.mk (HB3.out.set k (.int .u64 (limb WB (beN xs) k)))
            have HD := Hd.mk (show DigL .u64 WB (wr.setCell ⟨w.heap.size, k, none⟩ (.int .u64 (limb WB (beN xs) k))) (some ⟨w.heap.size, 0, none⟩) (k + 1) C' (beN xs) from ⟨by
              rw [WB_pow]
              have h1 := beN_lt xs HY.out
              rw [LN.out] at h1
              exact Nat.lt_of_lt_of_le h1 (Nat.pow_le_pow_right (by decide) (by have := IK.out; omega)), by omega, by omega, fun j hj => ⟨_, rfl, by
                refine HB5.out.cell j ?_
                rw [mapR_set (by omega), mapR_get (by omega)]
                by_cases h1 : j = k
                · rw [if_pos h1, h1]
                · rw [if_neg h1, if_pos (by omega)], HB5.out.lt⟩⟩)
            have HL5 := Hd.mk (HL3.out.setCell (p := ⟨w.heap.size, k, none⟩) (Nat.le_refl _) (.int .u64 (limb WB (beN xs) k)))
            have C2 := Hd.mk (natNorm _ _ _ _ _ HD.out)
            clear e hqt
            generalize hy : limb WB (beN xs) k = y at *
            have HYK := Hd.mk hy
            clear hy
            go_wp2_with fail
            with_reducible refine C2.out.mono ?_
            rintro e w3 ⟨⟨m', rfl, hm⟩, rfl⟩
            have HM := Hd.mk hm
            clear hm
            go_wp2
            go_ret
            refine ⟨_, _, _, rfl, HM.out, HL5.out, (fun ad h => by cases h; exact Nat.le_refl _), fun ad h => ?_⟩
            cases h
            have ml := HM.out.len_le WB1 HD.out.lt
            have hb5 := HB5.out
            rw [mapR_set (by omega)] at hb5
            refine ⟨_, _, rfl, by omega, hb5, fun j hj => ?_⟩
            by_cases h1 : j = k
            · subst h1; rw [if_pos rfl, HYK.out]
            · rw [if_neg h1, if_pos (by omega)]
theorem setBytes (A : Option Addr) (n c : Nat) (xs : List Int) (w : World) (hr : Rd w [] A n xs) (hby : ∀ x ∈ xs, 0 ≤ x ∧ x < 256) (hn : n ≤ 1000) (hnc : n ≤ c) (hc : c ≤ 9223372036854775807) :
    Calls Try.prog 61 #[.slice none 0 0, .slice A n c] w fun e w' => WordsOut w (beN xs) e w' := by
  cases xs with
  | nil =>
    obtain rfl : n = 0 := by have := hr.len; simpa using this.symm
    exact setBytes_nil A c w hc
  | cons x xs =>
    obtain ⟨ad, rfl, _⟩ := hr.at_ 0 (by simp)
    exact setBytes_some ad n c (x :: xs) w hr hby (by have := hr.len; simp at this; omega) hn hnc hc
end Go.Proofs.Ytjikodjljocpmaa.Kb
