/- The reference's whole numbers: VaNat, VaTwo, VaBytes. -/
import Derived.Test.YtjikodjljocpmaaNatD
import Derived.BigRegion
namespace Go.Proofs.Ytjikodjljocpmaa.Kb
open Go Go.RowKit
set_option linter.unusedVariables false
set_option linter.unusedSimpArgs false
set_option maxHeartbeats 1000000
/-- The number of bytes, the highest first. -/
def beN (xs : List Int) : Nat := xs.foldl (fun a x => a * 256 + x.toNat) 0
theorem beN_snoc (xs : List Int) (x : Int) : beN (xs ++ [x]) = beN xs * 256 + x.toNat := by simp [beN]
theorem beN_lt (xs : List Int) (h : ∀ x ∈ xs, 0 ≤ x ∧ x < 256) : beN xs < 256 ^ xs.length := by
  suffices ∀ (ys : List Int), (∀ x ∈ ys, 0 ≤ x ∧ x < 256) → ∀ k, k = ys.length → beN ys < 256 ^ k from this xs h _ rfl
  intro ys hy k
  induction k generalizing ys with
  | zero => intro e; obtain rfl := List.eq_nil_of_length_eq_zero e.symm; simp [beN]
  | succ k ih =>
    intro e
    have hne : ys ≠ [] := by intro h0; subst h0; simp at e
    obtain ⟨zs, z, rfl⟩ : ∃ zs z, ys = zs ++ [z] := ⟨ys.dropLast, ys.getLast hne, (List.dropLast_concat_getLast hne).symm⟩
    have h1 := ih zs (fun x hx => hy x (by simp [hx])) (by simpa using e)
    have h2 := hy z (by simp)
    rw [beN_snoc, Nat.pow_succ]
    omega
theorem pow256 (k : Nat) : 256 ^ k ≤ LB ^ k := Nat.pow_le_pow_left (by decide) k
set_option maxRecDepth 100000 in
theorem vaNat (A : Option Addr) (n c : Nat) (xs : List Int) (w : World) (hr : Rd w [] A n xs) (hby : ∀ x ∈ xs, 0 ≤ x ∧ x < 256) (hn : n ≤ 4294967296) (hnc : n ≤ c) (hc : c ≤ 9223372036854775807) :
    Calls Try.prog 37 #[.slice A n c] w fun e w' => NatOut w (beN xs) e w' := by
  have C256 := Hd.mk (fun w => natFromI 256 256 w rfl (by decide))
  have HR := Hd.mk hr; have HY := Hd.mk hby; have LN := Hd.mk hr.len
  clear hr hby
  go_enter Try.func37, Try.ntmps37
  go_wp2
  go_loopw [3, 8] (fun v i wr => ∃ k : Nat, k ≤ n ∧ i = .int .i64 k ∧ (∃ A l c, v = .slice A l c ∧ DigV .u32 LB wr A l c (beN (xs.take k)) ∧ ∀ ad, A = some ad → w.heap.size ≤ ad.block) ∧ Below w.heap.size w wr) (fun _ i _ => n - (intOf i).toNat)
  case atStart => exact ⟨0, by omega, rfl, ⟨_, _, _, rfl, by simpa [beN] using DigV.nil LB1, fun ad h => by cases h⟩, Below.refl _ _⟩
  case round =>
    obtain ⟨k, hk, rfl, ⟨A2, l2, c2, rfl, hd, hf⟩, hbel⟩ := hrel
    have HD := Hd.mk hd; have HL := Hd.mk hbel; have HF := Hd.mk hf
    clear hd hbel hf
    by_cases hlt : k < n
    · have hkx : k < xs.length := by rw [LN.out]; exact hlt
      obtain ⟨ad, rfl, s1⟩ := (HR.out.below HL.out).cell k hlt
      have hx := HY.out (xs.getD k 0) (by rw [List.getD_eq_getElem?_getD, List.getElem?_eq_getElem hkx]; exact List.getElem_mem hkx)
      have T := Hd.mk (show beN (xs.take (k + 1)) = beN (xs.take k) * 256 + (xs.getD k 0).toNat by
        rw [List.take_succ_eq_append_getElem hkx, beN_snoc, List.getD_eq_getElem?_getD, List.getElem?_eq_getElem hkx]; rfl)
      have B := Hd.mk (show beN (xs.take k) < 256 ^ k by
        have := beN_lt (xs.take k) (fun x hx => HY.out x (List.mem_of_mem_take hx))
        rwa [List.length_take, Nat.min_eq_left (by omega)] at this)
      clear hkx
      generalize xs.getD k 0 = x at *
      generalize beN (xs.take k) = m at *
      obtain ⟨y, rfl⟩ : ∃ y : Nat, x = y := ⟨x.toNat, by omega⟩
      have fl : l2 ≤ k := HD.out.len_le LB1 (Nat.lt_of_lt_of_le B.out (pow256 k))
      have hx2 := hx.2
      have CY := Hd.mk (fun w => natFromI y y w rfl (by omega))
      clear hx
      go_wp2_with fail
      with_reducible refine (C256.out _).mono ?_
      rintro e w3 ⟨A3, l3, c3, rfl, hd3, hb3, _⟩
      have f3 : l3 ≤ 1 := hd3.len_le LB1 (by decide)
      have C := Hd.mk (natMul _ _ _ _ _ _ _ _ _ (HD.out.below (hb3.mono (Nat.le_refl _))) hd3 (by omega) (by omega))
      have HL3 := Hd.mk (HL.out.trans (hb3.mono HL.out.size))
      clear hd3 hb3
      go_wp2_with fail
      with_reducible refine C.out.mono ?_
      rintro e w4 ⟨A4, l4, c4, rfl, hd4, hb4, _⟩
      have f4 : l4 ≤ k + 1 := hd4.len_le LB1 (by
        rw [Nat.pow_succ]
        exact Nat.mul_lt_mul_of_lt_of_le (Nat.lt_of_lt_of_le B.out (pow256 k)) (by decide) (by decide))
      have HD4 := Hd.mk hd4; have HL4 := Hd.mk (HL3.out.trans (hb4.mono HL3.out.size))
      clear hd4 hb4 C
      go_wp2_with fail
      with_reducible refine (CY.out _).mono ?_
      rintro e w5 ⟨A5, l5, c5, rfl, hd5, hb5, _⟩
      have f5 : l5 ≤ 1 := hd5.len_le LB1 (by rw [Nat.pow_one, LB_eq]; omega)
      have C := Hd.mk (natAdd _ _ _ _ _ _ _ _ _ (HD4.out.below (hb5.mono (Nat.le_refl _))) hd5 (by omega) (by omega))
      have HL5 := Hd.mk (HL4.out.trans (hb5.mono HL4.out.size))
      clear hd5 hb5
      go_wp2_with fail
      with_reducible refine C.out.mono ?_
      rintro e w6 ⟨A6, l6, c6, rfl, hd6, hb6, hf6⟩
      have HD6 := Hd.mk hd6; have HL6 := Hd.mk (HL5.out.trans (hb6.mono HL5.out.size)); have HF6 := Hd.mk (fun ad h => Nat.le_trans HL5.out.size (hf6 ad h))
      clear hd6 hb6 hf6 C
      go_wp2_with fail
      go_roundw
      case rel => exact ⟨k + 1, by omega, by go_num, ⟨_, _, _, rfl, by rw [T.out]; exact HD6.out, HF6.out⟩, HL6.out⟩
      case measure => simp [intOf]; omega
    · obtain rfl : k = n := by omega
      have e : xs.take k = xs := by rw [← LN.out]; exact List.take_length
      rw [e] at HD
      go_wp2
      go_ret
      exact ⟨_, _, _, rfl, HD.out, HL.out, HF.out⟩
set_option maxRecDepth 100000 in
theorem vaTwo (N : Int) (n : Nat) (w : World) (hN : N = n) (h : n ≤ 1000) :
    Calls Try.prog 20 #[.int .i64 N] w fun e w' => NatOut w (2 ^ n) e w' := by
  subst hN
  have D2 := Hd.mk (show DigV .u32 LB (w.alloc (.cells #[.int .u32 2] 74)) (some ⟨w.heap.size, 0, none⟩) 1 1 2 from ⟨⟨by decide, Nat.le_refl _, by omega, fun j hj => by
    obtain rfl : j = 0 := by omega
    exact ⟨_, rfl, by rw [show limb LB 2 0 = 2 by decide]; exact (Blk.new w #[.int .u32 2] 74).cell 0 rfl, by simp⟩⟩, .inr (by decide)⟩)
  have C := Hd.mk (natPow _ _ _ _ n _ D2.out (by omega) (by omega))
  clear D2
  go_enter Try.func20, Try.ntmps20
  go_wp2_with fail
  with_reducible refine C.out.mono ?_
  rintro e w3 ⟨A3, l3, c3, rfl, hd3, hb3, hf3⟩
  have HF := Hd.mk (fun ad h => Nat.le_trans (show w.heap.size ≤ _ by simp) (hf3 ad h)); have HD := Hd.mk hd3; have HL := Hd.mk (show Below w.heap.size w w3 from ((Below.refl _ _).alloc (Nat.le_refl _) _).trans (hb3.mono (by simp)))
  clear hd3 hb3 hf3 C
  go_wp2_with fail
  go_ret
  exact ⟨_, _, _, rfl, HD.out, HL.out, HF.out⟩
/-- Cells of a function, with some more behind them. -/
def mapR (f : Nat → Value) (m : Nat) (t : List Value) : Array Value := ((List.range m).map f ++ t).toArray
theorem mapR_get {f : Nat → Value} {m j : Nat} {t : List Value} (h : j < m) : (mapR f m t)[j]? = some (f j) := by
  show ((List.range m).map f ++ t).toArray[j]? = _
  rw [List.getElem?_toArray, List.getElem?_append_left (by simpa using h)]
  simp [h]
theorem mapR_congr {f g : Nat → Value} {m : Nat} {t : List Value} (h : ∀ j, j < m → f j = g j) : mapR f m t = mapR g m t := by
  unfold mapR
  rw [List.map_congr_left fun j hj => h j (List.mem_range.1 hj)]
theorem mapR_set {f : Nat → Value} {m p : Nat} {t : List Value} {v : Value} (h : p < m) : (mapR f m t).setIfInBounds p v = mapR (fun q => if q = p then v else f q) m t := by
  apply Array.ext'
  rw [Array.toList_setIfInBounds]
  unfold mapR
  rw [List.set_append_left _ _ (by simpa using h)]
  congr 1
  apply List.ext_getElem?
  intro j
  rw [List.getElem?_set]
  by_cases hj : j < m
  · by_cases e : p = j
    · subst e; simp [hj]
    · simp [e, hj, Ne.symm e]
  · have : ¬ p = j := by omega
    simp [this, hj]
theorem zs_mapR (z : Value) (m : Nat) : (zs m z).toArray = mapR (fun _ => z) m [] := by
  unfold mapR zs
  congr 1
  simp
  apply List.ext_getElem <;> simp
theorem B256 : 1 < 256 := by decide
theorem bytelt (n j : Nat) : limb 256 n j < 256 := limb_lt B256 n j
/-- The bytes of a number, the highest first. -/
def beL (n m : Nat) : List Int := (List.range m).map fun j => (limb 256 n (m - 1 - j) : Int)
theorem beL_len (n m : Nat) : (beL n m).length = m := by simp [beL]
theorem beL_byte (n m : Nat) : ∀ x ∈ beL n m, 0 ≤ x ∧ x < 256 := by
  intro x hx
  obtain ⟨j, _, rfl⟩ := List.mem_map.1 hx
  have := bytelt n (m - 1 - j)
  omega
/-- What VaBytes answers. -/
def BytesOut (w : World) (n : Nat) (e : Ending) (w' : World) : Prop := ∃ A m c, e = .returned (.slice A m c) ∧ m ≤ c ∧ c ≤ maxLen ∧ n < 256 ^ m ∧ (m = 0 ∨ 256 ^ (m - 1) ≤ n) ∧ Rd w' [] A m (beL n m) ∧ Below w.heap.size w w' ∧ ∀ ad, A = some ad → w.heap.size ≤ ad.block
set_option maxRecDepth 100000 in
theorem vaBytes (A : Option Addr) (l c n K : Nat) (w : World) (h : DigV .u32 LB w A l c n) (hK : n < 256 ^ K) (hK2 : K ≤ 8796093022208) (fl : l ≤ 8796093022208) :
    Calls Try.prog 36 #[.slice A l c] w fun e w' => BytesOut w n e w' := by
  obtain ⟨i0, hi, hz0, hz1, hz2⟩ := info_of infoB
  have I := Hd.mk (And.intro hi (And.intro hz0 (And.intro hz1 hz2)))
  have H := Hd.mk h; have HK := Hd.mk hK; have NN := Hd.mk h.lt
  clear hi hz0 hz1 hz2 h hK
  go_enter Try.func36, Try.ntmps36
  go_wp2
  go_loopw [0, 3] (fun a v wr => ∃ k : Nat, (k = 0 ∨ 256 ^ (k - 1) ≤ n) ∧ (∃ A l c, a = .slice A l c ∧ l ≤ 8796093022208 ∧ DigV .u32 LB wr A l c (n / 256 ^ k)) ∧ wr.ownsRow w.heap.size 5 1 v k (lc .u8 256 n k) ∧ Below w.heap.size w wr) (fun a v _ => K + 1 - (match v with | .slice _ m _ => m | _ => 0))
  case atStart => exact ⟨0, .inl rfl, ⟨_, _, _, rfl, fl, by simpa using H.out⟩, by simpa [lc] using World.ownsRow_nil _ _ _ _, Below.refl _ _⟩
  case round =>
    obtain ⟨k, hge, ⟨A2, l2, c2, rfl, fl2, hd⟩, hown, hbel⟩ := hrel
    have hkK : k ≤ K := ge_bound B256 HK.out hge
    have HG := Hd.mk hge; have HD := Hd.mk hd; have HO := Hd.mk hown; have HL := Hd.mk hbel
    have HZ := Hd.mk (hd.zero_iff LB1)
    obtain ⟨A3, c3, rfl, hc3, hc4⟩ := own_slice hown
    unfold maxLen at hc4
    clear hge hd hown hbel
    by_cases h0 : 0 < l2
    · have HNZ := Hd.mk (show 256 ^ k ≤ n by
        rcases Nat.lt_or_ge n (256 ^ k) with h1 | h1
        · have := HZ.out.2 (Nat.div_eq_of_lt h1); omega
        · exact h1)
      have C := Hd.mk (natShortI _ _ _ _ 256 256 _ HD.out fl2 (by decide) (by decide) rfl)
      have E1 := Hd.mk (show n / 256 ^ k / 256 = n / 256 ^ (k + 1) by rw [Nat.pow_succ, Nat.div_div_eq_div_mul])
      have E2 := Hd.mk (show limb 256 n k = n / 256 ^ k % 256 from rfl)
      have hr : n / 256 ^ k % 256 < 256 := Nat.mod_lt _ (by decide)
      go_wp2_with fail
      with_reducible refine C.out.mono ?_
      rintro e w3 ⟨A4, l4, c4, rfl, hd4, hb4, hf4⟩
      generalize hR : n / 256 ^ k % 256 = r at *
      clear hR
      have HD4 := Hd.mk hd4; have HF4 := Hd.mk hf4
      have HL4 := Hd.mk (HL.out.trans (hb4.mono HL.out.size))
      have HO4 := Hd.mk (own_below HO.out hb4)
      have HN := Hd.mk (fun o : Obj => show w.heap.size ≤ (w3.alloc o).heap.size by have := HL4.out.size; simp; omega)
      have fl4 : l4 ≤ l2 := hd4.len_le LB1 (Nat.lt_of_le_of_lt (Nat.div_le_self _ _) HD.out.lt)
      clear hd4 hb4 hf4 C
      go_wp2_with (at_builtin; refine wpList_append_one (base := w.heap.size) (n := k) (u := .int .u8 r) (by_ := 1) rfl _ _ 22 rfl Try.underlying22 I.out.1 I.out.2.1 I.out.2.2.1 I.out.2.2.2 rfl rfl (HO4.out.alloc _) rfl (Blk.new _ _ _) rfl (by unfold maxLen; omega) (by omega) (HN.out _) ?_)
      intro v2 w2 hown2 hg2
      have HO2 := Hd.mk (show w2.ownsRow w.heap.size 5 1 v2 (k + 1) (lc .u8 256 n (k + 1)) by rw [lc_succ, E2.out]; exact hown2)
      have HL2 := Hd.mk (below_grown_own (HL4.out.alloc HL4.out.size _) (HO4.out.alloc _) (HN.out _) (Nat.le_refl _) hg2)
      have HD2 := Hd.mk ((HD4.out.below ((Below.refl _ w3).alloc (Nat.le_refl _) (.cells #[.int .u8 r] 5))).grown hg2 (fun ad h e => by
        have h1 := HF4.out ad h
        have h2 := (HO.out.lt _ e).2
        omega))
      obtain ⟨A5, c5, rfl, _, _⟩ := own_slice HO2.out
      clear hown2 hg2
      go_wp2
      go_roundw
      case rel => exact ⟨k + 1, .inr (by simpa using HNZ.out), ⟨_, _, _, rfl, by omega, by rw [← E1.out]; exact HD2.out⟩, HO2.out, HL2.out⟩
      case measure => have := ge_bound B256 HK.out (show k + 1 = 0 ∨ 256 ^ (k + 1 - 1) ≤ n from .inr (by simpa using HNZ.out)); simp; omega
    · obtain rfl : l2 = 0 := by omega
      have hlt : n < 256 ^ k := by
        have := HZ.out.1 rfl
        rcases Nat.lt_or_ge n (256 ^ k) with h1 | h1
        · exact h1
        · have := Nat.div_pos h1 (Nat.pow_pos (by decide)); omega
      have HLT := Hd.mk hlt
      clear hlt
      cases k with
      | zero =>
        go_wp2
        go_loopw [6, 7] (fun a b wr2 => a = .int .i64 0 ∧ b = .int .i64 (-1) ∧ wr2 = wr) (fun _ _ _ => 0)
        case atStart => exact ⟨rfl, rfl, rfl⟩
        case round =>
          obtain ⟨rfl, rfl, rfl⟩ := hrel
          go_wp2
          go_ret
          exact ⟨_, _, _, rfl, Nat.zero_le _, by unfold maxLen; omega, HLT.out, .inl rfl, ⟨rfl, by omega, fun j hj => by simp [beL] at hj⟩, HL.out, fun ad h => (HO.out.lt ad.block (by rw [h]; rfl)).1⟩
      | succ k =>
        obtain ⟨g, cur, rfl, hg0, hgb, htk⟩ : ∃ g cur, A3 = some ⟨g, 0, none⟩ ∧ w.heap.size ≤ g ∧ Blk wr g (mapR (fun j => .int .u8 (limb 256 n j)) (k + 1) cur) 5 ∧ True := by
          rcases HO.out.2 with ⟨h1, h2⟩ | ⟨g, cap, cur, h1, h2, h3, h4, h5, h6, h7⟩
          · exact absurd h2 (by simp [lc])
          · cases h1
            refine ⟨g, cur.toList.drop (k + 1), rfl, h2, ?_, trivial⟩
            refine Blk.cast h3 ?_
            apply Array.ext'
            show cur.toList = (List.range (k + 1)).map (fun j => Value.int .u8 (limb 256 n j : Nat)) ++ cur.toList.drop (k + 1)
            rw [show (List.range (k + 1)).map (fun j => Value.int .u8 (limb 256 n j : Nat)) = cur.toList.take (k + 1) from by rw [show k + 1 = (k + 1) * 1 by omega, h7, Nat.mul_one]; rfl]
            exact (List.take_append_drop _ _).symm
        have HGB := Hd.mk hgb; have HG0 := Hd.mk hg0
        clear hgb htk hg0
        go_wp2
        go_loopw [6, 7] (fun a b wr2 => ∃ i q : Nat, a = .int .i64 i ∧ b = .int .i64 q ∧ i + q = k ∧ i ≤ q + 1 ∧ Blk wr2 g (mapR (fun p => .int .u8 (if p < i ∨ k + 1 ≤ p + i then limb 256 n (k - p) else limb 256 n p : Nat)) (k + 1) cur) 5 ∧ Below w.heap.size w wr2) (fun a _ _ => k - (intOf a).toNat)
        case atStart => exact ⟨0, k, rfl, by simp, by omega, by omega, HGB.out.cast (mapR_congr fun j hj => by rw [if_neg (by omega)]), HL.out⟩
        case round =>
          obtain ⟨i, q, rfl, rfl, hiq, hiq2, hb2, hl2⟩ := hrel
          have HB2 := Hd.mk hb2; have HL2 := Hd.mk hl2
          clear hb2 hl2
          by_cases hlt : i < q
          · obtain ⟨q, rfl⟩ : ∃ q', q = q' + 1 := ⟨q - 1, by omega⟩
            have d1 : wr.cell? ⟨g, i, none⟩ = some (.int .u8 (limb 256 n i)) := by
              have := HB2.out.cell i (mapR_get (by omega))
              rw [if_neg (by omega)] at this
              exact this
            have d2 : wr.cell? ⟨g, q + 1, none⟩ = some (.int .u8 (limb 256 n (q + 1))) := by
              have := HB2.out.cell (q + 1) (mapR_get (by omega))
              rw [if_neg (by omega)] at this
              exact this
            have f1 := HB2.out.free i; have f2 := HB2.out.free (q + 1)
            have hne : i ≠ q + 1 := by omega
            have i1 : (0 : Int) ≤ i := by omega
            have i2 : (i : Int) < (k : Int) + 1 := by omega
            have i3 : (0 : Int) ≤ (q : Int) + 1 := by omega
            have i4 : (q : Int) + 1 < (k : Int) + 1 := by omega
            go_wp2
            go_region
            go_wp2
            go_roundw
            case rel =>
              refine ⟨i + 1, q, by go_num, by simp, by omega, by omega, ?_, (((HL2.out.setCell (by exact HG0.out) _).setCell (by exact HG0.out) _).drew)⟩
              refine Blk.drew (Blk.cast ((HB2.out.set i _).set (q + 1) _) ?_)
              rw [mapR_set (by omega), mapR_set (by omega)]
              refine mapR_congr fun p hp => ?_
              by_cases h1 : p = q + 1
              · subst h1
                rw [if_pos rfl, if_pos (by omega), show k - (q + 1) = i by omega]
              · rw [if_neg h1]
                by_cases h2 : p = i
                · subst h2
                  rw [if_pos rfl, if_pos (by omega), show k - p = q + 1 by omega]
                · rw [if_neg h2]
                  by_cases h3 : p < i ∨ k + 1 ≤ p + i
                  · rw [if_pos h3, if_pos (by omega)]
                  · rw [if_neg h3, if_neg (by omega)]
            case measure => simp [intOf]; omega
          · have hRd : Rd wr [] (some ⟨g, 0, none⟩) (k + 1) (beL n (k + 1)) := by
              refine ⟨beL_len _ _, by omega, fun j hj => ⟨_, rfl, ?_, HB2.out.lt, by simp⟩⟩
              rw [beL_len] at hj
              refine HB2.out.cellz j ?_
              rw [mapR_get hj]
              simp only [beL, List.getElem_map, List.getElem_range]
              by_cases h3 : j < i ∨ k + 1 ≤ j + i
              · rw [if_pos h3]; rfl
              · rw [if_neg h3, show k + 1 - 1 - j = j by omega]
            have HR := Hd.mk hRd
            clear hRd
            go_wp2
            go_ret
            exact ⟨_, _, _, rfl, by omega, by unfold maxLen; omega, HLT.out, HG.out, HR.out, HL2.out, fun ad h => by cases h; exact HG0.out⟩
end Go.Proofs.Ytjikodjljocpmaa.Kb
