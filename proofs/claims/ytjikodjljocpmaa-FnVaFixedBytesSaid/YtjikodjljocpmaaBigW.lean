/- spec.VaFixedOf: a fixed number of bytes, the lowest first. -/
import Derived.Test.YtjikodjljocpmaaBigV
namespace Go.Proofs.Ytjikodjljocpmaa.Kb
open Go Go.RowKit
set_option linter.unusedVariables false
set_option linter.unusedSimpArgs false
set_option maxHeartbeats 1000000
/-- The magnitude of a two's complement number of bytes, the lowest first; and its sign. -/
def twoN (xs : List Int) : Bool × Nat := if 128 ≤ xs.getLastD 0 then (true, 256 ^ xs.length - beN xs.reverse) else (false, beN xs.reverse)
/-- A row turned round, k places of it done. -/
def turnR (xs : List Int) (k : Nat) : Array Value := mapR (fun j => if xs.length ≤ j + k then .int .u8 (xs.reverse.getD j 0) else .int .u8 0) xs.length []
theorem turn_zero (xs : List Int) : (zs xs.length (.int .u8 0)).toArray = turnR xs 0 := by
  rw [zs_mapR]
  exact mapR_congr fun j hj => by rw [if_neg (by omega)]
theorem turn_step {xs : List Int} {k p : Nat} (h : p + k + 1 = xs.length) {u : Int} (hu : xs[k]? = some u) : (turnR xs k).setIfInBounds p (.int .u8 u) = turnR xs (k + 1) := by
  unfold turnR
  rw [mapR_set (by omega)]
  refine mapR_congr fun j hj => ?_
  by_cases h1 : j = p
  · subst h1
    rw [if_pos rfl, if_pos (by omega)]
    have : xs.reverse.getD j 0 = u := by
      rw [List.getD_eq_getElem?_getD, List.getElem?_reverse (by omega), show xs.length - 1 - j = k by omega, hu]
      rfl
    rw [this]
  · rw [if_neg h1]
    by_cases h2 : xs.length ≤ j + k
    · rw [if_pos h2, if_pos (by omega)]
    · rw [if_neg h2, if_neg (by omega)]
theorem turn_rd {w : World} {g : Nat} {xs : List Int} (h : Blk w g (turnR xs xs.length) 5) (hs : xs.length ≤ 1000) : Rd w [] (some ⟨g, 0, none⟩) xs.length xs.reverse := by
  refine ⟨by simp, by omega, fun j hj => ⟨_, rfl, ?_, h.lt, by simp⟩⟩
  have hj' : j < xs.length := by simpa using hj
  refine h.cellz j ?_
  unfold turnR
  rw [mapR_get hj', if_pos (by omega), List.getD_eq_getElem?_getD, List.getElem?_eq_getElem hj]
  rfl
theorem infoU8 : (Try.prog.info? 5).map (fun i => (i.zero, i.size, i.bytes)) = some (some (.int .u8 0), 1, 1) := by kernel_rfl
set_option maxRecDepth 100000 in
theorem vaFixedOf (A : Option Addr) (n c : Nat) (xs : List Int) (w : World) (hr : Rd w [] A n xs) (hby : ∀ x ∈ xs, 0 ≤ x ∧ x < 256) (hn : n ≤ 100) (hnc : n ≤ c) (hc : c ≤ 9223372036854775807) :
    Calls Try.prog 15 #[.slice A n c] w fun e w' => ∃ A2 l2 c2, e = .returned (.agg #[.bool (twoN xs).1, .slice A2 l2 c2]) ∧ DigV .u32 LB w' A2 l2 c2 (twoN xs).2 ∧ Below w.heap.size w w' := by
  have HR := Hd.mk hr; have HY := Hd.mk hby; have LN := Hd.mk hr.len
  clear hr hby
  go_enter Try.func15, Try.ntmps15
  go_wp2_with (refine wpList_make_z rfl _ _ 22 rfl 5 (.int .u8 0) 1 Try.underlying22 infoU8 rfl .i64 .i64 _ _ n rfl rfl rfl rfl (by omega) (by omega) ?_)
  intro w1 hb hl hs
  have HW := Hd.mk ((Blk.new w #[.bool false, .slice none 0 0] 29).below hl (by simp))
  have HK := Hd.mk (hb.cast (by rw [← LN.out, turn_zero])); have HL := Hd.mk (((Below.refl _ _).alloc (Nat.le_refl _) _).trans (hl.mono (by simp)) : Below w.heap.size w w1)
  clear hb hl hs
  go_wp2
  go_loopw [4, 5, 12] (fun _ _ i wr => ∃ k : Nat, k ≤ n ∧ i = .int .i64 k ∧ Blk wr (w.heap.size + 1) (turnR xs k) 5 ∧ Below w.heap.size w wr ∧ Blk wr w.heap.size #[.bool false, .slice none 0 0] 29) (fun _ _ i _ => n - (intOf i).toNat)
  case atStart => exact ⟨0, Nat.zero_le _, rfl, by simpa using HK.out, HL.out, HW.out⟩
  case round =>
    obtain ⟨k, hk, rfl, hbk, hbel, hbw⟩ := hrel
    have HB := Hd.mk hbk; have HL2 := Hd.mk hbel; have HW2 := Hd.mk hbw
    clear hbk hbel hbw
    by_cases hlt : k < n
    · obtain ⟨ad, rfl, sc, _⟩ := (HR.out.below HL2.out).at_ k (by rw [LN.out]; exact hlt)
      obtain ⟨p, hp0⟩ : ∃ p, p + k + 1 = n := ⟨n - 1 - k, by omega⟩
      have HP := Hd.mk hp0
      have e1 : (n : Int) - 1 - (k : Int) = p := by omega
      have e2 : (p : Int) < n := by omega
      have e3 : (0 : Int) ≤ p := by omega
      clear hp0
      have f3 := HB.out.free p
      obtain ⟨v3, s3⟩ : ∃ v, wr.cell? ⟨w.heap.size + 1, p, none⟩ = some v := ⟨_, HB.out.cell p (mapR_get (by rw [LN.out]; have := HP.out; omega))⟩
      have TS := Hd.mk (turn_step (xs := xs) (k := k) (p := p) (by rw [LN.out]; exact HP.out) (List.getElem?_eq_getElem (by rw [LN.out]; exact hlt)))
      go_wp2
      go_roundw
      case rel => exact ⟨k + 1, by omega, by go_num, (HB.out.set p _).cast TS.out, HL2.out.setCell (by simp) _, HW2.out.set_ne (by simp) _⟩
      case measure => simp [intOf]; omega
    · obtain rfl : k = n := by omega
      have C := Hd.mk (vaNat (some ⟨w.heap.size + 1, 0, none⟩) k k xs.reverse wr (by have h1 := turn_rd (w := wr) (g := w.heap.size + 1) (xs := xs) (by rw [LN.out]; exact HB.out) (by rw [LN.out]; omega); rw [LN.out] at h1; exact h1) (fun x hx => HY.out x (List.mem_reverse.1 hx)) (by omega) (Nat.le_refl _) (by omega))
      go_wp2_with fail
      with_reducible refine C.out.mono ?_
      rintro e w3 ⟨A3, l3, c3, rfl, hd, hb3, hf3⟩
      have HD := Hd.mk hd; have HW3 := Hd.mk (HW2.out.below hb3 HW2.out.lt); have HL3 := Hd.mk (HL2.out.trans (hb3.mono HL2.out.size))
      have HF3 := Hd.mk (fun (ad : Addr) (h : A3 = some ad) (e : some w.heap.size = some ad.block) => by
        have h1 := hf3 ad h; have h2 := HB.out.lt; have h3 := Option.some.inj e; omega : ∀ ad, A3 = some ad → some w.heap.size ≠ some ad.block)
      clear hd hb3 hf3 C
      have w0 := HW3.out.cell 0 rfl; have w1' := HW3.out.cell 1 rfl; have fz := HW3.out.free 0; have fz1 := HW3.out.free 1
      by_cases h0 : 0 < k
      · have i0 : (0 : Int) < k := by omega
        obtain ⟨ad, rfl, sc, _⟩ := (HR.out.below HL3.out).at_ (k - 1) (by rw [LN.out]; omega)
        have j1 : (k : Int) - 1 = ((k - 1 : Nat) : Int) := by omega
        have hlast : xs.getLastD 0 = xs[k - 1]'(by rw [LN.out]; omega) := by
          rw [List.getLastD_eq_getLast?, List.getLast?_eq_getElem?, List.getElem?_eq_getElem (by rw [LN.out]; omega)]
          simp only [Option.getD_some, LN.out]
        have HLA := Hd.mk hlast
        have hx := HY.out _ (List.getElem_mem (l := xs) (n := k - 1) (by rw [LN.out]; omega))
        generalize xs[k - 1]'(by rw [LN.out]; omega) = x at *
        clear hlast
        have j2 : ((k - 1 : Nat) : Int) < k := by omega
        have j3 : (0 : Int) ≤ ((k - 1 : Nat) : Int) := by omega
        by_cases ht : 128 ≤ x
        · have V := Hd.mk (beN_lt xs.reverse (fun y hy => HY.out y (List.mem_reverse.1 hy)))
          have T := Hd.mk (show twoN xs = (true, 256 ^ xs.length - beN xs.reverse) by unfold twoN; rw [HLA.out, if_pos ht])
          have P := Hd.mk (show 2 ^ (8 * k) = 256 ^ xs.length by rw [Nat.pow_mul, LN.out])
          have C2 := Hd.mk (fun w => vaTwo (8 * (k : Int)) (8 * k) w (by simp) (by omega))
          have LN3 := Hd.mk (show w.heap.size < w3.heap.size from HW3.out.lt)
          go_wp2_with fail
          with_reducible refine (C2.out _).mono ?_
          rintro e w4 ⟨A4, l4, c4, rfl, hd4, hb4, hf4⟩
          have f4 : l4 ≤ 8 * k + 1 := hd4.len_le LB1 (Nat.lt_of_lt_of_le (Nat.pow_lt_pow_right (by decide) (show 8 * k < 8 * k + 1 by omega)) (Nat.pow_le_pow_left (by decide) _))
          have C3 := Hd.mk (natSub _ _ _ _ _ _ _ _ w4 hd4 (HD.out.below hb4) (by omega) (by rw [P.out]; have := V.out; rw [List.length_reverse] at this; omega))
          have HW4 := Hd.mk (HW3.out.below hb4 HW3.out.lt); have HL4 := Hd.mk (HL3.out.trans (hb4.mono HL3.out.size))
          clear hd4 hb4 hf4 C2
          go_wp2_with fail
          with_reducible refine C3.out.mono ?_
          rintro e w5 ⟨A5, l5, c5, rfl, hd5, hb5, hf5⟩
          have HD5 := Hd.mk hd5; have HW5 := Hd.mk (HW4.out.below hb5 HW4.out.lt); have HL5 := Hd.mk (HL4.out.trans (hb5.mono HL4.out.size))
          have g5 : 0 < l5 := by
            rcases Nat.eq_zero_or_pos l5 with e | e
            · have := (hd5.zero_iff LB1).1 e
              rw [P.out] at this
              have h2 := V.out
              rw [List.length_reverse] at h2
              omega
            · exact e
          have HF5 := Hd.mk (fun (ad : Addr) (h : A5 = some ad) (e : some w.heap.size = some ad.block) => by
            have h1 := hf5 ad h; have h2 := HW4.out.lt; have h3 := Option.some.inj e; omega : ∀ ad, A5 = some ad → some w.heap.size ≠ some ad.block)
          have C4 := Hd.mk (wholeOfT A5 l5 c5 w5)
          clear hd5 hb5 hf5 C3
          go_wp2_with fail
          with_reducible refine C4.out.mono ?_
          rintro e w6 ⟨rfl, hb6⟩
          have HW6 := Hd.mk (HW5.out.below hb6 HW5.out.lt); have HL6 := Hd.mk (HL5.out.trans (hb6.mono HL5.out.size)); have HD6 := Hd.mk (HD5.out.below hb6)
          have z0 := HW6.out.cell 0 rfl; have z1 := HW6.out.cell 1 rfl; have fy := HW6.out.free 0; have fy1 := HW6.out.free 1
          clear hb6 C4 w0 w1' fz fz1
          have K1 := (HW6.out.set 0 (.bool true)).set 1 (.slice A5 l5 c5)
          have e0 := K1.cell 0 rfl; have e1 := K1.cell 1 rfl
          go_wp2
          refine bodyPost_ret (v := .agg #[.bool true, .slice A5 l5 c5]) (by simp [results, Try.results15, go_sem, e0, e1]) rfl ?_
          exact ⟨A5, l5, c5, by rw [T.out], by rw [T.out]; rw [P.out] at HD6; exact ((HD6.out.grown (gb_set w6 w.heap.size 0 _) HF5.out).grown (gb_set _ w.heap.size 1 _) HF5.out), (HL6.out.setCell (Nat.le_refl _) _).setCell (Nat.le_refl _) _⟩
        · have K1 := (HW3.out.set 0 (.bool false)).set 1 (.slice A3 l3 c3)
          have e0 := K1.cell 0 rfl; have e1 := K1.cell 1 rfl
          have T := Hd.mk (show twoN xs = (false, beN xs.reverse) by unfold twoN; rw [HLA.out, if_neg ht])
          go_wp2
          refine bodyPost_ret (v := .agg #[.bool false, .slice A3 l3 c3]) (by simp [results, Try.results15, go_sem, e0, e1]) rfl ?_
          exact ⟨A3, l3, c3, by rw [T.out], by rw [T.out]; exact ((HD.out.grown (gb_set w3 w.heap.size 0 _) HF3.out).grown (gb_set _ w.heap.size 1 _) HF3.out), (HL3.out.setCell (Nat.le_refl _) _).setCell (Nat.le_refl _) _⟩
      · obtain rfl : k = 0 := by omega
        have hx0 : xs = [] := List.eq_nil_of_length_eq_zero LN.out
        have K1 := (HW3.out.set 0 (.bool false)).set 1 (.slice A3 l3 c3)
        have e0 := K1.cell 0 rfl; have e1 := K1.cell 1 rfl
        subst hx0
        go_wp2
        refine bodyPost_ret (v := .agg #[.bool false, .slice A3 l3 c3]) (by simp [results, Try.results15, go_sem, e0, e1]) rfl ?_
        exact ⟨A3, l3, c3, rfl, ((HD.out.grown (gb_set w3 w.heap.size 0 _) HF3.out).grown (gb_set _ w.heap.size 1 _) HF3.out), (HL3.out.setCell (Nat.le_refl _) _).setCell (Nat.le_refl _) _⟩
end Go.Proofs.Ytjikodjljocpmaa.Kb
