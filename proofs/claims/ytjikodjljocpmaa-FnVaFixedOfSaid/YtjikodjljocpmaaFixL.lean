/- FnVaFixedOf: bytes are the integer of two's complement. -/
import Derived.Test.YtjikodjljocpmaaFixO
import Derived.Test.YtjikodjljocpmaaBigX
import Derived.Test.YtjikodjljocpmaaBigK
namespace Go.Proofs.Ytjikodjljocpmaa.Kb
open Go Go.RowKit
set_option linter.unusedVariables false
set_option linter.unusedSimpArgs false
set_option maxHeartbeats 2000000
set_option maxRecDepth 100000 in
theorem law_fixedOf_no (A : Option Addr) (n c : Nat) (w : World) (hf : ¬ n ≤ 2147483647) (hs : n ≤ 9223372036854775807) :
    Calls Try.prog 5 #[.slice A n c] w fun e w' => e = .returned (.bool true) ∧ Below w.heap.size w w' := by
  have i1 : (2147483647 : Int) < n := by omega
  go_enter Try.func5, Try.ntmps5
  go_wp2_with fail
  go_ret
  exact ⟨rfl, Below.refl _ _⟩
set_option maxRecDepth 100000 in
theorem law_fixedOf_zero (A : Option Addr) (c : Nat) (w : World) :
    Calls Try.prog 5 #[.slice A 0 c] w fun e w' => e = .returned (.bool true) ∧ Below w.heap.size w w' := by
  go_enter Try.func5, Try.ntmps5
  go_wp2_with fail
  go_ret
  exact ⟨rfl, Below.refl _ _⟩
set_option maxRecDepth 100000 in
theorem law_fixedOf_long (A : Option Addr) (n c : Nat) (w : World) (h1 : 60 < n) (h2 : n ≤ 2147483647) :
    Calls Try.prog 5 #[.slice A n c] w fun e w' => e = .returned (.bool true) ∧ Below w.heap.size w w' := by
  have i1 : ¬ (2147483647 : Int) < n := by omega
  have i2 : ¬ (n : Int) < 1 := by omega
  have i3 : (60 : Int) < n := by omega
  go_enter Try.func5, Try.ntmps5
  go_wp2_with fail
  go_ret
  exact ⟨rfl, Below.refl _ _⟩
theorem twoN_lt {xs : List Int} (hby : ∀ x ∈ xs, 0 ≤ x ∧ x < 256) : (twoN xs).2 < 256 ^ (xs.length + 1) := by
  have h := beN_lt xs.reverse (fun x hx => hby x (List.mem_reverse.1 hx))
  rw [List.length_reverse] at h
  have h2 : 256 ^ (xs.length + 1) = 256 ^ xs.length * 256 := Nat.pow_succ ..
  unfold twoN
  split
  · show 256 ^ xs.length - beN xs.reverse < _
    omega
  · show beN xs.reverse < _
    omega
set_option maxRecDepth 100000 in
theorem law_fixedOf (A : Option Addr) (m0 c : Nat) (xs : List Int) (w : World) (hr : Rd w [] A (m0 + 1) xs) (hby : ∀ x ∈ xs, 0 ≤ x ∧ x < 256) (h60 : m0 + 1 ≤ 60) (hnc : m0 + 1 ≤ c) (hc : c ≤ maxLen) :
    Calls Try.prog 5 #[.slice A (m0 + 1) c] w fun e w' => e = .returned (.bool true) ∧ Below w.heap.size w w' := by
  have i1 : ¬ (2147483647 : Int) < (m0 : Int) + 1 := by omega
  have i2 : ¬ (m0 : Int) + 1 < 1 := by omega
  have i3 : ¬ (60 : Int) < (m0 : Int) + 1 := by omega
  have C := Hd.mk (fixedOf A c m0 w xs hr (by omega) hnc hc hby)
  have HR := Hd.mk hr; have HY := Hd.mk hby; have HC := Hd.mk hc; have LN := Hd.mk hr.len
  have LT := Hd.mk (twoN_lt hby)
  clear hr hby hc
  go_enter Try.func5, Try.ntmps5
  go_wp2_with fail
  with_reducible refine C.out.mono ?_
  rintro e w1 ⟨A4, m4, c4, rfl, k1, k2, k3, k4, k5, k6⟩
  have K3 := Hd.mk k3; have K4 := Hd.mk k4; have K5 := Hd.mk k5; have K6 := Hd.mk k6
  clear k1 k2 k3 k4 k5 k6 C
  generalize hs : (twoN xs).1 = s at *
  generalize ha : (twoN xs).2 = a at *
  have HS := Hd.mk hs; have HA := Hd.mk ha
  clear hs ha
  go_wp2_with fail
  have B1 : Below w.heap.size w ((w1.alloc (.cells #[.bool s, .slice A4 m4 c4] 24)).alloc (.cells #[.int .u8 3] 5)) := (K6.out.alloc K6.out.size _).alloc (by have := K6.out.size; simp; omega) _
  have W1 := Below.refl w1.heap.size w1
  have W2 : Below w1.heap.size w1 ((w1.alloc (.cells #[.bool s, .slice A4 m4 c4] 24)).alloc (.cells #[.int .u8 3] 5)) := (W1.alloc (Nat.le_refl _) _).alloc (by simp) _
  have P1 := (Blk.new w1 #[.bool s, .slice A4 m4 c4] 24).alloc (.cells #[.int .u8 3] 5)
  have K51 := K5.out.below W2
  have R3 : Rd ((w1.alloc (.cells #[.bool s, .slice A4 m4 c4] 24)).alloc (.cells #[.int .u8 3] 5)) [] (some ⟨w1.heap.size + 1, 0, none⟩) 1 [3] := by
    have h := Blk.new (w1.alloc (.cells #[.bool s, .slice A4 m4 c4] 24)) #[.int .u8 3] 5
    rw [World.size_alloc] at h
    exact rd_row h [3] (fun j hj => by simp at hj; subst hj; rfl) (by simp)
  have C3 := Hd.mk (show Calls Try.prog 13 #[.slice (some ⟨w1.heap.size + 1, 0, none⟩) 1 1, .int .i64 1] _ _ from fixedOf _ 1 0 _ [3] R3 (by decide) (Nat.le_refl _) (by decide) (by simp))
  have HB1 := Hd.mk B1; have HP1 := Hd.mk P1; have HK51 := Hd.mk K51
  clear B1 W1 W2 P1 K51 R3
  with_reducible refine C3.out.mono ?_
  rintro e w2 ⟨A5, m5, c5, rfl, k1, k2, k3, k4, k5, k6⟩
  have t3 : twoN [3] = (false, 3) := by simp [twoN, beN]
  rw [t3] at k3 k4 k5 ⊢
  have m5e : m5 = 1 := by
    rcases k4 with h | h
    · subst h; simp at k3
    · match m5, h, k3 with
      | 0, _, h3 => simp at h3
      | 1, _, _ => rfl
      | (q + 2), h, _ =>
        have h5 : 256 ^ 1 ≤ 256 ^ (q + 2 - 1) := Nat.pow_le_pow_right (by decide) (by omega)
        simp at h5 h
        omega
  subst m5e
  have P2 := Hd.mk (HP1.out.below k6 HP1.out.lt); have B2 := Hd.mk (HB1.out.trans (k6.mono HB1.out.size)); have K52 := Hd.mk (HK51.out.below k6)
  clear k1 k2 k3 k4 k5 k6 C3
  dsimp only
  go_wp2_with fail
  have P3 := Hd.mk ((P2.out.alloc (.cells #[.bool false, .slice A5 1 c5] 24)).drew)
  have Q3 := Hd.mk ((Blk.new w2 #[.bool false, .slice A5 1 c5] 24).drew)
  have B3 := Hd.mk ((B2.out.alloc B2.out.size (.cells #[.bool false, .slice A5 1 c5] 24)).drew)
  have K53 := Hd.mk (K52.out.below (((Below.refl w2.heap.size w2).alloc (Nat.le_refl _) (.cells #[.bool false, .slice A5 1 c5] 24)).drew))
  have CV := Hd.mk (fun (_ : Unit) => vaFixedOf A (m0 + 1) c xs _ (HR.out.below B3.out) HY.out (by omega) hnc HC.out)
  refine wp_region_held_drew (S := (fun W => W.cell? ⟨w1.heap.size, 0, none⟩ = some (.bool s) ∧ W.cell? ⟨w1.heap.size, 1, none⟩ = some (.slice A4 m4 c4) ∧ W.cell? ⟨w2.heap.size, 1, none⟩ = some (.slice A5 1 c5))) (by kernel_rfl) ?_ (fun hHeld => ?_)
  · exact ⟨P3.out.cell 0 rfl, P3.out.cell 1 rfl, Q3.out.cell 1 rfl⟩
  refine wpAnyH_take_d (i := 0) (some 30) (v := ?_) rfl rfl (by kernel_rfl) (by kernel_rfl) (by kernel_rfl) (fun _ _ _ h => h) (Or.inl ⟨by rfl, ?_⟩) hHeld ?_
  rotate_left
  · (intro w' hSw; (try dsimp only at hSw); go_simp; all_goals (with_reducible rfl))
  (try simp only [Act.put, List.setIfInBounds_toArray, List.set_cons_zero, List.set_cons_succ])
  refine wpAnyH_take_d (i := 1) (some 31) (v := ?_) rfl rfl (by kernel_rfl) (by kernel_rfl) (by kernel_rfl) (fun _ _ _ h => h) (Or.inl ⟨by rfl, ?_⟩) hHeld ?_
  rotate_left
  · (intro w' hSw; (try dsimp only at hSw); go_simp; all_goals (with_reducible rfl))
  (try simp only [Act.put, List.setIfInBounds_toArray, List.set_cons_zero, List.set_cons_succ])
  refine wpAnyH_take_d (i := 2) (some 32) (v := ?_) rfl rfl (by kernel_rfl) (by kernel_rfl) (by kernel_rfl) (fun _ _ _ h => h) (Or.inl ⟨by rfl, ?_⟩) hHeld ?_
  rotate_left
  · (intro w' hSw; (try dsimp only at hSw); go_simp; all_goals (with_reducible rfl))
  (try simp only [Act.put, List.setIfInBounds_toArray, List.set_cons_zero, List.set_cons_succ])
  refine wpAnyH_take_d (i := 3) (some 33) (v := ?_) rfl rfl (by kernel_rfl) (by kernel_rfl) (by kernel_rfl) (fun _ _ _ h => h) (Or.inl ⟨by rfl, ?_⟩) hHeld ?_
  rotate_left
  · (intro w' hSw; (try dsimp only at hSw); go_simp; all_goals (with_reducible rfl))
  (try simp only [Act.put, List.setIfInBounds_toArray, List.set_cons_zero, List.set_cons_succ])
  refine wpAnyH_take_d (i := 4) (some 34) (v := ?_) rfl rfl (by kernel_rfl) (by kernel_rfl) (by kernel_rfl) (fun _ _ _ h => h) (Or.inl ⟨by rfl, ?_⟩) hHeld ?_
  rotate_left
  · (intro w' hSw; (try dsimp only at hSw); go_simp; all_goals (with_reducible rfl))
  (try simp only [Act.put, List.setIfInBounds_toArray, List.set_cons_zero, List.set_cons_succ])
  refine wpAnyH_take_d (i := 5) (some 35) (v := ?_) rfl rfl (by kernel_rfl) (by kernel_rfl) (by kernel_rfl) (fun _ _ _ h => h) (Or.inl ⟨by rfl, ?_⟩) hHeld ?_
  rotate_left
  · (intro w' hSw; (try dsimp only at hSw); go_simp; all_goals (with_reducible rfl))
  (try simp only [Act.put, List.setIfInBounds_toArray, List.set_cons_zero, List.set_cons_succ])
  refine wpAnyH_take_d (i := 6) (some 36) (v := ?_) rfl rfl (by kernel_rfl) (by kernel_rfl) (by kernel_rfl) (fun _ _ _ h => h) (Or.inl ⟨by rfl, ?_⟩) hHeld ?_
  rotate_left
  · (intro w' hSw; (try dsimp only at hSw); go_simp; all_goals (with_reducible rfl))
  (try simp only [Act.put, List.setIfInBounds_toArray, List.set_cons_zero, List.set_cons_succ])
  refine wpAnyH_take_d (i := 7) (some 37) (v := ?_) rfl rfl (by kernel_rfl) (by kernel_rfl) (by kernel_rfl) (fun _ _ _ h => h) (Or.inl ⟨by rfl, ?_⟩) hHeld ?_
  rotate_left
  · (intro w' hSw; (try dsimp only at hSw); go_simp; all_goals (with_reducible rfl))
  (try simp only [Act.put, List.setIfInBounds_toArray, List.set_cons_zero, List.set_cons_succ])
  refine wpAnyH_take_d (i := 8) (some 38) (v := ?_) rfl rfl (by kernel_rfl) (by kernel_rfl) (by kernel_rfl) (fun _ _ _ h => h) (Or.inl ⟨by rfl, ?_⟩) hHeld ?_
  rotate_left
  · (intro w' hSw; (try dsimp only at hSw); go_simp; all_goals (with_reducible rfl))
  (try simp only [Act.put, List.setIfInBounds_toArray, List.set_cons_zero, List.set_cons_succ])
  refine wpAnyH_take_d (i := 9) (some 39) (v := ?_) rfl rfl (by kernel_rfl) (by kernel_rfl) (by kernel_rfl) (fun _ _ _ h => h) (Or.inl ⟨by rfl, ?_⟩) hHeld ?_
  rotate_left
  · (intro w' hSw; (try dsimp only at hSw); go_simp; all_goals (with_reducible rfl))
  (try simp only [Act.put, List.setIfInBounds_toArray, List.set_cons_zero, List.set_cons_succ])
  refine wpAnyH_take_d (i := 10) (some 40) (v := ?_) rfl rfl (by kernel_rfl) (by kernel_rfl) (by kernel_rfl) (fun _ _ _ h => h) (Or.inl ⟨by rfl, ?_⟩) hHeld ?_
  rotate_left
  · (intro w' hSw; (try dsimp only at hSw); go_simp; all_goals (with_reducible rfl))
  (try simp only [Act.put, List.setIfInBounds_toArray, List.set_cons_zero, List.set_cons_succ])
  refine wpAnyH_ready (rs := [11]) (by kernel_rfl) (by simp) ?_
  refine AllReadyH.cons rfl (fun K hK => ?_) AllReadyH.nil
  go_simp
  (with_reducible refine (CV.out ()).mono ?_)
  rintro e w4 ⟨A6, l6, c6, rfl, hd, hb⟩
  rw [HS.out]
  have hd' := hd; rw [HA.out] at hd'
  have l6a : l6 ≤ m0 + 2 := hd'.len_le LB1 (by have h := LT.out; rw [LN.out] at h; exact Nat.lt_of_lt_of_le h (Nat.pow_le_pow_left (by decide) _))
  have CG := Hd.mk (specBig s A6 l6 c6 a (m0 + 2) w4 hd' (by have h := LT.out; rw [LN.out] at h; exact h) (by omega) (by omega))
  have P4 := Hd.mk (P3.out.below hb P3.out.lt); have Q4 := Hd.mk (Q3.out.below hb Q3.out.lt); have B4 := Hd.mk (B3.out.trans (hb.mono B3.out.size)); have D4 := Hd.mk (K53.out.below hb)
  clear hd hd' hb CV
  refine hK.out _ _ ?_ (fun hHeld => ?_)
  · exact ⟨P4.out.cell 0 rfl, P4.out.cell 1 rfl, Q4.out.cell 1 rfl⟩
  clear hK K
  (try simp only [Act.put, List.setIfInBounds_toArray, List.set_cons_zero, List.set_cons_succ])
  refine wpAnyH_ready (rs := [12]) (by kernel_rfl) (by simp) ?_
  refine AllReadyH.cons rfl (fun K hK => ?_) AllReadyH.nil
  go_simp
  (with_reducible refine CG.out.mono ?_)
  rintro e w5 ⟨A7, m7, c7, rfl, k1, k2, k3, k4, k5, k6, k7⟩
  have P5 := Hd.mk (P4.out.below k6 P4.out.lt); have Q5 := Hd.mk (Q4.out.below k6 Q4.out.lt); have B5 := Hd.mk (B4.out.trans (k6.mono B4.out.size)); have D5 := Hd.mk (D4.out.below k6)
  have hm : m7 = m4 := lens_eq B256 k3 k4 K3.out K4.out
  subst hm
  have CS := Hd.mk (vaSame s A4 A7 m7 m7 c4 c7 (beL a m7) w5 D5.out k5)
  clear k1 k2 k3 k4 k5 k6 k7 CG
  refine hK.out _ _ ?_ (fun hHeld => ?_)
  · exact ⟨P5.out.cell 0 rfl, P5.out.cell 1 rfl, Q5.out.cell 1 rfl⟩
  clear hK K
  (try simp only [Act.put, List.setIfInBounds_toArray, List.set_cons_zero, List.set_cons_succ])
  refine wpAnyH_ready (rs := [13]) (by kernel_rfl) (by simp) ?_
  refine AllReadyH.cons rfl (fun K hK => ?_) AllReadyH.nil
  go_simp
  (with_reducible refine CS.out.mono ?_)
  rintro e w6 ⟨rfl, hb6⟩
  have P6 := Hd.mk (P5.out.below hb6 P5.out.lt); have Q6 := Hd.mk (Q5.out.below hb6 Q5.out.lt); have B6 := Hd.mk (B5.out.trans (hb6.mono B5.out.size))
  clear hb6 CS
  refine hK.out _ _ ?_ (fun hHeld => ?_)
  · exact ⟨P6.out.cell 0 rfl, P6.out.cell 1 rfl, Q6.out.cell 1 rfl⟩
  clear hK K
  (try simp only [Act.put, List.setIfInBounds_toArray, List.set_cons_zero, List.set_cons_succ])
  refine wpAnyH_take_d (i := 14) (some 44) (v := ?_) rfl rfl (by kernel_rfl) (by kernel_rfl) (by kernel_rfl) (fun _ _ _ h => h) (Or.inl ⟨by rfl, ?_⟩) hHeld ?_
  rotate_left
  · (intro w' hSw; (try dsimp only at hSw); go_simp; all_goals (with_reducible rfl))
  (try simp only [Act.put, List.setIfInBounds_toArray, List.set_cons_zero, List.set_cons_succ])
  refine wpAnyH_take_d (i := 15) (some 2) (v := ?_) rfl rfl (by kernel_rfl) (by kernel_rfl) (by kernel_rfl) (fun _ _ _ h => h) (Or.inl ⟨by rfl, ?_⟩) hHeld ?_
  rotate_left
  · (intro w' hSw; (try dsimp only at hSw); go_simp; all_goals (with_reducible rfl))
  (try simp only [Act.put, List.setIfInBounds_toArray, List.set_cons_zero, List.set_cons_succ])
  refine wpAnyH_done (by kernel_rfl) ?_ _
  go_wp2
  go_ret
  exact ⟨rfl, B6.out⟩
theorem FnVaFixedOf (a : Option Addr) (len cap : Nat) (zs : List Int) (w : World) (h : (a = none ∧ len = 0 ∧ cap = 0 ∧ zs = []) ∨ ∃ x, a = some x ∧ len ≤ cap ∧ cap ≤ maxLen ∧ zs.length = cap ∧ (∀ i, i < zs.length → w.cell? (x.add i) = some (.int .u8 (zs.getD i 0))) ∧ ∀ n ∈ zs, (Lit.int .u8 n).wf = true) (hl : len * 1 ≤ 140737488351232) :
    Calls Try.prog 5 #[.slice a len cap] w fun e w' => e = .returned (.bool true) ∧ Below w.heap.size w w' := by
  have hcap : len ≤ cap ∧ cap ≤ maxLen := by
    rcases h with ⟨rfl, rfl, rfl, rfl⟩ | ⟨x, rfl, h1, h2, _⟩
    · exact ⟨Nat.le_refl _, by decide⟩
    · exact ⟨h1, h2⟩
  by_cases hf : len ≤ 2147483647
  · obtain ⟨h1, h2, hr, hb⟩ := rd_row_in h (by omega)
    by_cases h60 : len ≤ 60
    · match len, hr, h1, h60 with
      | 0, _, _, _ => exact law_fixedOf_zero a cap w
      | m0 + 1, hr, h1, h60 => exact law_fixedOf a m0 cap _ w hr hb h60 h1 hcap.2
    · exact law_fixedOf_long a len cap w (by omega) hf
  · exact law_fixedOf_no a len cap w hf (by omega)
end Go.Proofs.Ytjikodjljocpmaa.Kb
