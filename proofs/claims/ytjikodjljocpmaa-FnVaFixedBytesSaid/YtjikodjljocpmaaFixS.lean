/- spec.VaFixed: a whole number in so many bytes. -/
import Derived.Test.YtjikodjljocpmaaFixB
import Derived.Test.YtjikodjljocpmaaNatH
namespace Go.Proofs.Ytjikodjljocpmaa.Kb
open Go Go.RowKit
set_option linter.unusedVariables false
set_option linter.unusedSimpArgs false
set_option maxHeartbeats 2000000
/-- What VaFixed answers: bytes, and whether the number fits. -/
def FixSay (w : World) (R n : Nat) (b : Bool) (e : Ending) (w' : World) : Prop := ∃ g, e = .returned (.tuple #[.slice (some ⟨g, 0, none⟩) n n, .bool b]) ∧ Blk w' g (bc (leL R n)).toArray 5 ∧ w.heap.size ≤ g ∧ Below w.heap.size w w'
def FixNil (w : World) (e : Ending) (w' : World) : Prop := e = .returned (.tuple #[.slice none 0 0, .bool false]) ∧ Below w.heap.size w w'
set_option maxRecDepth 100000 in
theorem vaFixed_pos (A : Option Addr) (l c a n M0 : Nat) (z v : Int) (w : World) (h : DigV .u32 LB w A l c a) (hz : z = n) (hn0 : 1 ≤ n) (hn : n ≤ 16) (hK : a < 256 ^ M0) (hK2 : M0 ≤ 8796093022208) (hv : cmpI a (2 ^ (8 * n - 1)) = v) :
    Calls Try.prog 16 #[.agg #[.bool false, .slice A l c], .int .i64 z] w fun e w' => FixSay w a n (decide (v < 0)) e w' := by
  subst hz
  have hlK : l ≤ M0 := h.len_le LB1 (Nat.lt_of_lt_of_le hK (Nat.pow_le_pow_left (by decide) _))
  have C1 := Hd.mk (fun W => vaTwo (8 * (n : Int) - 1) (8 * n - 1) W (by omega) (by omega))
  have H := Hd.mk h; have HK := Hd.mk hK; have HV := Hd.mk hv
  clear h hK hv
  go_enter Try.func16, Try.ntmps16
  go_wp2_with fail
  with_reducible refine (C1.out _).mono ?_
  rintro e w2 ⟨A2, l2, c2, rfl, hd2, hb2, _⟩
  have HS0 : WnS w w.heap.size false A l c a (w.alloc (.cells #[.bool false, .slice A l c] 29)) := ⟨Blk.new _ _ _, H.out.below ((Below.refl _ _).alloc (Nat.le_refl _) _), (Below.refl _ _).alloc (Nat.le_refl _) _⟩
  have HS2 := HS0.on hb2
  have k0 : w2.cell? ⟨w.heap.size, 0, none⟩ = some (.bool false) := HS2.blk.cell 0 rfl
  have S2 := wnS_of (HS2.on (Below.refl _ _).drew)
  have D2 := Hd.mk (hd2.below (Below.refl _ _).drew)
  have B2 := Hd.mk (show w.heap.size ≤ w2.drew.heap.size from (HS2.on (Below.refl _ _).drew).bel.size)
  clear hd2 hb2 HS0 HS2 C1
  go_wp2_with fail
  refine wp_region_held_drew (S := (fun W => W.cell? ⟨w.heap.size, 0, none⟩ = some (.bool false) ∧ W.cell? ⟨w.heap.size, 1, none⟩ = some (.slice A l c) ∧ WnS w w.heap.size false A l c a W)) (by kernel_rfl) ?_ (fun hHeld => ?_)
  · exact S2
  refine wpAnyH_take_d (i := 0) (some 14) (v := ?_) rfl rfl (by kernel_rfl) (by kernel_rfl) (by kernel_rfl) (fun _ _ _ h => h) (Or.inl ⟨by rfl, ?_⟩) hHeld ?_
  rotate_left
  · (intro w' hSw; (try dsimp only at hSw); go_simp; all_goals (with_reducible rfl))
  (try simp only [Act.put, List.setIfInBounds_toArray, List.set_cons_zero, List.set_cons_succ])
  refine wpAnyH_take_d (i := 1) (some 15) (v := ?_) rfl rfl (by kernel_rfl) (by kernel_rfl) (by kernel_rfl) (fun _ _ _ h => h) (Or.inl ⟨by rfl, ?_⟩) hHeld ?_
  rotate_left
  · (intro w' hSw; (try dsimp only at hSw); go_simp; all_goals (with_reducible rfl))
  (try simp only [Act.put, List.setIfInBounds_toArray, List.set_cons_zero, List.set_cons_succ])
  refine wpAnyH_take_d (i := 2) (some 16) (v := ?_) rfl rfl (by kernel_rfl) (by kernel_rfl) (by kernel_rfl) (fun _ _ _ h => h) (Or.inl ⟨by rfl, ?_⟩) hHeld ?_
  rotate_left
  · (intro w' hSw; (try dsimp only at hSw); go_simp; all_goals (with_reducible rfl))
  (try simp only [Act.put, List.setIfInBounds_toArray, List.set_cons_zero, List.set_cons_succ])
  refine wpAnyH_take_d (i := 4) (some 18) (v := ?_) rfl rfl (by kernel_rfl) (by kernel_rfl) (by kernel_rfl) (fun _ _ _ h => h) (Or.inl ⟨by rfl, ?_⟩) hHeld ?_
  rotate_left
  · (intro w' hSw; (try dsimp only at hSw); go_simp; all_goals (with_reducible rfl))
  (try simp only [Act.put, List.setIfInBounds_toArray, List.set_cons_zero, List.set_cons_succ])
  refine wpAnyH_take_d (i := 5) (some 19) (v := ?_) rfl rfl (by kernel_rfl) (by kernel_rfl) (by kernel_rfl) (fun _ _ _ h => h) (Or.inl ⟨by rfl, ?_⟩) hHeld ?_
  rotate_left
  · (intro w' hSw; (try dsimp only at hSw); go_simp; all_goals (with_reducible rfl))
  (try simp only [Act.put, List.setIfInBounds_toArray, List.set_cons_zero, List.set_cons_succ])
  refine wpAnyH_take_d (i := 6) (some 20) (v := ?_) rfl rfl (by kernel_rfl) (by kernel_rfl) (by kernel_rfl) (fun _ _ _ h => h) (Or.inl ⟨by rfl, ?_⟩) hHeld ?_
  rotate_left
  · (intro w' hSw; (try dsimp only at hSw); go_simp; all_goals (with_reducible rfl))
  (try simp only [Act.put, List.setIfInBounds_toArray, List.set_cons_zero, List.set_cons_succ])
  refine wpAnyH_ready (rs := [3]) (by kernel_rfl) (by simp) ?_
  refine AllReadyH.cons rfl (fun K hK => ?_) AllReadyH.nil
  go_simp
  (with_reducible refine (vaLittle A l c a M0 n _ _ hHeld.2.2.dig HK.out (by omega) (by omega) rfl (by omega)).mono ?_)
  rintro e w4 ⟨rfl, hb4, hl4⟩
  have HB4 := Hd.mk hb4; have D4 := Hd.mk (D2.out.below hl4)
  refine hK.out _ _ ?_ (fun hHeld => ?_)
  · exact wnS_of (hHeld.2.2.on hl4)
  clear hK K
  (try simp only [Act.put, List.setIfInBounds_toArray, List.set_cons_zero, List.set_cons_succ])
  refine wpAnyH_ready (rs := [7]) (by kernel_rfl) (by simp) ?_
  refine AllReadyH.cons rfl (fun K hK => ?_) AllReadyH.nil
  go_simp
  (with_reducible refine (natCmpV A l c a A2 l2 c2 _ v _ hHeld.2.2.dig D4.out HV.out).mono ?_)
  rintro e w5 ⟨rfl, hl5⟩
  have HB5 := Hd.mk (HB4.out.below hl5 HB4.out.lt)
  refine hK.out _ _ ?_ (fun hHeld => ?_)
  · exact wnS_of (hHeld.2.2.on hl5)
  clear hK K
  (try simp only [Act.put, List.setIfInBounds_toArray, List.set_cons_zero, List.set_cons_succ])
  refine wpAnyH_take_d (i := 8) (some 22) (v := ?_) rfl rfl (by kernel_rfl) (by kernel_rfl) (by kernel_rfl) (fun _ _ _ h => h) (Or.inl ⟨by rfl, ?_⟩) hHeld ?_
  rotate_left
  · (intro w' hSw; (try dsimp only at hSw); go_simp; all_goals (with_reducible rfl))
  (try simp only [Act.put, List.setIfInBounds_toArray, List.set_cons_zero, List.set_cons_succ])
  refine wpAnyH_take_d (i := 9) (some 4) (v := ?_) rfl rfl (by kernel_rfl) (by kernel_rfl) (by kernel_rfl) (fun _ _ _ h => h) (Or.inl ⟨by rfl, ?_⟩) hHeld ?_
  rotate_left
  · (intro w' hSw; (try dsimp only at hSw); go_simp; all_goals (with_reducible rfl))
  (try simp only [Act.put, List.setIfInBounds_toArray, List.set_cons_zero, List.set_cons_succ])
  refine wpAnyH_take_d (i := 10) (some 5) (v := ?_) rfl rfl (by kernel_rfl) (by kernel_rfl) (by kernel_rfl) (fun _ _ _ h => h) (Or.inl ⟨by rfl, ?_⟩) hHeld ?_
  rotate_left
  · (intro w' hSw; (try dsimp only at hSw); go_simp; all_goals (with_reducible rfl))
  (try simp only [Act.put, List.setIfInBounds_toArray, List.set_cons_zero, List.set_cons_succ])
  refine wpAnyH_done (by kernel_rfl) ?_ _
  have HS := Hd.mk hHeld.2.2
  clear hHeld
  go_wp2_with fail
  go_ret2
  exact ⟨_, rfl, HB5.out, B2.out, HS.out.bel⟩
set_option maxRecDepth 100000 in
theorem vaFixed_no (A : Option Addr) (l c a n : Nat) (z : Int) (w : World) (h : DigV .u32 LB w A l c a) (hz : z = n) (hn0 : 1 ≤ n) (hn : n ≤ 16) (hv : 2 ^ (8 * n - 1) < a) :
    Calls Try.prog 16 #[.agg #[.bool true, .slice A l c], .int .i64 z] w fun e w' => FixNil w e w' := by
  subst hz
  have C1 := Hd.mk (fun W => vaTwo (8 * (n : Int) - 1) (8 * n - 1) W (by omega) (by omega))
  have H := Hd.mk h; have HV := Hd.mk (cmpI_gt hv)
  clear h hv
  go_enter Try.func16, Try.ntmps16
  go_wp2_with fail
  with_reducible refine (C1.out _).mono ?_
  rintro e w2 ⟨A2, l2, c2, rfl, hd2, hb2, _⟩
  have HS0 : WnS w w.heap.size true A l c a (w.alloc (.cells #[.bool true, .slice A l c] 29)) := ⟨Blk.new _ _ _, H.out.below ((Below.refl _ _).alloc (Nat.le_refl _) _), (Below.refl _ _).alloc (Nat.le_refl _) _⟩
  have HS2 := Hd.mk (HS0.on hb2)
  have k0 : w2.cell? ⟨w.heap.size, 0, none⟩ = some (.bool true) := HS2.out.blk.cell 0 rfl
  have k1 : w2.cell? ⟨w.heap.size, 1, none⟩ = some (.slice A l c) := HS2.out.blk.cell 1 rfl
  have CC := Hd.mk (natCmpV A l c a A2 l2 c2 _ 1 w2 HS2.out.dig hd2 HV.out)
  clear hd2 hb2 HS0 C1
  go_wp2_with fail
  with_reducible refine CC.out.mono ?_
  rintro e w3 ⟨rfl, hb3⟩
  have B3 := Hd.mk (HS2.out.on hb3).bel
  clear hb3 CC
  go_wp2_with fail
  go_ret2
  exact ⟨rfl, B3.out⟩
set_option maxRecDepth 100000 in
theorem vaFixed_neg (A : Option Addr) (l c a n : Nat) (z v : Int) (w : World) (h : DigV .u32 LB w A l c a) (hz : z = n) (hn0 : 1 ≤ n) (hn : n ≤ 16) (hle : a ≤ 2 ^ (8 * n - 1)) (hv : cmpI a (2 ^ (8 * n - 1)) = v) (hv0 : ¬ 0 < v) :
    Calls Try.prog 16 #[.agg #[.bool true, .slice A l c], .int .i64 z] w fun e w' => FixSay w (256 ^ n - a) n true e w' := by
  subst hz
  have e8 : 2 ^ (8 * n) = 2 ^ (8 * n - 1) * 2 := by rw [← Nat.pow_succ]; congr 1; omega
  have P := Hd.mk (show 2 ^ (8 * n) - a = 256 ^ n - a by rw [Nat.pow_mul])
  have HLE := Hd.mk (show a ≤ 2 ^ (8 * n) by rw [e8]; omega)
  have R1 := Hd.mk (show 256 ^ n - a < 256 ^ (n + 1) by rw [Nat.pow_succ]; have : 0 < 256 ^ n := Nat.pow_pos (by decide); omega)
  have C1 := Hd.mk (fun W => vaTwo (8 * (n : Int) - 1) (8 * n - 1) W (by omega) (by omega))
  have H := Hd.mk h; have HV := Hd.mk hv
  clear h hv hle e8
  go_enter Try.func16, Try.ntmps16
  go_wp2_with fail
  with_reducible refine (C1.out _).mono ?_
  rintro e w2 ⟨A2, l2, c2, rfl, hd2, hb2, _⟩
  have HS0 : WnS w w.heap.size true A l c a (w.alloc (.cells #[.bool true, .slice A l c] 29)) := ⟨Blk.new _ _ _, H.out.below ((Below.refl _ _).alloc (Nat.le_refl _) _), (Below.refl _ _).alloc (Nat.le_refl _) _⟩
  have HS2 := Hd.mk (HS0.on hb2)
  have k0 : w2.cell? ⟨w.heap.size, 0, none⟩ = some (.bool true) := HS2.out.blk.cell 0 rfl
  have k1 : w2.cell? ⟨w.heap.size, 1, none⟩ = some (.slice A l c) := HS2.out.blk.cell 1 rfl
  have CC := Hd.mk (natCmpV A l c a A2 l2 c2 _ v w2 HS2.out.dig hd2 HV.out)
  clear hd2 hb2 HS0 C1
  go_wp2_with fail
  with_reducible refine CC.out.mono ?_
  rintro e w3 ⟨rfl, hb3⟩
  have HS3 := Hd.mk (HS2.out.on hb3)
  have S3 := wnS_of (HS3.out.on (Below.refl _ _).drew)
  clear hb3 CC k0 k1
  go_wp2_with fail
  refine wp_region_held_drew (S := (fun W => W.cell? ⟨w.heap.size, 0, none⟩ = some (.bool true) ∧ W.cell? ⟨w.heap.size, 1, none⟩ = some (.slice A l c) ∧ WnS w w.heap.size true A l c a W)) (by kernel_rfl) ?_ (fun hHeld => ?_)
  · exact S3
  refine wpAnyH_take_d (i := 0) (some 28) (v := ?_) rfl rfl (by kernel_rfl) (by kernel_rfl) (by kernel_rfl) (fun _ _ _ h => h) (Or.inl ⟨by rfl, ?_⟩) hHeld ?_
  rotate_left
  · (intro w' hSw; (try dsimp only at hSw); go_simp; all_goals (with_reducible rfl))
  (try simp only [Act.put, List.setIfInBounds_toArray, List.set_cons_zero, List.set_cons_succ])
  refine wpAnyH_take_d (i := 1) (some 29) (v := ?_) rfl rfl (by kernel_rfl) (by kernel_rfl) (by kernel_rfl) (fun _ _ _ h => h) (Or.inl ⟨by rfl, ?_⟩) hHeld ?_
  rotate_left
  · (intro w' hSw; (try dsimp only at hSw); go_simp; all_goals (with_reducible rfl))
  (try simp only [Act.put, List.setIfInBounds_toArray, List.set_cons_zero, List.set_cons_succ])
  refine wpAnyH_take_d (i := 3) (some 31) (v := ?_) rfl rfl (by kernel_rfl) (by kernel_rfl) (by kernel_rfl) (fun _ _ _ h => h) (Or.inl ⟨by rfl, ?_⟩) hHeld ?_
  rotate_left
  · (intro w' hSw; (try dsimp only at hSw); go_simp; all_goals (with_reducible rfl))
  (try simp only [Act.put, List.setIfInBounds_toArray, List.set_cons_zero, List.set_cons_succ])
  refine wpAnyH_take_d (i := 4) (some 32) (v := ?_) rfl rfl (by kernel_rfl) (by kernel_rfl) (by kernel_rfl) (fun _ _ _ h => h) (Or.inl ⟨by rfl, ?_⟩) hHeld ?_
  rotate_left
  · (intro w' hSw; (try dsimp only at hSw); go_simp; all_goals (with_reducible rfl))
  (try simp only [Act.put, List.setIfInBounds_toArray, List.set_cons_zero, List.set_cons_succ])
  refine wpAnyH_take_d (i := 6) (some 34) (v := ?_) rfl rfl (by kernel_rfl) (by kernel_rfl) (by kernel_rfl) (fun _ _ _ h => h) (Or.inl ⟨by rfl, ?_⟩) hHeld ?_
  rotate_left
  · (intro w' hSw; (try dsimp only at hSw); go_simp; all_goals (with_reducible rfl))
  (try simp only [Act.put, List.setIfInBounds_toArray, List.set_cons_zero, List.set_cons_succ])
  refine wpAnyH_ready (rs := [2]) (by kernel_rfl) (by simp) ?_
  refine AllReadyH.cons rfl (fun K hK => ?_) AllReadyH.nil
  go_simp
  (with_reducible refine (vaTwo (IntKind.i64.wrap (8 * (n : Int))) (8 * n) _ (by rw [IntKind.wrap_i64]; omega) (by omega)).mono ?_)
  rintro e w4 ⟨A4, l4, c4, rfl, hd4, hl4, _⟩
  refine hK.out _ _ ?_ (fun hHeld => ?_)
  · exact wnS_of (hHeld.2.2.on hl4)
  clear hK K
  (try simp only [Act.put, List.setIfInBounds_toArray, List.set_cons_zero, List.set_cons_succ])
  refine wpAnyH_ready (rs := [5]) (by kernel_rfl) (by simp) ?_
  refine AllReadyH.cons rfl (fun K hK => ?_) AllReadyH.nil
  go_simp
  have f4 : l4 ≤ 8 * n + 1 := hd4.len_le LB1 (Nat.lt_of_lt_of_le (Nat.pow_lt_pow_right (by decide) (show 8 * n < 8 * n + 1 by omega)) (Nat.pow_le_pow_left (by decide) _))
  (with_reducible refine (natSub _ _ _ _ _ _ _ _ _ hd4 hHeld.2.2.dig (by omega) HLE.out).mono ?_)
  rintro e w5 ⟨A5, l5, c5, rfl, hd5, hl5, _⟩
  refine hK.out _ _ ?_ (fun hHeld => ?_)
  · exact wnS_of (hHeld.2.2.on hl5)
  clear hK K
  (try simp only [Act.put, List.setIfInBounds_toArray, List.set_cons_zero, List.set_cons_succ])
  refine wpAnyH_ready (rs := [7]) (by kernel_rfl) (by simp) ?_
  refine AllReadyH.cons rfl (fun K hK => ?_) AllReadyH.nil
  go_simp
  rw [P.out] at hd5
  have f5 : l5 ≤ n + 1 := hd5.len_le LB1 (Nat.lt_of_lt_of_le R1.out (Nat.pow_le_pow_left (by decide) _))
  (with_reducible refine (vaLittle A5 l5 c5 _ (n + 1) n _ _ hd5 R1.out (by omega) (by omega) rfl (by omega)).mono ?_)
  rintro e w6 ⟨rfl, hb6, hl6⟩
  have HB6 := Hd.mk hb6
  have B5 := Hd.mk (hHeld.2.2.bel.size)
  refine hK.out _ _ ?_ (fun hHeld => ?_)
  · exact wnS_of (hHeld.2.2.on hl6)
  clear hK K
  (try simp only [Act.put, List.setIfInBounds_toArray, List.set_cons_zero, List.set_cons_succ])
  refine wpAnyH_take_d (i := 8) (some 4) (v := ?_) rfl rfl (by kernel_rfl) (by kernel_rfl) (by kernel_rfl) (fun _ _ _ h => h) (Or.inl ⟨by rfl, ?_⟩) hHeld ?_
  rotate_left
  · (intro w' hSw; (try dsimp only at hSw); go_simp; all_goals (with_reducible rfl))
  (try simp only [Act.put, List.setIfInBounds_toArray, List.set_cons_zero, List.set_cons_succ])
  refine wpAnyH_take_d (i := 9) (some 5) (v := ?_) rfl rfl (by kernel_rfl) (by kernel_rfl) (by kernel_rfl) (fun _ _ _ h => h) (Or.inl ⟨by rfl, ?_⟩) hHeld ?_
  rotate_left
  · (intro w' hSw; (try dsimp only at hSw); go_simp; all_goals (with_reducible rfl))
  (try simp only [Act.put, List.setIfInBounds_toArray, List.set_cons_zero, List.set_cons_succ])
  refine wpAnyH_done (by kernel_rfl) ?_ _
  have HS := Hd.mk hHeld.2.2
  clear hHeld hd4 hl4 hd5 hl5 hl6 f4 f5
  go_wp2_with fail
  go_ret2
  exact ⟨_, rfl, HB6.out, B5.out, HS.out.bel⟩
end Go.Proofs.Ytjikodjljocpmaa.Kb
