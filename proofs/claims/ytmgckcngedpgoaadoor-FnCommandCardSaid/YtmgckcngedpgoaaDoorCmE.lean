/- Encoder.CESU8Bytes. -/
import Derived.Test.YtmgckcngedpgoaaDoorTxG
import Derived.Test.YtmgckcngedpgoaaDoorPack
namespace Go.Proofs.YtmgckcngedpgoaaDoor.Kb
open Go Go.RowKit
set_option linter.unusedVariables false
set_option linter.unusedSimpArgs false
set_option maxHeartbeats 2000000
theorem Rd.belB {w w' : World} {B : Nat} {S : List Nat} {g off n : Nat} {xs : List Int} (h : Rd w [] (some ⟨g, off, none⟩) n xs) (hg : 0 < n → g < B ∧ g ∉ S) (hb : Bel B S w w') : Rd w' S (some ⟨g, off, none⟩) n xs := by
  refine ⟨h.len, h.small, fun j hj => ?_⟩
  obtain ⟨ad, h1, h2, h3, h4⟩ := h.at_ j hj
  cases h1
  have hn : 0 < n := by have := h.len; omega
  obtain ⟨g1, g2⟩ := hg hn
  refine ⟨_, rfl, ?_, Nat.lt_of_lt_of_le h3 hb.size, g2⟩
  rw [hb.cell (by rw [add_block]; exact g1) (by rw [add_block]; exact g2)]
  exact h2
theorem tabs_belB {w w' : World} {B : Nat} {S : List Nat} (hT : Go.Lib.Utf8Tabs 3 4 w) (hb : Bel B S w w') (hB : 4 + 1 ≤ B) (hS : ∀ x ∈ S, 4 + 1 ≤ x) : Go.Lib.Utf8Tabs 3 4 w' := by
  have m0 : (3 : Nat) ∉ S := fun h => by have := hS _ h; omega
  have m1 : (4 : Nat) ∉ S := fun h => by have := hS _ h; omega
  exact ⟨fun k hk => by rw [hb.cell (p := ⟨3, k, none⟩) (by simp; omega) m0]; exact hT.1 k hk, fun i hi => ⟨by rw [hb.cell (p := ⟨4, 2 * i, none⟩) (by simp; omega) m1]; exact (hT.2 i hi).1, by rw [hb.cell (p := ⟨4, 2 * i + 1, none⟩) (by simp; omega) m1]; exact (hT.2 i hi).2⟩⟩
theorem Enc.belowE {K : EK} {w w' : World} {out : List Int} (h : Enc K w out) (hb : Below w.heap.size w w') : Enc K w' out := by
  obtain ⟨Z, hz, hZ⟩ := h.sc
  exact h.scr ((show Bel w.heap.size [] w w' from Bel.of hb).weak (Nat.le_refl _) (fun x hx _ => by simp at hx)) Z hz (hZ.below hb hZ.lt)
set_option maxRecDepth 100000 in
theorem E_Cesu (K : EK) (out : List Int) (tb g n c : Nat) (v : Value) (F : List Int) (w : World) (h : Enc K w out) (htr : K.tr = .iface 106 (.pointer (some ⟨tb, 0, none⟩))) (htb : Blk w tb #[v] 139)
    (hsrc : Rd w [] (some ⟨g, 0, none⟩) n (uB F)) (hg : 0 < n → g < K.B ∧ g ∉ [K.sb, K.wr]) (hnc : n ≤ c) (hc : c ≤ 9223372036854775807) (hn : n ≤ 100000) (ho : out.length + 2 * n ≤ 1000000000)
    (hT : Go.Lib.Utf8Tabs 3 4 w) (q1 : 4 + 1 ≤ K.sb) (q2 : 4 + 1 ≤ K.wr) (hF : ∀ r ∈ F, good r) :
    Calls Tryd.prog 59 #[.pointer (some ⟨K.e, 0, none⟩), .slice (some ⟨g, 0, none⟩) n c] w fun e w' => e = .returned (.tuple #[.int .i64 (cB F).length, .nilIface]) ∧ Wrote K w out (cB F) w' := by
  have c2 : w.cell? ⟨K.e, 2, none⟩ = some K.tr := h.blk.cell 2 rfl
  rw [htr] at c2
  have RS := resetE_run tb w v htb
  have CR := Hd.mk (resetN w)
  have HS := Hd.mk hsrc; have HT := Hd.mk hT; have HF := Hd.mk hF; have LN := Hd.mk hsrc.len; have HG := Hd.mk hg; have HTR := Hd.mk htr
  have CL := Hd.mk (show (cB F).length ≤ 2 * n by rw [← hsrc.len]; exact cb_le_ub F)
  have HE0 := Hd.mk h
  have qB : 4 + 1 ≤ K.B := by have := h.l2; omega
  clear hsrc hT hF hg htr h htb
  go_enter Tryd.func59, Tryd.ntmps59
  go_wp2_with (simp only [RS])
  with_reducible refine CR.out.mono ?_
  rintro e w1 ⟨rfl, hb1⟩
  have HB1 := Hd.mk (show Bel K.B [K.sb, K.wr] w w1 from (show Bel K.B [] w w1 from Bel.of (hb1.mono HE0.out.le)).weak (Nat.le_refl _) (fun x hx _ => by simp at hx))
  have HE1 := Hd.mk (show Enc K w1 out from HE0.out.belowE hb1)
  clear hb1 CR RS c2
  go_wp2_with fail
  go_loopw [6, 7] (fun m i wr => ∃ k : Nat, k ≤ F.length ∧ m = .int .i64 (cB (F.take k)).length ∧ i = .int .i64 (uB (F.take k)).length ∧ Enc K wr (out ++ cB (F.take k)) ∧ Bel K.B [K.sb, K.wr] w wr) (fun _ i _ => n - (intOf i).toNat)
  case atStart => exact ⟨0, Nat.zero_le _, rfl, rfl, by simpa [cB] using HE1.out, HB1.out⟩
  case round =>
    obtain ⟨k, hk, rfl, rfl, hE, hB⟩ := hrel
    have HE := Hd.mk hE; have HB := Hd.mk hB
    clear hE hB
    by_cases hkl : k < F.length
    · have ULT := Hd.mk (show (uB (F.take k)).length < n by
        rw [← LN.out, uB_split F k, List.length_append]
        have : 0 < (uB (F.drop k)).length := uB_pos (by simp; omega)
        omega)
      have RD := Hd.mk ((HS.out.belB HG.out HB.out).dropN (uB (F.take k)).length)
      have CBL := Hd.mk (show (cB (F.take k)).length ≤ 2 * n by
        have h2 := congrArg List.length (cB_split F k)
        rw [List.length_append] at h2
        have := CL.out; omega)
      obtain ⟨m, hm⟩ : ∃ m, (uB (F.take k)).length = m := ⟨_, rfl⟩
      obtain ⟨a, ha⟩ : ∃ a, (cB (F.take k)).length = a := ⟨_, rfl⟩
      rw [uB_drop, hm, Nat.zero_add] at RD
      rw [hm] at ULT
      rw [ha] at CBL
      rw [hm, ha]
      have HM := Hd.mk hm; have HA := Hd.mk ha
      have ml := ULT.out
      have l1 : (m : Int) ≤ n := by omega
      have l2 : ¬ c = m := by omega
      have l3 : (m : Int) < n := by omega
      clear hm ha
      obtain ⟨Z, hz, hZ⟩ := HE.out.sc
      have NA := nilE tb; have ME := methE tb
      have e1 : wr.cell? ⟨K.e, 1, none⟩ = some (.slice (some ⟨K.sb, 0, none⟩) 4096 4096) := HE.out.blk.cell 1 rfl
      have e2 : wr.cell? ⟨K.e, 2, none⟩ = some (.iface 106 (.pointer (some ⟨tb, 0, none⟩))) := by rw [← HTR.out]; exact HE.out.blk.cell 2 rfl
      have CT := Hd.mk (fun (W : World) (hw : Below wr.heap.size wr W) => encT tb K.sb 0 4096 4096 g m (n - m) (c - m) Z 5 (F.drop k) W (hZ.below hw hZ.lt) (by rw [hz]; omega) (by omega) (Nat.le_refl _) ((RD.out.sub (by simp)).below hw) (by omega) (tabs_below (tabs_belB HT.out HB.out qB (by simp; exact ⟨q1, q2⟩)) hw (Nat.le_trans qB HE.out.le)) q1 (fun r hr => HF.out r (List.mem_of_mem_drop hr)))
      have HZZ := Hd.mk hz
      clear hz hZ
      go_wp2_with fail
      refine wp_region_held_drew (S := (fun W => W.cell? ⟨K.e, 1, none⟩ = some (.slice (some ⟨K.sb, 0, none⟩) 4096 4096) ∧ W.cell? ⟨K.e, 2, none⟩ = some (.iface 106 (.pointer (some ⟨tb, 0, none⟩))))) (by kernel_rfl) ?_ (fun hHeld => ?_)
      · exact ⟨e1, e2⟩
      refine wpAnyH_take_d (i := 0) (some 23) (v := ?_) rfl rfl (by kernel_rfl) (by kernel_rfl) (by kernel_rfl) (fun _ _ _ h => h) (Or.inl ⟨by rfl, ?_⟩) hHeld ?_
      rotate_left
      · (intro w' hSw; (try dsimp only at hSw); go_simp; all_goals (with_reducible rfl))
      (try simp only [Act.put, List.setIfInBounds_toArray, List.set_cons_zero, List.set_cons_succ])
      refine wpAnyH_take_d (i := 1) (some 24) (v := ?_) rfl rfl (by kernel_rfl) (by kernel_rfl) (by kernel_rfl) (fun _ _ _ h => h) (Or.inl ⟨by rfl, ?_⟩) hHeld ?_
      rotate_left
      · (intro w' hSw; (try dsimp only at hSw); go_simp; all_goals (with_reducible rfl))
      (try simp only [Act.put, List.setIfInBounds_toArray, List.set_cons_zero, List.set_cons_succ])
      refine wpAnyH_take_d (i := 2) (some 25) (v := ?_) rfl rfl (by kernel_rfl) (by kernel_rfl) (by kernel_rfl) (fun _ _ _ h => h) (Or.inl ⟨by rfl, ?_⟩) hHeld ?_
      rotate_left
      · (intro w' hSw; (try dsimp only at hSw); go_simp; all_goals (with_reducible rfl))
      (try simp only [Act.put, List.setIfInBounds_toArray, List.set_cons_zero, List.set_cons_succ])
      refine wpAnyH_take_d (i := 3) (some 26) (v := ?_) rfl rfl (by kernel_rfl) (by kernel_rfl) (by kernel_rfl) (fun _ _ _ h => h) (Or.inl ⟨by rfl, ?_⟩) hHeld ?_
      rotate_left
      · (intro w' hSw; (try dsimp only at hSw); go_simp; all_goals (with_reducible rfl))
      (try simp only [Act.put, List.setIfInBounds_toArray, List.set_cons_zero, List.set_cons_succ])
      refine wpAnyH_take_d (i := 4) (some 27) (v := ?_) rfl rfl (by kernel_rfl) (by kernel_rfl) (by kernel_rfl) (fun _ _ _ h => h) (Or.inl ⟨by rfl, ?_⟩) hHeld ?_
      rotate_left
      · (intro w' hSw; (try dsimp only at hSw); go_simp; all_goals (with_reducible rfl))
      (try simp only [Act.put, List.setIfInBounds_toArray, List.set_cons_zero, List.set_cons_succ])
      refine wpAnyH_take_d (i := 5) (some 28) (v := ?_) rfl rfl (by kernel_rfl) (by kernel_rfl) (by kernel_rfl) (fun _ _ _ h => h) (Or.inl ⟨by rfl, ?_⟩) hHeld ?_
      rotate_left
      · (intro w' hSw; (try dsimp only at hSw); go_simp; all_goals (with_reducible rfl))
      (try simp only [Act.put, List.setIfInBounds_toArray, List.set_cons_zero, List.set_cons_succ])
      refine wpAnyH_take_d (i := 6) (some 29) (v := ?_) rfl rfl (by kernel_rfl) (by kernel_rfl) (by kernel_rfl) (fun _ _ _ h => h) (Or.inl ⟨by rfl, ?_⟩) hHeld ?_
      rotate_left
      · (intro w' hSw; (try dsimp only at hSw); go_simp; all_goals (with_reducible rfl))
      (try simp only [Act.put, List.setIfInBounds_toArray, List.set_cons_zero, List.set_cons_succ])
      refine wpAnyH_take_d (i := 7) (some 30) (v := ?_) rfl rfl (by kernel_rfl) (by kernel_rfl) (by kernel_rfl) (fun _ _ _ h => h) (Or.inl ⟨by rfl, ?_⟩) hHeld ?_
      rotate_left
      · (intro w' hSw; (try dsimp only at hSw); go_simp; all_goals (with_reducible rfl))
      (try simp only [Act.put, List.setIfInBounds_toArray, List.set_cons_zero, List.set_cons_succ])
      refine wpAnyH_take_d (i := 8) (some 31) (v := ?_) rfl rfl (by kernel_rfl) (by kernel_rfl) (by kernel_rfl) (fun _ _ _ h => h) (Or.inl ⟨by rfl, ?_⟩) hHeld ?_
      rotate_left
      · (intro w' hSw; (try dsimp only at hSw); go_simp; all_goals (with_reducible rfl))
      (try simp only [Act.put, List.setIfInBounds_toArray, List.set_cons_zero, List.set_cons_succ])
      refine wpAnyH_take_d (i := 9) (some 32) (v := ?_) rfl rfl (by kernel_rfl) (by kernel_rfl) (by kernel_rfl) (fun _ _ _ h => h) (Or.inl ⟨by rfl, ?_⟩) hHeld ?_
      rotate_left
      · (intro w' hSw; (try dsimp only at hSw); go_simp; all_goals (with_reducible rfl))
      (try simp only [Act.put, List.setIfInBounds_toArray, List.set_cons_zero, List.set_cons_succ])
      refine wpAnyH_take_d (i := 10) (some 33) (v := ?_) rfl rfl (by kernel_rfl) (by kernel_rfl) (by kernel_rfl) (fun _ _ _ h => h) (Or.inl ⟨by rfl, ?_⟩) hHeld ?_
      rotate_left
      · (intro w' hSw; (try dsimp only at hSw); go_simp; all_goals (with_reducible rfl))
      (try simp only [Act.put, List.setIfInBounds_toArray, List.set_cons_zero, List.set_cons_succ])
      refine wpAnyH_take_d (i := 11) (some 34) (v := ?_) rfl rfl (by kernel_rfl) (by kernel_rfl) (by kernel_rfl) (fun _ _ _ h => h) (Or.inl ⟨by rfl, ?_⟩) hHeld ?_
      rotate_left
      · (intro w' hSw; (try dsimp only at hSw); go_simp; all_goals (with_reducible rfl))
      (try simp only [Act.put, List.setIfInBounds_toArray, List.set_cons_zero, List.set_cons_succ])
      refine wpAnyH_take_d (i := 12) (some 35) (v := ?_) rfl rfl (by kernel_rfl) (by kernel_rfl) (by kernel_rfl) (fun _ _ _ h => h) (Or.inl ⟨by rfl, ?_⟩) hHeld ?_
      rotate_left
      · (intro w' hSw; (try dsimp only at hSw); go_simp; all_goals (with_reducible rfl))
      (try simp only [Act.put, List.setIfInBounds_toArray, List.set_cons_zero, List.set_cons_succ])
      refine wpAnyH_ready (rs := [13]) (by kernel_rfl) (by simp) ?_
      refine AllReadyH.cons rfl (fun KQ hK => ?_) AllReadyH.nil
      go_simp
      (with_reducible refine (CT.out wr.drew (Below.refl _ _).drew).mono ?_)
      rintro e w4 ⟨j, er, hj, rfl, hjn, hb4, hl4, hor⟩
      have HL4 := Hd.mk (show Bel wr.heap.size [K.sb] wr w4 from (((show Bel wr.heap.size [] wr wr.drew from Bel.of (Below.refl wr.heap.size wr).drew).weak (S' := [K.sb]) (Nat.le_refl _) (fun x hx _ => by simp at hx)).trans hl4))
      have HE4 := Hd.mk (HE.out.scr HL4.out _ (by rw [splice_size _ _ _ (by simp; rw [HZZ.out]; omega), HZZ.out]) hb4)
      have HK4 := Hd.mk hb4
      have HOR := Hd.mk hor
      clear hb4 hl4 hor CT
      refine hK.out _ _ ?_ (fun hHeld => ?_)
      · exact ⟨HE4.out.blk.cell 1 rfl, by rw [← HTR.out]; exact HE4.out.blk.cell 2 rfl⟩
      clear hK KQ
      (try simp only [Act.put, List.setIfInBounds_toArray, List.set_cons_zero, List.set_cons_succ])
      refine wpAnyH_take_d (i := 14) (some 22) (v := ?_) rfl rfl (by kernel_rfl) (by kernel_rfl) (by kernel_rfl) (fun _ _ _ h => h) (Or.inl ⟨by rfl, ?_⟩) hHeld ?_
      rotate_left
      · (intro w' hSw; (try dsimp only at hSw); go_simp; all_goals (with_reducible rfl))
      (try simp only [Act.put, List.setIfInBounds_toArray, List.set_cons_zero, List.set_cons_succ])
      refine wpAnyH_take_d (i := 15) (some 37) (v := ?_) rfl rfl (by kernel_rfl) (by kernel_rfl) (by kernel_rfl) (fun _ _ _ h => h) (Or.inl ⟨by rfl, ?_⟩) hHeld ?_
      rotate_left
      · (intro w' hSw; (try dsimp only at hSw); go_simp; all_goals (with_reducible rfl))
      (try simp only [Act.put, List.setIfInBounds_toArray, List.set_cons_zero, List.set_cons_succ])
      refine wpAnyH_take_d (i := 16) (some 38) (v := ?_) rfl rfl (by kernel_rfl) (by kernel_rfl) (by kernel_rfl) (fun _ _ _ h => h) (Or.inl ⟨by rfl, ?_⟩) hHeld ?_
      rotate_left
      · (intro w' hSw; (try dsimp only at hSw); go_simp; all_goals (with_reducible rfl))
      (try simp only [Act.put, List.setIfInBounds_toArray, List.set_cons_zero, List.set_cons_succ])
      refine wpAnyH_take_d (i := 17) (some 39) (v := ?_) rfl rfl (by kernel_rfl) (by kernel_rfl) (by kernel_rfl) (fun _ _ _ h => h) (Or.inl ⟨by rfl, ?_⟩) hHeld ?_
      rotate_left
      · (intro w' hSw; (try dsimp only at hSw); go_simp; all_goals (with_reducible rfl))
      (try simp only [Act.put, List.setIfInBounds_toArray, List.set_cons_zero, List.set_cons_succ])
      refine wpAnyH_take_d (i := 18) (some 8) (v := ?_) rfl rfl (by kernel_rfl) (by kernel_rfl) (by kernel_rfl) (fun _ _ _ h => h) (Or.inl ⟨by rfl, ?_⟩) hHeld ?_
      rotate_left
      · (intro w' hSw; (try dsimp only at hSw); go_simp; all_goals (with_reducible rfl))
      (try simp only [Act.put, List.setIfInBounds_toArray, List.set_cons_zero, List.set_cons_succ])
      refine wpAnyH_take_d (i := 19) (some 9) (v := ?_) rfl rfl (by kernel_rfl) (by kernel_rfl) (by kernel_rfl) (fun _ _ _ h => h) (Or.inl ⟨by rfl, ?_⟩) hHeld ?_
      rotate_left
      · (intro w' hSw; (try dsimp only at hSw); go_simp; all_goals (with_reducible rfl))
      (try simp only [Act.put, List.setIfInBounds_toArray, List.set_cons_zero, List.set_cons_succ])
      refine wpAnyH_take_d (i := 20) (some 10) (v := ?_) rfl rfl (by kernel_rfl) (by kernel_rfl) (by kernel_rfl) (fun _ _ _ h => h) (Or.inl ⟨by rfl, ?_⟩) hHeld ?_
      rotate_left
      · (intro w' hSw; (try dsimp only at hSw); go_simp; all_goals (with_reducible rfl))
      (try simp only [Act.put, List.setIfInBounds_toArray, List.set_cons_zero, List.set_cons_succ])
      refine wpAnyH_done (by kernel_rfl) ?_ _
      have HH := Hd.mk hHeld
      clear hHeld e1 e2
      have KJ := Hd.mk (show (cB (F.take (k + j))).length = a + (cB ((F.drop k).take j)).length ∧ (uB (F.take (k + j))).length = m + (uB ((F.drop k).take j)).length from ⟨by rw [cB_take_add, List.length_append, HA.out], by rw [uB_take_add, List.length_append, HM.out]⟩)
      have KC := Hd.mk (cB_take_add F k j)
      have JL := Hd.mk (show (F.drop k).length = F.length - k by simp)
      have JP : 0 < j := by
        rcases Nat.eq_zero_or_pos j with h0 | h0
        · subst h0
          rcases HOR.out with ⟨h1, _⟩ | ⟨h1, h2, _⟩
          · have := JL.out; omega
          · have h3 := cB_le ((F.drop k).take (0 + 1))
            rw [List.length_take] at h3
            omega
        · exact h0
      have XP := Hd.mk (cB_pos (F := (F.drop k).take j) (by rw [List.length_take]; have := JL.out; omega))
      have YP := Hd.mk (uB_pos (F := (F.drop k).take j) (by rw [List.length_take]; have := JL.out; omega))
      have UB := Hd.mk (show m + (uB ((F.drop k).take j)).length ≤ n by
        rw [← KJ.out.2, ← LN.out, uB_split F (k + j), List.length_append]
        omega)
      have XB := Hd.mk (show a + (cB ((F.drop k).take j)).length ≤ 2 * n by
        rw [← KJ.out.1]
        have h2 := congrArg List.length (cB_split F (k + j))
        rw [List.length_append] at h2
        have := CL.out; omega)
      have HJ := Hd.mk hj
      have R4 := Hd.mk (splice_rd HK4.out (by omega))
      have CW := Hd.mk (fun (W : World) (hw : Below w4.heap.size w4 W) => W_Write K (out ++ cB (F.take k)) (cB ((F.drop k).take j)) W (HE4.out.belowE hw) (some ⟨K.sb, 0, none⟩) _ 4096 (R4.out.below hw) rfl (by rw [List.length_append, HA.out]; have := XB.out; omega))
      clear hj HK4
      obtain ⟨x, hx⟩ : ∃ x, (cB ((F.drop k).take j)).length = x := ⟨_, rfl⟩
      obtain ⟨y, hy⟩ : ∃ y, (uB ((F.drop k).take j)).length = y := ⟨_, rfl⟩
      rw [hx] at hjn KJ XP XB CW ⊢
      rw [hy] at KJ UB YP ⊢
      have ub := UB.out; have xb := XB.out; have xp := XP.out; have yp := YP.out
      clear hx hy
      have z1 : ((x : Int) == 0) = false := by simp; omega
      have z2 : (x : Int) ≤ 4096 := by omega
      go_wp2_with fail
      refine wp_region_held_drew (S := (fun W => W.cell? ⟨K.e, 0, none⟩ = some (.pointer (some ⟨K.wr, 0, none⟩)) ∧ W.cell? ⟨K.e, 1, none⟩ = some (.slice (some ⟨K.sb, 0, none⟩) 4096 4096))) (by kernel_rfl) ?_ (fun hHeld => ?_)
      · exact ⟨HE4.out.blk.cell 0 rfl, HE4.out.blk.cell 1 rfl⟩
      refine wpAnyH_take_d (i := 0) (some 43) (v := ?_) rfl rfl (by kernel_rfl) (by kernel_rfl) (by kernel_rfl) (fun _ _ _ h => h) (Or.inl ⟨by rfl, ?_⟩) hHeld ?_
      rotate_left
      · (intro w' hSw; (try dsimp only at hSw); go_simp; all_goals (with_reducible rfl))
      (try simp only [Act.put, List.setIfInBounds_toArray, List.set_cons_zero, List.set_cons_succ])
      refine wpAnyH_take_d (i := 1) (some 44) (v := ?_) rfl rfl (by kernel_rfl) (by kernel_rfl) (by kernel_rfl) (fun _ _ _ h => h) (Or.inl ⟨by rfl, ?_⟩) hHeld ?_
      rotate_left
      · (intro w' hSw; (try dsimp only at hSw); go_simp; all_goals (with_reducible rfl))
      (try simp only [Act.put, List.setIfInBounds_toArray, List.set_cons_zero, List.set_cons_succ])
      refine wpAnyH_take_d (i := 2) (some 45) (v := ?_) rfl rfl (by kernel_rfl) (by kernel_rfl) (by kernel_rfl) (fun _ _ _ h => h) (Or.inl ⟨by rfl, ?_⟩) hHeld ?_
      rotate_left
      · (intro w' hSw; (try dsimp only at hSw); go_simp; all_goals (with_reducible rfl))
      (try simp only [Act.put, List.setIfInBounds_toArray, List.set_cons_zero, List.set_cons_succ])
      refine wpAnyH_take_d (i := 3) (some 46) (v := ?_) rfl rfl (by kernel_rfl) (by kernel_rfl) (by kernel_rfl) (fun _ _ _ h => h) (Or.inl ⟨by rfl, ?_⟩) hHeld ?_
      rotate_left
      · (intro w' hSw; (try dsimp only at hSw); go_simp; all_goals (with_reducible rfl))
      (try simp only [Act.put, List.setIfInBounds_toArray, List.set_cons_zero, List.set_cons_succ])
      refine wpAnyH_take_d (i := 4) (some 47) (v := ?_) rfl rfl (by kernel_rfl) (by kernel_rfl) (by kernel_rfl) (fun _ _ _ h => h) (Or.inl ⟨by rfl, ?_⟩) hHeld ?_
      rotate_left
      · (intro w' hSw; (try dsimp only at hSw); go_simp; all_goals (with_reducible rfl))
      (try simp only [Act.put, List.setIfInBounds_toArray, List.set_cons_zero, List.set_cons_succ])
      refine wpAnyH_take_d (i := 5) (some 48) (v := ?_) rfl rfl (by kernel_rfl) (by kernel_rfl) (by kernel_rfl) (fun _ _ _ h => h) (Or.inl ⟨by rfl, ?_⟩) hHeld ?_
      rotate_left
      · (intro w' hSw; (try dsimp only at hSw); go_simp; all_goals (with_reducible rfl))
      (try simp only [Act.put, List.setIfInBounds_toArray, List.set_cons_zero, List.set_cons_succ])
      refine wpAnyH_take_d (i := 6) (some 49) (v := ?_) rfl rfl (by kernel_rfl) (by kernel_rfl) (by kernel_rfl) (fun _ _ _ h => h) (Or.inl ⟨by rfl, ?_⟩) hHeld ?_
      rotate_left
      · (intro w' hSw; (try dsimp only at hSw); go_simp; all_goals (with_reducible rfl))
      (try simp only [Act.put, List.setIfInBounds_toArray, List.set_cons_zero, List.set_cons_succ])
      refine wpAnyH_take_d (i := 7) (some 50) (v := ?_) rfl rfl (by kernel_rfl) (by kernel_rfl) (by kernel_rfl) (fun _ _ _ h => h) (Or.inl ⟨by rfl, ?_⟩) hHeld ?_
      rotate_left
      · (intro w' hSw; (try dsimp only at hSw); go_simp; all_goals (with_reducible rfl))
      (try simp only [Act.put, List.setIfInBounds_toArray, List.set_cons_zero, List.set_cons_succ])
      refine wpAnyH_take_d (i := 8) (some 51) (v := ?_) rfl rfl (by kernel_rfl) (by kernel_rfl) (by kernel_rfl) (fun _ _ _ h => h) (Or.inl ⟨by rfl, ?_⟩) hHeld ?_
      rotate_left
      · (intro w' hSw; (try dsimp only at hSw); go_simp; all_goals (with_reducible rfl))
      (try simp only [Act.put, List.setIfInBounds_toArray, List.set_cons_zero, List.set_cons_succ])
      refine wpAnyH_take_d (i := 9) (some 52) (v := ?_) rfl rfl (by kernel_rfl) (by kernel_rfl) (by kernel_rfl) (fun _ _ _ h => h) (Or.inl ⟨by rfl, ?_⟩) hHeld ?_
      rotate_left
      · (intro w' hSw; (try dsimp only at hSw); go_simp; all_goals (with_reducible rfl))
      (try simp only [Act.put, List.setIfInBounds_toArray, List.set_cons_zero, List.set_cons_succ])
      refine wpAnyH_ready (rs := [10]) (by kernel_rfl) (by simp) ?_
      refine AllReadyH.cons rfl (fun KQ hK => ?_) AllReadyH.nil
      go_simp
      (with_reducible refine (CW.out w4.drew (Below.refl _ _).drew).mono ?_)
      rintro e w5 ⟨rfl, hw5⟩
      have HW5 := Hd.mk hw5
      clear hw5 CW
      refine hK.out _ _ ?_ (fun hHeld => ?_)
      · exact ⟨HW5.out.1.blk.cell 0 rfl, HW5.out.1.blk.cell 1 rfl⟩
      clear hK KQ
      (try simp only [Act.put, List.setIfInBounds_toArray, List.set_cons_zero, List.set_cons_succ])
      refine wpAnyH_take_d (i := 11) (some 42) (v := ?_) rfl rfl (by kernel_rfl) (by kernel_rfl) (by kernel_rfl) (fun _ _ _ h => h) (Or.inl ⟨by rfl, ?_⟩) hHeld ?_
      rotate_left
      · (intro w' hSw; (try dsimp only at hSw); go_simp; all_goals (with_reducible rfl))
      (try simp only [Act.put, List.setIfInBounds_toArray, List.set_cons_zero, List.set_cons_succ])
      refine wpAnyH_take_d (i := 12) (some 54) (v := ?_) rfl rfl (by kernel_rfl) (by kernel_rfl) (by kernel_rfl) (fun _ _ _ h => h) (Or.inl ⟨by rfl, ?_⟩) hHeld ?_
      rotate_left
      · (intro w' hSw; (try dsimp only at hSw); go_simp; all_goals (with_reducible rfl))
      (try simp only [Act.put, List.setIfInBounds_toArray, List.set_cons_zero, List.set_cons_succ])
      refine wpAnyH_take_d (i := 13) (some 55) (v := ?_) rfl rfl (by kernel_rfl) (by kernel_rfl) (by kernel_rfl) (fun _ _ _ h => h) (Or.inl ⟨by rfl, ?_⟩) hHeld ?_
      rotate_left
      · (intro w' hSw; (try dsimp only at hSw); go_simp; all_goals (with_reducible rfl))
      (try simp only [Act.put, List.setIfInBounds_toArray, List.set_cons_zero, List.set_cons_succ])
      refine wpAnyH_take_d (i := 14) (some 11) (v := ?_) rfl rfl (by kernel_rfl) (by kernel_rfl) (by kernel_rfl) (fun _ _ _ h => h) (Or.inl ⟨by rfl, ?_⟩) hHeld ?_
      rotate_left
      · (intro w' hSw; (try dsimp only at hSw); go_simp; all_goals (with_reducible rfl))
      (try simp only [Act.put, List.setIfInBounds_toArray, List.set_cons_zero, List.set_cons_succ])
      refine wpAnyH_take_d (i := 15) (some 12) (v := ?_) rfl rfl (by kernel_rfl) (by kernel_rfl) (by kernel_rfl) (fun _ _ _ h => h) (Or.inl ⟨by rfl, ?_⟩) hHeld ?_
      rotate_left
      · (intro w' hSw; (try dsimp only at hSw); go_simp; all_goals (with_reducible rfl))
      (try simp only [Act.put, List.setIfInBounds_toArray, List.set_cons_zero, List.set_cons_succ])
      refine wpAnyH_done (by kernel_rfl) ?_ _
      have HH := Hd.mk hHeld
      clear hHeld
      have HB5 := Hd.mk (show Bel K.B [K.sb, K.wr] w w5 from (HB.out.trans (HL4.out.weak HE.out.le (fun z hz _ => by simp at hz; subst hz; simp))).trans (((show Bel w4.heap.size [] w4 w4.drew from Bel.of (Below.refl w4.heap.size w4).drew).weak HE4.out.le (fun z hz _ => by simp at hz)).trans HW5.out.2))
      have HE5 := Hd.mk (show Enc K w5 (out ++ cB (F.take (k + j))) from by rw [KC.out, ← List.append_assoc]; exact HW5.out.1)
      clear HW5
      rcases HOR.out with ⟨hje, rfl⟩ | ⟨hjl, hsl, rfl⟩
      · clear HOR hje
        go_wp2_with fail
        refine ⟨⟨k + j, by have := HJ.out; have := JL.out; omega, by rw [KJ.out.1]; go_num, by rw [KJ.out.2]; go_num, HE5.out, HB5.out⟩, by simp [intOf]; omega⟩
      · clear HOR hjl hsl
        have IY := Hd.mk (fun W => isShort_yes W)
        unfold shortE at IY ⊢
        go_wp2_with fail
        with_reducible refine (IY.out _).mono ?_
        rintro e w6 ⟨rfl, hb6⟩
        have HE6 := Hd.mk (HE5.out.belowE hb6)
        have HB6 := Hd.mk (show Bel K.B [K.sb, K.wr] w w6 from HB5.out.trans ((show Bel w5.heap.size [] w5 w6 from Bel.of hb6).weak HE5.out.le (fun z hz _ => by simp at hz)))
        clear hb6
        go_wp2_with fail
        refine ⟨⟨k + j, by have := HJ.out; have := JL.out; omega, by rw [KJ.out.1]; go_num, by rw [KJ.out.2]; go_num, HE6.out, HB6.out⟩, by simp [intOf]; omega⟩
    · obtain rfl : k = F.length := by omega
      have hz : (uB (F.take F.length)).length = n := by rw [List.take_length]; exact LN.out
      have he := HE.out
      rw [List.take_length] at he
      rw [hz, List.take_length]
      have FE := Hd.mk he
      clear hz he
      go_wp2_with fail
      go_ret2
      exact ⟨rfl, FE.out, HB.out⟩
end Go.Proofs.YtmgckcngedpgoaaDoor.Kb
