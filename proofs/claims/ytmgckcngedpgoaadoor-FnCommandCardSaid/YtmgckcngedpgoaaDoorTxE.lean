/- zztransform.Bytes: all of a text brought into CESU-8. -/
import Derived.Test.YtmgckcngedpgoaaDoorTxD
namespace Go.Proofs.YtmgckcngedpgoaaDoor.Kb
open Go Go.RowKit
set_option linter.unusedVariables false
set_option linter.unusedSimpArgs false
set_option maxHeartbeats 2000000
def lenOf : Value → Nat | .slice _ n _ => n | _ => 0
theorem cB_take_add (F : List Int) (k j : Nat) : cB (F.take (k + j)) = cB (F.take k) ++ cB ((F.drop k).take j) := by rw [List.take_add, cB_app]
theorem uB_take_add (F : List Int) (k j : Nat) : uB (F.take (k + j)) = uB (F.take k) ++ uB ((F.drop k).take j) := by rw [List.take_add, uB_app]
set_option maxRecDepth 100000 in
theorem bytesEnc (p g n c : Nat) (v : Value) (F : List Int) (w : World) (hp : Blk w p #[v] 139) (hsrc : Rd w [] (some ⟨g, 0, none⟩) n (uB F)) (hnc : n ≤ c) (hc : c ≤ 9223372036854775807) (hn : n ≤ 100000) (h0 : 0 < F.length) (hT : Go.Lib.Utf8Tabs 3 4 w) (hw2 : 4 + 1 ≤ w.heap.size) (hF : ∀ r ∈ F, good r) :
    Calls Tryd.prog 73 #[.iface 106 (.pointer (some ⟨p, 0, none⟩)), .slice (some ⟨g, 0, none⟩) n c] w fun e w' => BytesOf w (cB F) n e w' := by
  have RS := resetE_run p w v hp
  have CR := Hd.mk (resetN w)
  have n0 : 0 < n := by rw [← hsrc.len]; exact uB_pos h0
  have HS := Hd.mk hsrc; have HT := Hd.mk hT; have HF := Hd.mk hF; have LN := Hd.mk hsrc.len
  have CL := Hd.mk (show (cB F).length ≤ 2 * n by rw [← hsrc.len]; exact cb_le_ub F)
  clear hp hsrc hT hF
  go_enter Tryd.func73, Tryd.ntmps73
  go_wp2_with (simp only [RS])
  with_reducible refine CR.out.mono ?_
  rintro e w1 ⟨rfl, hb1⟩
  have HB1 := Hd.mk hb1
  clear hb1 CR RS
  go_wp2_with (refine wpList_make_z rfl _ _ 24 rfl 5 (.int .u8 0) 1 Tryd.underlying24 infoU8 rfl .i64 .i64 _ _ n rfl rfl rfl rfl (by omega) (by omega) ?_)
  intro w2 hb2 hl2 hs2
  have HB2 := Hd.mk (HB1.out.trans (hl2.mono HB1.out.size)); have HK2 := Hd.mk hb2; have SZ2 := Hd.mk hs2
  clear hb2 hl2 hs2
  go_wp2_with fail
  go_loopw [5, 7, 8] (fun m s a wr => ∃ (k d L : Nat) (Z : List Value), k < F.length ∧ m = .int .i64 (uB (F.take k)).length ∧ s = .slice (some ⟨d, 0, none⟩) L L ∧ a = .int .i64 (cB (F.take k)).length ∧ (cB (F.take k)).length < L ∧ L ≤ 4 * n + 16 ∧ Z.length = L ∧ Blk wr d (splice Z 0 (bc (cB (F.take k)))).toArray 5 ∧ w.heap.size ≤ d ∧ Below w.heap.size w wr) (fun _ s _ _ => (cB F).length - lenOf s)
  case atStart => exact ⟨0, _, n, zs n (.int .u8 0), h0, rfl, rfl, rfl, by simpa [cB] using n0, by omega, zs_len _ _, HK2.out.cast (by simp [cB, bc, splice_zero]), HB1.out.size, HB2.out⟩
  case round =>
    obtain ⟨k, d, L, Z, hk, rfl, rfl, rfl, hal, hL, hZ, hb, hd, hbl⟩ := hrel
    have HB := Hd.mk hb; have HL := Hd.mk hbl; have HZ := Hd.mk hZ
    clear hb hbl hZ
    have ULT := Hd.mk (show (uB (F.take k)).length < n by
      rw [← LN.out, uB_split F k, List.length_append]
      have : 0 < (uB (F.drop k)).length := uB_pos (by simp; omega)
      omega)
    have SZ := Hd.mk (show (splice Z 0 (bc (cB (F.take k)))).length = L by rw [splice_size _ _ _ (by simp; rw [HZ.out]; omega), HZ.out])
    have RD := Hd.mk (((HS.out.away hd).below HL.out).dropN (uB (F.take k)).length)
    have dlt := HB.out.lt
    obtain ⟨m, hm⟩ : ∃ m, (uB (F.take k)).length = m := ⟨_, rfl⟩
    obtain ⟨a, ha⟩ : ∃ a, (cB (F.take k)).length = a := ⟨_, rfl⟩
    rw [uB_drop, hm, Nat.zero_add] at RD
    rw [hm] at ULT
    rw [ha] at hal
    rw [hm, ha]
    have HM := Hd.mk hm; have HA := Hd.mk ha
    have ml := ULT.out
    have l1 : (m : Int) ≤ n := by omega
    have l2 : ¬ c = m := by omega
    have l3 : (a : Int) ≤ L := by omega
    have l4 : ¬ L = a := by omega
    clear hm ha
    have NA := nilE p; have ME := methE p
    have CT := Hd.mk (fun (W : World) (hw : Below wr.heap.size wr W) => encT p d a (L - a) (L - a) g m (n - m) (c - m) (splice Z 0 (bc (cB (F.take k)))) 5 (F.drop k) W (HB.out.below hw HB.out.lt) (by rw [SZ.out]; omega) (by omega) (Nat.le_refl _) (RD.out.below hw) (by omega) (tabs_below (tabs_below HT.out HL.out hw2) hw (Nat.le_trans hw2 HL.out.size)) (Nat.le_trans hw2 hd) (fun r hr => HF.out r (List.mem_of_mem_drop hr)))
    go_wp2_with fail
    refine wp_region_held_drew (S := (fun _ => True)) (by kernel_rfl) ?_ (fun hHeld => ?_)
    · exact trivial
    refine wpAnyH_take_d (i := 0) (some 19) (v := ?_) rfl rfl (by kernel_rfl) (by kernel_rfl) (by kernel_rfl) (fun _ _ _ h => h) (Or.inl ⟨by rfl, ?_⟩) hHeld ?_
    rotate_left
    · (intro w' hSw; (try dsimp only at hSw); go_simp; all_goals (with_reducible rfl))
    (try simp only [Act.put, List.setIfInBounds_toArray, List.set_cons_zero, List.set_cons_succ])
    refine wpAnyH_take_d (i := 1) (some 20) (v := ?_) rfl rfl (by kernel_rfl) (by kernel_rfl) (by kernel_rfl) (fun _ _ _ h => h) (Or.inl ⟨by rfl, ?_⟩) hHeld ?_
    rotate_left
    · (intro w' hSw; (try dsimp only at hSw); go_simp; all_goals (with_reducible rfl))
    (try simp only [Act.put, List.setIfInBounds_toArray, List.set_cons_zero, List.set_cons_succ])
    refine wpAnyH_take_d (i := 2) (some 21) (v := ?_) rfl rfl (by kernel_rfl) (by kernel_rfl) (by kernel_rfl) (fun _ _ _ h => h) (Or.inl ⟨by rfl, ?_⟩) hHeld ?_
    rotate_left
    · (intro w' hSw; (try dsimp only at hSw); go_simp; all_goals (with_reducible rfl))
    (try simp only [Act.put, List.setIfInBounds_toArray, List.set_cons_zero, List.set_cons_succ])
    refine wpAnyH_take_d (i := 3) (some 22) (v := ?_) rfl rfl (by kernel_rfl) (by kernel_rfl) (by kernel_rfl) (fun _ _ _ h => h) (Or.inl ⟨by rfl, ?_⟩) hHeld ?_
    rotate_left
    · (intro w' hSw; (try dsimp only at hSw); go_simp; all_goals (with_reducible rfl))
    (try simp only [Act.put, List.setIfInBounds_toArray, List.set_cons_zero, List.set_cons_succ])
    refine wpAnyH_take_d (i := 4) (some 23) (v := ?_) rfl rfl (by kernel_rfl) (by kernel_rfl) (by kernel_rfl) (fun _ _ _ h => h) (Or.inl ⟨by rfl, ?_⟩) hHeld ?_
    rotate_left
    · (intro w' hSw; (try dsimp only at hSw); go_simp; all_goals (with_reducible rfl))
    (try simp only [Act.put, List.setIfInBounds_toArray, List.set_cons_zero, List.set_cons_succ])
    refine wpAnyH_take_d (i := 5) (some 24) (v := ?_) rfl rfl (by kernel_rfl) (by kernel_rfl) (by kernel_rfl) (fun _ _ _ h => h) (Or.inl ⟨by rfl, ?_⟩) hHeld ?_
    rotate_left
    · (intro w' hSw; (try dsimp only at hSw); go_simp; all_goals (with_reducible rfl))
    (try simp only [Act.put, List.setIfInBounds_toArray, List.set_cons_zero, List.set_cons_succ])
    refine wpAnyH_take_d (i := 6) (some 25) (v := ?_) rfl rfl (by kernel_rfl) (by kernel_rfl) (by kernel_rfl) (fun _ _ _ h => h) (Or.inl ⟨by rfl, ?_⟩) hHeld ?_
    rotate_left
    · (intro w' hSw; (try dsimp only at hSw); go_simp; all_goals (with_reducible rfl))
    (try simp only [Act.put, List.setIfInBounds_toArray, List.set_cons_zero, List.set_cons_succ])
    refine wpAnyH_take_d (i := 7) (some 26) (v := ?_) rfl rfl (by kernel_rfl) (by kernel_rfl) (by kernel_rfl) (fun _ _ _ h => h) (Or.inl ⟨by rfl, ?_⟩) hHeld ?_
    rotate_left
    · (intro w' hSw; (try dsimp only at hSw); go_simp; all_goals (with_reducible rfl))
    (try simp only [Act.put, List.setIfInBounds_toArray, List.set_cons_zero, List.set_cons_succ])
    refine wpAnyH_take_d (i := 8) (some 27) (v := ?_) rfl rfl (by kernel_rfl) (by kernel_rfl) (by kernel_rfl) (fun _ _ _ h => h) (Or.inl ⟨by rfl, ?_⟩) hHeld ?_
    rotate_left
    · (intro w' hSw; (try dsimp only at hSw); go_simp; all_goals (with_reducible rfl))
    (try simp only [Act.put, List.setIfInBounds_toArray, List.set_cons_zero, List.set_cons_succ])
    refine wpAnyH_take_d (i := 9) (some 28) (v := ?_) rfl rfl (by kernel_rfl) (by kernel_rfl) (by kernel_rfl) (fun _ _ _ h => h) (Or.inl ⟨by rfl, ?_⟩) hHeld ?_
    rotate_left
    · (intro w' hSw; (try dsimp only at hSw); go_simp; all_goals (with_reducible rfl))
    (try simp only [Act.put, List.setIfInBounds_toArray, List.set_cons_zero, List.set_cons_succ])
    refine wpAnyH_ready (rs := [10]) (by kernel_rfl) (by simp) ?_
    refine AllReadyH.cons rfl (fun K hK => ?_) AllReadyH.nil
    go_simp
    (with_reducible refine (CT.out wr.drew (Below.refl _ _).drew).mono ?_)
    rintro e w4 ⟨j, er, hj, rfl, hjn, hb4, hl4, hor⟩
    have HB4 := Hd.mk (HL.out.trans (((Bel.of ((Below.refl wr.heap.size wr).drew.mono HL.out.size)).trans (hl4.weak (B' := w.heap.size) HL.out.size (S' := [d]) (fun x hx _ => hx))).to' (fun x hx => by simp at hx; omega)))
    have HK4 := Hd.mk hb4
    have HOR := Hd.mk hor
    clear hb4 hl4 hor CT
    refine hK.out _ _ ?_ (fun hHeld => ?_)
    · exact trivial
    clear hK K
    (try simp only [Act.put, List.setIfInBounds_toArray, List.set_cons_zero, List.set_cons_succ])
    refine wpAnyH_take_d (i := 11) (some 18) (v := ?_) rfl rfl (by kernel_rfl) (by kernel_rfl) (by kernel_rfl) (fun _ _ _ h => h) (Or.inl ⟨by rfl, ?_⟩) hHeld ?_
    rotate_left
    · (intro w' hSw; (try dsimp only at hSw); go_simp; all_goals (with_reducible rfl))
    (try simp only [Act.put, List.setIfInBounds_toArray, List.set_cons_zero, List.set_cons_succ])
    refine wpAnyH_take_d (i := 12) (some 30) (v := ?_) rfl rfl (by kernel_rfl) (by kernel_rfl) (by kernel_rfl) (fun _ _ _ h => h) (Or.inl ⟨by rfl, ?_⟩) hHeld ?_
    rotate_left
    · (intro w' hSw; (try dsimp only at hSw); go_simp; all_goals (with_reducible rfl))
    (try simp only [Act.put, List.setIfInBounds_toArray, List.set_cons_zero, List.set_cons_succ])
    refine wpAnyH_take_d (i := 13) (some 31) (v := ?_) rfl rfl (by kernel_rfl) (by kernel_rfl) (by kernel_rfl) (fun _ _ _ h => h) (Or.inl ⟨by rfl, ?_⟩) hHeld ?_
    rotate_left
    · (intro w' hSw; (try dsimp only at hSw); go_simp; all_goals (with_reducible rfl))
    (try simp only [Act.put, List.setIfInBounds_toArray, List.set_cons_zero, List.set_cons_succ])
    refine wpAnyH_take_d (i := 14) (some 32) (v := ?_) rfl rfl (by kernel_rfl) (by kernel_rfl) (by kernel_rfl) (fun _ _ _ h => h) (Or.inl ⟨by rfl, ?_⟩) hHeld ?_
    rotate_left
    · (intro w' hSw; (try dsimp only at hSw); go_simp; all_goals (with_reducible rfl))
    (try simp only [Act.put, List.setIfInBounds_toArray, List.set_cons_zero, List.set_cons_succ])
    refine wpAnyH_take_d (i := 15) (some 9) (v := ?_) rfl rfl (by kernel_rfl) (by kernel_rfl) (by kernel_rfl) (fun _ _ _ h => h) (Or.inl ⟨by rfl, ?_⟩) hHeld ?_
    rotate_left
    · (intro w' hSw; (try dsimp only at hSw); go_simp; all_goals (with_reducible rfl))
    (try simp only [Act.put, List.setIfInBounds_toArray, List.set_cons_zero, List.set_cons_succ])
    refine wpAnyH_take_d (i := 16) (some 10) (v := ?_) rfl rfl (by kernel_rfl) (by kernel_rfl) (by kernel_rfl) (fun _ _ _ h => h) (Or.inl ⟨by rfl, ?_⟩) hHeld ?_
    rotate_left
    · (intro w' hSw; (try dsimp only at hSw); go_simp; all_goals (with_reducible rfl))
    (try simp only [Act.put, List.setIfInBounds_toArray, List.set_cons_zero, List.set_cons_succ])
    refine wpAnyH_take_d (i := 17) (some 11) (v := ?_) rfl rfl (by kernel_rfl) (by kernel_rfl) (by kernel_rfl) (fun _ _ _ h => h) (Or.inl ⟨by rfl, ?_⟩) hHeld ?_
    rotate_left
    · (intro w' hSw; (try dsimp only at hSw); go_simp; all_goals (with_reducible rfl))
    (try simp only [Act.put, List.setIfInBounds_toArray, List.set_cons_zero, List.set_cons_succ])
    refine wpAnyH_done (by kernel_rfl) ?_ _
    have HH := Hd.mk hHeld
    clear hHeld
    have KJ := Hd.mk (show (cB (F.take (k + j))).length = a + (cB ((F.drop k).take j)).length ∧ (uB (F.take (k + j))).length = m + (uB ((F.drop k).take j)).length from ⟨by rw [cB_take_add, List.length_append, HA.out], by rw [uB_take_add, List.length_append, HM.out]⟩)
    have K4 := Hd.mk (show Blk w4 d (splice Z 0 (bc (cB (F.take (k + j))))).toArray 5 from HK4.out.cast (by
      have h := splice_app Z 0 (bc (cB (F.take k))) (bc (cB ((F.drop k).take j))) (by simp; rw [HA.out, HZ.out]; omega)
      have e1 : 0 + (bc (cB (F.take k))).length = a := by simp [HA.out]
      rw [e1] at h
      rw [h, cB_take_add]
      simp [bc]))
    have UB := Hd.mk (show m + (uB ((F.drop k).take j)).length ≤ n by
      rw [← KJ.out.2, ← LN.out, uB_split F (k + j), List.length_append]
      omega)
    have JL := Hd.mk (show (F.drop k).length = F.length - k by simp)
    have HJ := Hd.mk hj
    clear HK4 hj
    obtain ⟨x, hx⟩ : ∃ x, (cB ((F.drop k).take j)).length = x := ⟨_, rfl⟩
    obtain ⟨y, hy⟩ : ∃ y, (uB ((F.drop k).take j)).length = y := ⟨_, rfl⟩
    rw [hx] at hjn KJ ⊢
    rw [hy] at KJ UB ⊢
    have ub := UB.out
    clear hx hy
    rcases HOR.out with ⟨hje, rfl⟩ | ⟨hjl, hsl, rfl⟩
    · have HJE := Hd.mk (show k + j = F.length by have := JL.out; omega)
      clear hje HOR
      go_wp2_with fail
      with_reducible refine (isShort_no _).mono ?_
      rintro e w5 ⟨rfl, hb5⟩
      have HB5 := Hd.mk (HB4.out.trans (hb5.mono HB4.out.size))
      have EF := Hd.mk (show cB (F.take (k + j)) = cB F ∧ m + y = n from ⟨by rw [HJE.out, List.take_length], by
        have := KJ.out.2; rw [HJE.out, List.take_length, LN.out] at this; omega⟩)
      have K5 := Hd.mk (K4.out.below hb5 K4.out.lt)
      clear hb5 K4
      have i5 : (a : Int) + x ≤ L := by omega
      have i6 : (0 : Int) ≤ (a : Int) + x := by omega
      go_wp2_with fail
      go_ret3
      have e1 := KJ.out.1
      rw [EF.out.1] at e1
      have e2 := EF.out.2
      have k5 := K5.out
      rw [EF.out.1] at k5
      refine ⟨d, L, by rw [e1, ← e2]; simp, by rw [e1]; omega, by unfold maxLen; omega, splice_rd k5 (by rw [e1]; omega), hd, HB5.out⟩
    · have HSL := Hd.mk hsl; have HJL := Hd.mk hjl
      clear hsl hjl HOR
      obtain ⟨b, hb⟩ : ∃ b : Nat, a + x = b := ⟨_, rfl⟩
      obtain ⟨z, hz⟩ : ∃ z : Nat, m + y = z := ⟨_, rfl⟩
      have e1 := KJ.out.1
      rw [hb] at e1
      have e2 := KJ.out.2
      rw [hz] at e2
      have E1 := Hd.mk e1; have E2 := Hd.mk e2
      have q1 : (a : Int) + x = b := by omega
      have q2 : (m : Int) + y = z := by omega
      have q3 : b ≤ L := by omega
      have q4 : z ≤ n := by omega
      have LT := Hd.mk (show L < (cB F).length by
        have h1 := HSL.out
        have h2 := cB_split F (k + (j + 1))
        have h3 := congrArg List.length h2
        rw [List.length_append, cB_take_add, List.length_append, HA.out] at h3
        omega)
      go_wp2_with fail
      clear e1 e2
      with_reducible refine (isShort_yes _).mono ?_
      rintro e w5 ⟨rfl, hb5⟩
      have HB5 := Hd.mk (HB4.out.trans (hb5.mono HB4.out.size))
      have K5 := Hd.mk (K4.out.below hb5 K4.out.lt)
      clear hb5 K4 q1 q2
      go_wp2_with (refine wpList_make_z rfl _ _ 24 rfl 5 (.int .u8 0) 1 Tryd.underlying24 infoU8 rfl .i64 .i64 _ _ (2 * L + 16) rfl rfl (by simp) (by simp) (by omega) (by omega) ?_)
      intro w6 hb6 hl6 hs6
      have HB6 := Hd.mk (HB5.out.trans (hl6.mono HB5.out.size)); have HK6 := Hd.mk hb6; have K6 := Hd.mk (K5.out.below hl6 K5.out.lt)
      have DLE := Hd.mk (show w.heap.size ≤ w5.heap.size from HB5.out.size)
      clear hb6 hl6
      have i5 : (b : Int) ≤ L := by omega
      have HQ := Hd.mk (fun q v (hq : (bc (cB (F.take (k + j))))[q]? = some v) => (show w6.cell? ((⟨d, 0, none⟩ : Addr).add q) = some v from K6.out.cellz q (by
        have hlt := (List.getElem?_eq_some_iff.1 hq).1
        simp only [List.getElem?_toArray, splice, List.take_zero, List.nil_append]
        rw [List.getElem?_append_left hlt]
        exact hq)))
      have QL := Hd.mk (show (bc (cB (F.take (k + j)))).length = Nat.min b (2 * L + 16) by
        rw [List.length_map, E1.out]; exact (Nat.min_eq_left (by omega)).symm)
      go_wp2_with (refine wpList_copy_at rfl _ _ _ _ rfl 5 Tryd.underlying24 (by kernel_rfl) (some ⟨w5.heap.size, 0, none⟩) (some ⟨d, 0, none⟩) (2 * L + 16) (2 * L + 16) b L rfl rfl w5.heap.size (zs (2 * L + 16) (.int .u8 0)) 5 HK6.out (bc (cB (F.take (k + j)))) QL.out (fun _ => ⟨rfl, _, rfl, HQ.out⟩) (by rw [zs_len, List.length_map, E1.out]; omega) (by simp [bc, Value.oneCell']) ?_)
      intro w7 hb7 hl7
      have HB7 := Hd.mk (HB6.out.trans ((hl7.weak (by have := HB5.out.size; omega) (S' := [w5.heap.size]) (fun x hx _ => hx)).to' (fun x hx => by simp at hx; subst hx; exact DLE.out)))
      have K7 := Hd.mk hb7
      clear hb7 hl7
      go_wp2_with fail
      exact ⟨⟨k + j, w5.heap.size, 2 * L + 16, zs (2 * L + 16) (.int .u8 0), by have := JL.out; have := HJL.out; omega, by rw [E2.out], rfl, by rw [E1.out], by rw [E1.out]; omega, by have := LT.out; have := CL.out; omega, zs_len _ _, K7.out, DLE.out, HB7.out⟩, by have := LT.out; simp only [lenOf]; omega⟩
set_option maxRecDepth 100000 in
theorem bytesEnc_nil (p g c : Nat) (v : Value) (w : World) (hp : Blk w p #[v] 139) (hsrc : Rd w [] (some ⟨g, 0, none⟩) 0 (uB [])) (hc : c ≤ 9223372036854775807) (hT : Go.Lib.Utf8Tabs 3 4 w) (hw2 : 4 + 1 ≤ w.heap.size) :
    Calls Tryd.prog 73 #[.iface 106 (.pointer (some ⟨p, 0, none⟩)), .slice (some ⟨g, 0, none⟩) 0 c] w fun e w' => BytesOf w (cB []) 0 e w' := by
  have RS := resetE_run p w v hp
  have CR := Hd.mk (resetN w)
  have HS := Hd.mk hsrc; have HT := Hd.mk hT
  clear hp hsrc hT
  go_enter Tryd.func73, Tryd.ntmps73
  go_wp2_with (simp only [RS])
  with_reducible refine CR.out.mono ?_
  rintro e w1 ⟨rfl, hb1⟩
  have HB1 := Hd.mk hb1
  clear hb1 CR RS
  go_wp2_with (refine wpList_make_z rfl _ _ 24 rfl 5 (.int .u8 0) 1 Tryd.underlying24 infoU8 rfl .i64 .i64 _ _ 0 rfl rfl rfl rfl (by omega) (by omega) ?_)
  intro w2 hb2 hl2 hs2
  have HB2 := Hd.mk (HB1.out.trans (hl2.mono HB1.out.size)); have HK2 := Hd.mk hb2; have SZ2 := Hd.mk hs2
  clear hb2 hl2 hs2
  go_wp2_with fail
  go_loopw [5, 7, 8] (fun m s a wr => m = .int .i64 0 ∧ s = .slice (some ⟨w1.heap.size, 0, none⟩) 0 0 ∧ a = .int .i64 0 ∧ wr = w2) (fun _ _ _ _ => 0)
  case atStart => exact ⟨rfl, rfl, rfl, rfl⟩
  case round =>
    obtain ⟨rfl, rfl, rfl, rfl⟩ := hrel
    have NA := nilE p; have ME := methE p
    go_wp2_with fail
    refine wp_region_held_drew (S := (fun _ => True)) (by kernel_rfl) ?_ (fun hHeld => ?_)
    · exact trivial
    refine wpAnyH_take_d (i := 0) (some 19) (v := ?_) rfl rfl (by kernel_rfl) (by kernel_rfl) (by kernel_rfl) (fun _ _ _ h => h) (Or.inl ⟨by rfl, ?_⟩) hHeld ?_
    rotate_left
    · (intro w' hSw; (try dsimp only at hSw); go_simp; all_goals (with_reducible rfl))
    (try simp only [Act.put, List.setIfInBounds_toArray, List.set_cons_zero, List.set_cons_succ])
    refine wpAnyH_take_d (i := 1) (some 20) (v := ?_) rfl rfl (by kernel_rfl) (by kernel_rfl) (by kernel_rfl) (fun _ _ _ h => h) (Or.inl ⟨by rfl, ?_⟩) hHeld ?_
    rotate_left
    · (intro w' hSw; (try dsimp only at hSw); go_simp; all_goals (with_reducible rfl))
    (try simp only [Act.put, List.setIfInBounds_toArray, List.set_cons_zero, List.set_cons_succ])
    refine wpAnyH_take_d (i := 2) (some 21) (v := ?_) rfl rfl (by kernel_rfl) (by kernel_rfl) (by kernel_rfl) (fun _ _ _ h => h) (Or.inl ⟨by rfl, ?_⟩) hHeld ?_
    rotate_left
    · (intro w' hSw; (try dsimp only at hSw); go_simp; all_goals (with_reducible rfl))
    (try simp only [Act.put, List.setIfInBounds_toArray, List.set_cons_zero, List.set_cons_succ])
    refine wpAnyH_take_d (i := 3) (some 22) (v := ?_) rfl rfl (by kernel_rfl) (by kernel_rfl) (by kernel_rfl) (fun _ _ _ h => h) (Or.inl ⟨by rfl, ?_⟩) hHeld ?_
    rotate_left
    · (intro w' hSw; (try dsimp only at hSw); go_simp; all_goals (with_reducible rfl))
    (try simp only [Act.put, List.setIfInBounds_toArray, List.set_cons_zero, List.set_cons_succ])
    refine wpAnyH_take_d (i := 4) (some 23) (v := ?_) rfl rfl (by kernel_rfl) (by kernel_rfl) (by kernel_rfl) (fun _ _ _ h => h) (Or.inl ⟨by rfl, ?_⟩) hHeld ?_
    rotate_left
    · (intro w' hSw; (try dsimp only at hSw); go_simp; all_goals (with_reducible rfl))
    (try simp only [Act.put, List.setIfInBounds_toArray, List.set_cons_zero, List.set_cons_succ])
    refine wpAnyH_take_d (i := 5) (some 24) (v := ?_) rfl rfl (by kernel_rfl) (by kernel_rfl) (by kernel_rfl) (fun _ _ _ h => h) (Or.inl ⟨by rfl, ?_⟩) hHeld ?_
    rotate_left
    · (intro w' hSw; (try dsimp only at hSw); go_simp; all_goals (with_reducible rfl))
    (try simp only [Act.put, List.setIfInBounds_toArray, List.set_cons_zero, List.set_cons_succ])
    refine wpAnyH_take_d (i := 6) (some 25) (v := ?_) rfl rfl (by kernel_rfl) (by kernel_rfl) (by kernel_rfl) (fun _ _ _ h => h) (Or.inl ⟨by rfl, ?_⟩) hHeld ?_
    rotate_left
    · (intro w' hSw; (try dsimp only at hSw); go_simp; all_goals (with_reducible rfl))
    (try simp only [Act.put, List.setIfInBounds_toArray, List.set_cons_zero, List.set_cons_succ])
    refine wpAnyH_take_d (i := 7) (some 26) (v := ?_) rfl rfl (by kernel_rfl) (by kernel_rfl) (by kernel_rfl) (fun _ _ _ h => h) (Or.inl ⟨by rfl, ?_⟩) hHeld ?_
    rotate_left
    · (intro w' hSw; (try dsimp only at hSw); go_simp; all_goals (with_reducible rfl))
    (try simp only [Act.put, List.setIfInBounds_toArray, List.set_cons_zero, List.set_cons_succ])
    refine wpAnyH_take_d (i := 8) (some 27) (v := ?_) rfl rfl (by kernel_rfl) (by kernel_rfl) (by kernel_rfl) (fun _ _ _ h => h) (Or.inl ⟨by rfl, ?_⟩) hHeld ?_
    rotate_left
    · (intro w' hSw; (try dsimp only at hSw); go_simp; all_goals (with_reducible rfl))
    (try simp only [Act.put, List.setIfInBounds_toArray, List.set_cons_zero, List.set_cons_succ])
    refine wpAnyH_take_d (i := 9) (some 28) (v := ?_) rfl rfl (by kernel_rfl) (by kernel_rfl) (by kernel_rfl) (fun _ _ _ h => h) (Or.inl ⟨by rfl, ?_⟩) hHeld ?_
    rotate_left
    · (intro w' hSw; (try dsimp only at hSw); go_simp; all_goals (with_reducible rfl))
    (try simp only [Act.put, List.setIfInBounds_toArray, List.set_cons_zero, List.set_cons_succ])
    refine wpAnyH_ready (rs := [10]) (by kernel_rfl) (by simp) ?_
    refine AllReadyH.cons rfl (fun K hK => ?_) AllReadyH.nil
    go_simp
    (with_reducible refine (encT p w1.heap.size 0 0 0 g 0 0 c (zs 0 (.int .u8 0)) 5 [] wr.drew HK2.out.drew (by simp) (by omega) (Nat.le_refl _) ((HS.out.away HB1.out.size).below (HB2.out.drew)) (Nat.zero_le _) (tabs_below HT.out HB2.out.drew hw2) (by have := HB1.out.size; omega) (by simp)).mono ?_)
    rintro e w4 ⟨j, er, hj, rfl, hjn, hb4, hl4, hor⟩
    have j0 : j = 0 := by simpa using hj
    subst j0
    have er0 : er = .nilIface := by rcases hor with ⟨_, h⟩ | ⟨h, _⟩; exact h; simp at h
    subst er0
    have HB4 := Hd.mk (show Below w.heap.size w w4 from ((Bel.of HB2.out.drew).trans (hl4.weak HB2.out.size (fun x hx hlt => by simp at hx; have := HB1.out.size; omega))).to)
    have HR4 := Hd.mk (show Rd w4 [] (some ⟨w1.heap.size, 0, none⟩) 0 (cB []) from splice_rd (xs := cB []) hb4 (by simp [cB]))
    have HG := Hd.mk HB1.out.size
    simp only [List.take_nil, show (cB []).length = 0 from rfl, show (uB []).length = 0 from rfl]
    clear hb4 hl4 hor hjn hj
    refine hK.out _ _ ?_ (fun hHeld => ?_)
    · exact trivial
    clear hK K
    (try simp only [Act.put, List.setIfInBounds_toArray, List.set_cons_zero, List.set_cons_succ])
    refine wpAnyH_take_d (i := 11) (some 18) (v := ?_) rfl rfl (by kernel_rfl) (by kernel_rfl) (by kernel_rfl) (fun _ _ _ h => h) (Or.inl ⟨by rfl, ?_⟩) hHeld ?_
    rotate_left
    · (intro w' hSw; (try dsimp only at hSw); go_simp; all_goals (with_reducible rfl))
    (try simp only [Act.put, List.setIfInBounds_toArray, List.set_cons_zero, List.set_cons_succ])
    refine wpAnyH_take_d (i := 12) (some 30) (v := ?_) rfl rfl (by kernel_rfl) (by kernel_rfl) (by kernel_rfl) (fun _ _ _ h => h) (Or.inl ⟨by rfl, ?_⟩) hHeld ?_
    rotate_left
    · (intro w' hSw; (try dsimp only at hSw); go_simp; all_goals (with_reducible rfl))
    (try simp only [Act.put, List.setIfInBounds_toArray, List.set_cons_zero, List.set_cons_succ])
    refine wpAnyH_take_d (i := 13) (some 31) (v := ?_) rfl rfl (by kernel_rfl) (by kernel_rfl) (by kernel_rfl) (fun _ _ _ h => h) (Or.inl ⟨by rfl, ?_⟩) hHeld ?_
    rotate_left
    · (intro w' hSw; (try dsimp only at hSw); go_simp; all_goals (with_reducible rfl))
    (try simp only [Act.put, List.setIfInBounds_toArray, List.set_cons_zero, List.set_cons_succ])
    refine wpAnyH_take_d (i := 14) (some 32) (v := ?_) rfl rfl (by kernel_rfl) (by kernel_rfl) (by kernel_rfl) (fun _ _ _ h => h) (Or.inl ⟨by rfl, ?_⟩) hHeld ?_
    rotate_left
    · (intro w' hSw; (try dsimp only at hSw); go_simp; all_goals (with_reducible rfl))
    (try simp only [Act.put, List.setIfInBounds_toArray, List.set_cons_zero, List.set_cons_succ])
    refine wpAnyH_take_d (i := 15) (some 9) (v := ?_) rfl rfl (by kernel_rfl) (by kernel_rfl) (by kernel_rfl) (fun _ _ _ h => h) (Or.inl ⟨by rfl, ?_⟩) hHeld ?_
    rotate_left
    · (intro w' hSw; (try dsimp only at hSw); go_simp; all_goals (with_reducible rfl))
    (try simp only [Act.put, List.setIfInBounds_toArray, List.set_cons_zero, List.set_cons_succ])
    refine wpAnyH_take_d (i := 16) (some 10) (v := ?_) rfl rfl (by kernel_rfl) (by kernel_rfl) (by kernel_rfl) (fun _ _ _ h => h) (Or.inl ⟨by rfl, ?_⟩) hHeld ?_
    rotate_left
    · (intro w' hSw; (try dsimp only at hSw); go_simp; all_goals (with_reducible rfl))
    (try simp only [Act.put, List.setIfInBounds_toArray, List.set_cons_zero, List.set_cons_succ])
    refine wpAnyH_take_d (i := 17) (some 11) (v := ?_) rfl rfl (by kernel_rfl) (by kernel_rfl) (by kernel_rfl) (fun _ _ _ h => h) (Or.inl ⟨by rfl, ?_⟩) hHeld ?_
    rotate_left
    · (intro w' hSw; (try dsimp only at hSw); go_simp; all_goals (with_reducible rfl))
    (try simp only [Act.put, List.setIfInBounds_toArray, List.set_cons_zero, List.set_cons_succ])
    refine wpAnyH_done (by kernel_rfl) ?_ _
    have HL := Hd.mk hHeld
    clear hHeld
    go_wp2_with fail
    with_reducible refine (isShort_no _).mono ?_
    rintro e w5 ⟨rfl, hb5⟩
    have HB5 := Hd.mk (HB4.out.trans (hb5.mono HB4.out.size))
    have HR5 := Hd.mk (HR4.out.below hb5)
    clear hb5
    go_wp2_with fail
    go_ret3
    exact ⟨w1.heap.size, 0, rfl, Nat.le_refl _, by decide, HR5.out, HG.out, HB5.out⟩
end Go.Proofs.YtmgckcngedpgoaaDoor.Kb
