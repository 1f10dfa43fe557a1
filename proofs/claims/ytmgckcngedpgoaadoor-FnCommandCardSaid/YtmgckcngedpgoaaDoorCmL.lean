/- FnCommand: a command as bytes of CESU-8, and read back. -/
import Derived.Test.YtmgckcngedpgoaaDoorCmO
import Derived.Test.YtmgckcngedpgoaaDoorTxH
import Derived.Laws.IdiomStrings
namespace Go.Proofs.YtmgckcngedpgoaaDoor.Kb
open Go Go.RowKit
set_option linter.unusedVariables false
set_option linter.unusedSimpArgs false
set_option maxHeartbeats 2000000
theorem runes_ints (s : ByteArray) : ∀ (b i : Nat) (acc : Array Value) (ys : List Int), acc.toList = ys.map (Value.int .i32) → ∃ zs : List Int, (Conv.runesFrom s b i acc).toList = zs.map (Value.int .i32)
  | 0, _, acc, ys, h => ⟨ys, by simpa [Conv.runesFrom] using h⟩
  | b + 1, i, acc, ys, h => by
    unfold Conv.runesFrom
    split
    · exact runes_ints s b _ _ (ys ++ [Int.ofNat (Utf8.decode s i).1]) (by rw [Array.toList_push, h, List.map_append]; rfl)
    · exact ⟨ys, h⟩
/-- []rune(s). -/
theorem runes_of {P : Program} (w : World) (src dst e : TypeId) (s : ByteArray) (hz : s.size ≤ 2147483647) (hs : P.underlying src = some .string) (hd : P.underlying dst = some (.slice e)) (he : P.underlying e = some (.int .i32)) :
    ∃ m c w' xs, (convert src dst (.string s)).run P w = .ok (.slice (some ⟨w.heap.size, 0, none⟩) m c) w' ∧ m ≤ 2147483647 ∧ m ≤ c ∧ c ≤ maxLen ∧ RdI w' (some ⟨w.heap.size, 0, none⟩) m xs ∧ Below w.heap.size w w' := by
  have hm := size_runesFrom s s.size 0 #[]
  simp at hm
  obtain ⟨xs, hx⟩ := runes_ints s s.size 0 #[] [] rfl
  have hl : xs.length = (Conv.runesFrom s s.size 0 #[]).size := by rw [← Array.length_toList, hx, List.length_map]
  refine ⟨_, _, _, xs, run_runes_of_string w src dst e s hs hd he (by omega), by omega, grownCap_ge _ _ _ _, grownCap_le_maxLen _ _ _ _ (by unfold maxLen; omega), ⟨hl, fun j hj => ⟨_, rfl, ?_, by simp⟩⟩, ((Below.refl _ _).drew).alloc (by simp) _⟩
  have hb := Blk.new w.drew (Conv.runesFrom s s.size 0 #[] ++ Array.replicate (grownCap w (Conv.runesFrom s s.size 0 #[]).size 0 e - (Conv.runesFrom s s.size 0 #[]).size) (Value.int .i32 0)) e
  refine hb.cellz j ?_
  rw [Array.getElem?_append_left (by omega), ← Array.getElem?_toList, hx]
  simp [hj]
theorem same_runT {P : Program} {T t : TypeId} (w : World) (cs : Array Value) (n c : Nat) (hs : P.underlying T = some (.slice t)) (he : P.underlying t = some (.int .u8)) :
    ∃ w', (convert T T (.slice (some ⟨w.heap.size, 0, none⟩) n c)).run P (w.alloc (.cells cs t)) = .ok (.slice (some ⟨w.heap.size, 0, none⟩) n c) w' ∧ w'.heap[w.heap.size]? = some (.cells cs t (cs.size, cs.size + 1)) ∧ w'.heap.size = w.heap.size + 1 ∧ Below w.heap.size w w' := by
  have hsh : (w.alloc (.cells cs t)).shape? w.heap.size = some (t, cs.size) := by
    simp [World.shape?, World.alloc, -World.alloc_eq]
  refine ⟨(w.alloc (.cells cs t)).freeze ⟨w.heap.size, cs.size, none⟩ 1, ?_, ?_, ?_, ?_⟩
  · simp [convert, run_underlying hs, run_underlying he, markStringish, hsh, Result.andThen]
  · simp [World.freeze, World.alloc, -World.alloc_eq]
    rw [Array.getElem_modify_self]
    simp
  · simp [World.freeze, World.alloc, -World.alloc_eq]
  · refine ⟨rfl, rfl, rfl, by simp [World.freeze, World.alloc, -World.alloc_eq], fun k hk => ?_⟩
    have h1 : w.heap.size ≠ k := by omega
    simp [World.freeze, World.alloc, -World.alloc_eq, Array.getElem?_modify, Array.getElem?_push, h1, Ne.symm h1]
theorem fit_good (xs : List Int) : ∀ r ∈ xs.map fit1, good r := by
  intro r hr
  obtain ⟨x, _, rfl⟩ := List.mem_map.1 hr
  exact fit1_ok x
set_option maxRecDepth 100000 in
theorem law_command (s : ByteArray) (w : World) (hs : s.size ≤ 2147483647) (hT : Go.Lib.Utf8Tabs 3 4 w) (hw2 : 4 + 1 ≤ w.heap.size) :
    Calls Tryd.prog 4 #[.string s] w fun e w' => e = .returned (.bool true) ∧ Below w.heap.size w w' := by
  have i1 : ¬ (2147483647 : Int) < s.size := by omega
  have HT := Hd.mk hT
  obtain ⟨m, c, w1, xs, hcv, m1, m2, m3, hr1, hb1⟩ := runes_of (P := Tryd.prog) w 9 35 21 s hs Tryd.underlying9 Tryd.underlying35 Tryd.underlying21
  have C := Hd.mk (ceFit _ m c xs w1 m1 hr1)
  have XL := Hd.mk hr1.len
  have B1 := Hd.mk hb1
  clear hT hr1 hb1
  go_enter Tryd.func4, Tryd.ntmps4
  go_wp2_with fail
  with_reducible refine C.out.mono ?_
  rintro e w2 ⟨v, rfl, hown, hb2⟩
  obtain ⟨A1, c1, rfl, k1, k2, hr2⟩ := own_rdi hown
  have B2 := Hd.mk (B1.out.trans (hb2.mono B1.out.size))
  have K1 := Hd.mk k1
  obtain ⟨q, hq⟩ : ∃ q : Nat, m ≤ 1000 ∧ q = m ∨ 1000 < m ∧ q = 1000 := by
    by_cases h : m ≤ 1000
    · exact ⟨m, .inl ⟨h, rfl⟩⟩
    · exact ⟨1000, .inr ⟨by omega, rfl⟩⟩
  have hmi : min (m : Int) 1000 = q := by omega
  have hqm : q ≤ m := by omega
  have hq1000 : q ≤ 1000 := by omega
  have R2 := Hd.mk (hr2.part q hqm)
  have hgood := fit_good xs
  have HGD := Hd.mk (show ∀ r ∈ (xs.map fit1).take q, good r from fun r h => hgood r (List.mem_of_mem_take h))
  have FL := Hd.mk (show ((xs.map fit1).take q).length = q by rw [List.length_take, List.length_map, XL.out]; exact Nat.min_eq_left hqm)
  obtain ⟨F, hF⟩ : ∃ F, (xs.map fit1).take q = F := ⟨_, rfl⟩
  rw [hF] at R2 HGD FL
  have hqc : (q : Int) ≤ c1 := by omega
  have k2' : c1 ≤ 9223372036854775807 := k2
  clear hown hb2 hr2 hgood hF C hcv k1 k2
  have s1 := runes_run (P := Tryd.prog) (src := 35) (dst := 9) (c := c1) Tryd.underlying35 Tryd.underlying21 Tryd.underlying9 R2.out
  have RU := Hd.mk (nums_runes (fun r h => (HGD.out r h).v)); have SU := Hd.mk (size_uB (fun r h => (HGD.out r h).v))
  have ul := Hd.mk (uB_le F); have cl := Hd.mk (cB_le F)
  have ulo := ul.out; have clo := cl.out; have flo := FL.out
  obtain ⟨c3, w3, s2, z1, z2, hr3, hb3⟩ := bytes_run (P := Tryd.prog) (src := 9) (dst := 24) w2 (runesBytes F) (by rw [SU.out]; omega) Tryd.underlying9 Tryd.underlying24 Tryd.underlying5
  rw [RU.out, SU.out] at hr3
  rw [SU.out] at z1
  rw [SU.out] at s2
  have B3 := Hd.mk (B2.out.trans (hb3.mono B2.out.size))
  have R3 := Hd.mk hr3; have R23 := Hd.mk (R2.out.below hb3)
  have T3 := Hd.mk (tabs_below HT.out B3.out hw2)
  have Z1 := Hd.mk z1
  have c3' : c3 ≤ 9223372036854775807 := z2
  have C1 := Hd.mk (cmdBytes w2.heap.size _ c3 F w3 hr3 z1 c3' (by omega) T3.out (Nat.le_trans hw2 B3.out.size) HGD.out)
  obtain ⟨nu, hnu⟩ : ∃ nu, (uB F).length = nu := ⟨_, rfl⟩
  rw [hnu] at C1 s2 R3 ulo
  have HNU := Hd.mk hnu
  clear hr3 hb3 z1 z2 hnu
  go_wp2_with fail
  with_reducible refine C1.out.mono ?_
  rintro e w4 ⟨v4, rfl, hm4⟩
  obtain ⟨A4, c4, he4, k1, k2, hr4, _, _, hb4⟩ := hm4.rd (by omega)
  cases he4
  have B4 := Hd.mk (B3.out.trans (hb4.mono B3.out.size))
  have T4 := Hd.mk (tabs_below HT.out B4.out hw2)
  have R4 := Hd.mk hr4; have R24 := Hd.mk (R23.out.below hb4)
  have C2 := Hd.mk (cmdOf A4 _ c4 F w4 hr4 k1 k2 (by omega) T4.out (Nat.le_trans hw2 B4.out.size) HGD.out)
  obtain ⟨nc, hnc⟩ : ∃ nc, (cB F).length = nc := ⟨_, rfl⟩
  rw [hnc] at C2 R4 clo ⊢
  have HNC := Hd.mk hnc
  clear hm4 k1 k2 hr4 hb4 C1 hnc
  go_wp2_with fail
  with_reducible refine C2.out.mono ?_
  rintro e w5 ⟨v5, rfl, hm5⟩
  obtain ⟨A5, c5, he5, k1, k2, hr5, _, _, hb5⟩ := hm5.rd (by rw [HNU.out]; omega)
  cases he5
  have B5 := Hd.mk (B4.out.trans (hb5.mono B4.out.size))
  have R45 := Hd.mk (R4.out.below hb5); have R25 := Hd.mk (R24.out.below hb5); have R5 := Hd.mk hr5
  obtain ⟨w6, hcv, hcell, hsz, hb6⟩ := same_runT (P := Tryd.prog) (T := 24) (t := 5) w5 #[.int .u8 97] 1 1 Tryd.underlying24 Tryd.underlying5
  have hrd0 : Rd w6 [] (some ⟨w5.heap.size, 0, none⟩) 1 [97] := ⟨rfl, by decide, fun j hj => ⟨_, rfl, by
    have : j = 0 := by simp at hj; exact hj
    subst this
    show w6.cell? ⟨w5.heap.size, 0, none⟩ = _
    simp [World.cell?, hcell], by rw [hsz]; exact Nat.lt_succ_self _, by simp⟩⟩
  have hrd : Rd w6 [] (some ⟨w5.heap.size, 0, none⟩) 1 (uB [97]) := by rw [show uB [97] = [97] by decide]; exact hrd0
  have B6 := Hd.mk (B5.out.trans (hb6.mono B5.out.size))
  have T6 := Hd.mk (tabs_below HT.out B6.out hw2)
  have C5 := Hd.mk (cmdBytes w5.heap.size 1 1 [97] w6 hrd (Nat.le_refl _) (by decide) (by decide) T6.out (Nat.le_trans hw2 B6.out.size) (by simp [good]))
  have e1 : cB [97] = [97] := by decide
  rw [e1] at C5
  have R46 := Hd.mk (R45.out.below hb6); have R26 := Hd.mk (R25.out.below hb6); have R56 := Hd.mk (R5.out.below hb6)
  rw [HNU.out]
  rw [HNU.out] at R56
  clear hrd hrd0 hcell hsz hb6 e1 hm5 hr5 k1 k2 hb5 C2
  go_wp2_with fail
  with_reducible refine C5.out.mono ?_
  rintro e w7 ⟨v7, rfl, hm7⟩
  obtain ⟨A7, c7, he7, _, _, hr7, _, _, hb7⟩ := hm7.rd (by decide)
  cases he7
  have B7 := Hd.mk (B6.out.trans (hb7.mono B6.out.size))
  have R47 := Hd.mk (R46.out.below hb7); have R27 := Hd.mk (R26.out.below hb7); have R57 := Hd.mk (R56.out.below hb7); have R7 := Hd.mk (show Rd w7 [] A7 1 [97] from hr7)
  have CT := Hd.mk (fun (W : World) (hw : Below w7.heap.size w7 W) => ceText A1 q c1 F W (R27.out.below hw) (by omega) HGD.out)
  have SF := Hd.mk (str_uB (fun r h => (HGD.out r h).v))
  obtain ⟨sc, hsc⟩ : ∃ sc, strOfNums (cB F) = sc := ⟨_, rfl⟩
  have HSC := Hd.mk hsc
  have hv97 : strOfNums [97] = (⟨#[97]⟩ : ByteArray) := by decide
  have H97 := Hd.mk hv97
  clear hm7 hr7 hb7 C5 hsc s1 s2 hcv hv97
  go_wp2_with fail
  refine wp_region_held_drew (S := (fun W => Below w7.heap.size w7 W)) (by kernel_rfl) ?_ (fun hHeld => ?_)
  · exact (Below.refl _ _).drew
  refine wpAnyH_take_d (i := 0) (some 45) (v := ?_) rfl rfl (by kernel_rfl) (by kernel_rfl) (by kernel_rfl) (fun _ _ _ h => h) (Or.inl ⟨by rfl, ?_⟩) hHeld ?_
  rotate_left
  · (intro w' hSw; (try dsimp only at hSw); go_simp; all_goals (with_reducible rfl))
  (try simp only [Act.put, List.setIfInBounds_toArray, List.set_cons_zero, List.set_cons_succ])
  refine wpAnyH_take_d (i := 1) (some 46) (v := ?_) rfl rfl (by kernel_rfl) (by kernel_rfl) (by kernel_rfl) (fun _ _ _ h => h) (Or.inl ⟨by rfl, ?_⟩) hHeld ?_
  rotate_left
  · (intro w' hSw; (try dsimp only at hSw); go_simp; all_goals (with_reducible rfl))
  (try simp only [Act.put, List.setIfInBounds_toArray, List.set_cons_zero, List.set_cons_succ])
  refine wpAnyH_take_d (i := 2) (some 47) (v := ?_) rfl rfl (by kernel_rfl) (by kernel_rfl) (by kernel_rfl) (fun _ _ _ h => h) (Or.inl ⟨by rfl, ?_⟩) hHeld ?_
  rotate_left
  · (intro w' hSw; (try dsimp only at hSw); go_simp; all_goals (with_reducible rfl))
  (try simp only [Act.put, List.setIfInBounds_toArray, List.set_cons_zero, List.set_cons_succ])
  refine wpAnyH_take_d (i := 3) (some 48) (v := ?_) rfl rfl (by kernel_rfl) (by kernel_rfl) (by kernel_rfl) (fun _ _ _ h => h) (Or.inl ⟨by rfl, ?_⟩) hHeld ?_
  rotate_left
  · (intro w' hSw; (try dsimp only at hSw); go_simp; all_goals (with_reducible rfl))
  (try simp only [Act.put, List.setIfInBounds_toArray, List.set_cons_zero, List.set_cons_succ])
  refine wpAnyH_take_d (i := 4) (some 49) (v := ?_) rfl rfl (by kernel_rfl) (by kernel_rfl) (by kernel_rfl) (fun _ _ _ h => h) (Or.inl ⟨by rfl, ?_⟩) hHeld ?_
  rotate_left
  · (intro w' hSw; (try dsimp only at hSw); go_simp; all_goals (with_reducible rfl))
  (try simp only [Act.put, List.setIfInBounds_toArray, List.set_cons_zero, List.set_cons_succ])
  refine wpAnyH_take_d (i := 5) (some 50) (v := ?_) rfl rfl (by kernel_rfl) (by kernel_rfl) (by kernel_rfl) (fun _ _ _ h => h) (Or.inl ⟨by rfl, ?_⟩) hHeld ?_
  rotate_left
  · (intro w' hSw; (try dsimp only at hSw); go_simp; all_goals (with_reducible rfl))
  (try simp only [Act.put, List.setIfInBounds_toArray, List.set_cons_zero, List.set_cons_succ])
  refine wpAnyH_take_d (i := 6) (some 51) (v := ?_) rfl rfl (by kernel_rfl) (by kernel_rfl) (by kernel_rfl) (fun _ _ _ h => h) (Or.inl ⟨by rfl, ?_⟩) hHeld ?_
  rotate_left
  · (intro w' hSw; (try dsimp only at hSw); go_simp; all_goals (with_reducible rfl))
  (try simp only [Act.put, List.setIfInBounds_toArray, List.set_cons_zero, List.set_cons_succ])
  refine wpAnyH_take_d (i := 7) (some 52) (v := ?_) rfl rfl (by kernel_rfl) (by kernel_rfl) (by kernel_rfl) (fun _ _ _ h => h) (Or.inl ⟨by rfl, ?_⟩) hHeld ?_
  rotate_left
  · (intro w' hSw; (try dsimp only at hSw); go_simp; all_goals (with_reducible rfl))
  (try simp only [Act.put, List.setIfInBounds_toArray, List.set_cons_zero, List.set_cons_succ])
  refine wpAnyH_take_d (i := 8) (some 53) (v := ?_) rfl rfl (by kernel_rfl) (by kernel_rfl) (by kernel_rfl) (fun _ _ _ h => h) (Or.inl ⟨by rfl, ?_⟩) hHeld ?_
  rotate_left
  · (intro w' hSw; have s1 := str_run (P := Tryd.prog) (src := 24) (dst := 9) (c := c4) Tryd.underlying24 Tryd.underlying5 Tryd.underlying9 (R47.out.below hSw); rw [HSC.out] at s1; go_simp; all_goals (with_reducible rfl))
  (try simp only [Act.put, List.setIfInBounds_toArray, List.set_cons_zero, List.set_cons_succ])
  refine wpAnyH_take_d (i := 9) (some 54) (v := ?_) rfl rfl (by kernel_rfl) (by kernel_rfl) (by kernel_rfl) (fun _ _ _ h => h) (Or.inl ⟨by rfl, ?_⟩) hHeld ?_
  rotate_left
  · (intro w' hSw; (try dsimp only at hSw); go_simp; all_goals (with_reducible rfl))
  (try simp only [Act.put, List.setIfInBounds_toArray, List.set_cons_zero, List.set_cons_succ])
  refine wpAnyH_ready (rs := [10]) (by kernel_rfl) (by simp) ?_
  refine AllReadyH.cons rfl (fun KQ hK => ?_) AllReadyH.nil
  go_simp
  (with_reducible refine (CT.out _ hHeld).mono ?_)
  rintro e w8 ⟨v8, rfl, hown8, hb8⟩
  obtain ⟨A8, c8, rfl, _, _, hr8, _, _⟩ := own_rd hown8 (by rw [HNC.out]; omega)
  have B8 := Hd.mk (hHeld.trans (hb8.mono hHeld.size))
  have R8 := Hd.mk hr8
  clear hown8 hb8 hr8
  refine hK.out _ _ ?_ (fun hHeld => ?_)
  · exact B8.out
  clear hK KQ
  (try simp only [Act.put, List.setIfInBounds_toArray, List.set_cons_zero, List.set_cons_succ])
  refine wpAnyH_ready (rs := [11]) (by kernel_rfl) (by simp) ?_
  refine AllReadyH.cons rfl (fun KQ hK => ?_) AllReadyH.nil
  have s8 := str_run (P := Tryd.prog) (src := 24) (dst := 9) (c := c8) Tryd.underlying24 Tryd.underlying5 Tryd.underlying9 R8.out
  rw [HSC.out] at s8
  go_simp
  refine hK.out _ _ ?_ (fun hHeld => ?_)
  · exact B8.out
  clear hK KQ s8
  (try simp only [Act.put, List.setIfInBounds_toArray, List.set_cons_zero, List.set_cons_succ])
  refine wpAnyH_take_d (i := 12) (some 57) (v := ?_) rfl rfl (by kernel_rfl) (by kernel_rfl) (by kernel_rfl) (fun _ _ _ h => h) (Or.inl ⟨by rfl, ?_⟩) hHeld ?_
  rotate_left
  · (intro w' hSw; (try dsimp only at hSw); go_simp; all_goals (with_reducible rfl))
  (try simp only [Act.put, List.setIfInBounds_toArray, List.set_cons_zero, List.set_cons_succ])
  refine wpAnyH_take_d (i := 13) (some 58) (v := ?_) rfl rfl (by kernel_rfl) (by kernel_rfl) (by kernel_rfl) (fun _ _ _ h => h) (Or.inl ⟨by rfl, ?_⟩) hHeld ?_
  rotate_left
  · (intro w' hSw; (try dsimp only at hSw); go_simp; all_goals (with_reducible rfl))
  (try simp only [Act.put, List.setIfInBounds_toArray, List.set_cons_zero, List.set_cons_succ])
  refine wpAnyH_take_d (i := 14) (some 59) (v := ?_) rfl rfl (by kernel_rfl) (by kernel_rfl) (by kernel_rfl) (fun _ _ _ h => h) (Or.inl ⟨by rfl, ?_⟩) hHeld ?_
  rotate_left
  · (intro w' hSw; (try dsimp only at hSw); go_simp; all_goals (with_reducible rfl))
  (try simp only [Act.put, List.setIfInBounds_toArray, List.set_cons_zero, List.set_cons_succ])
  refine wpAnyH_take_d (i := 15) (some 60) (v := ?_) rfl rfl (by kernel_rfl) (by kernel_rfl) (by kernel_rfl) (fun _ _ _ h => h) (Or.inl ⟨by rfl, ?_⟩) hHeld ?_
  rotate_left
  · (intro w' hSw; (try dsimp only at hSw); go_simp; all_goals (with_reducible rfl))
  (try simp only [Act.put, List.setIfInBounds_toArray, List.set_cons_zero, List.set_cons_succ])
  refine wpAnyH_take_d (i := 16) (some 61) (v := ?_) rfl rfl (by kernel_rfl) (by kernel_rfl) (by kernel_rfl) (fun _ _ _ h => h) (Or.inl ⟨by rfl, ?_⟩) hHeld ?_
  rotate_left
  · (intro w' hSw; (try dsimp only at hSw); go_simp; all_goals (with_reducible rfl))
  (try simp only [Act.put, List.setIfInBounds_toArray, List.set_cons_zero, List.set_cons_succ])
  refine wpAnyH_take_d (i := 17) (some 62) (v := ?_) rfl rfl (by kernel_rfl) (by kernel_rfl) (by kernel_rfl) (fun _ _ _ h => h) (Or.inl ⟨by rfl, ?_⟩) hHeld ?_
  rotate_left
  · (intro w' hSw; (try dsimp only at hSw); go_simp; all_goals (with_reducible rfl))
  (try simp only [Act.put, List.setIfInBounds_toArray, List.set_cons_zero, List.set_cons_succ])
  refine wpAnyH_take_d (i := 18) (some 63) (v := ?_) rfl rfl (by kernel_rfl) (by kernel_rfl) (by kernel_rfl) (fun _ _ _ h => h) (Or.inl ⟨by rfl, ?_⟩) hHeld ?_
  rotate_left
  · (intro w' hSw; (try dsimp only at hSw); go_simp; all_goals (with_reducible rfl))
  (try simp only [Act.put, List.setIfInBounds_toArray, List.set_cons_zero, List.set_cons_succ])
  refine wpAnyH_take_d (i := 19) (some 64) (v := ?_) rfl rfl (by kernel_rfl) (by kernel_rfl) (by kernel_rfl) (fun _ _ _ h => h) (Or.inl ⟨by rfl, ?_⟩) hHeld ?_
  rotate_left
  · (intro w' hSw; (try dsimp only at hSw); go_simp; all_goals (with_reducible rfl))
  (try simp only [Act.put, List.setIfInBounds_toArray, List.set_cons_zero, List.set_cons_succ])
  refine wpAnyH_take_d (i := 20) (some 65) (v := ?_) rfl rfl (by kernel_rfl) (by kernel_rfl) (by kernel_rfl) (fun _ _ _ h => h) (Or.inl ⟨by rfl, ?_⟩) hHeld ?_
  rotate_left
  · (intro w' hSw; (try dsimp only at hSw); go_simp; all_goals (with_reducible rfl))
  (try simp only [Act.put, List.setIfInBounds_toArray, List.set_cons_zero, List.set_cons_succ])
  refine wpAnyH_take_d (i := 21) (some 66) (v := ?_) rfl rfl (by kernel_rfl) (by kernel_rfl) (by kernel_rfl) (fun _ _ _ h => h) (Or.inl ⟨by rfl, ?_⟩) hHeld ?_
  rotate_left
  · (intro w' hSw; (try dsimp only at hSw); go_simp; all_goals (with_reducible rfl))
  (try simp only [Act.put, List.setIfInBounds_toArray, List.set_cons_zero, List.set_cons_succ])
  refine wpAnyH_take_d (i := 22) (some 67) (v := ?_) rfl rfl (by kernel_rfl) (by kernel_rfl) (by kernel_rfl) (fun _ _ _ h => h) (Or.inl ⟨by rfl, ?_⟩) hHeld ?_
  rotate_left
  · (intro w' hSw; have s1 := str_run (P := Tryd.prog) (src := 24) (dst := 9) (c := c5) Tryd.underlying24 Tryd.underlying5 Tryd.underlying9 (R57.out.below hSw); rw [SF.out] at s1; go_simp; all_goals (with_reducible rfl))
  (try simp only [Act.put, List.setIfInBounds_toArray, List.set_cons_zero, List.set_cons_succ])
  refine wpAnyH_take_d (i := 23) (some 68) (v := ?_) rfl rfl (by kernel_rfl) (by kernel_rfl) (by kernel_rfl) (fun _ _ _ h => h) (Or.inl ⟨by rfl, ?_⟩) hHeld ?_
  rotate_left
  · (intro w' hSw; (try dsimp only at hSw); go_simp; all_goals (with_reducible rfl))
  (try simp only [Act.put, List.setIfInBounds_toArray, List.set_cons_zero, List.set_cons_succ])
  refine wpAnyH_take_d (i := 24) (some 69) (v := ?_) rfl rfl (by kernel_rfl) (by kernel_rfl) (by kernel_rfl) (fun _ _ _ h => h) (Or.inl ⟨by rfl, ?_⟩) hHeld ?_
  rotate_left
  · (intro w' hSw; have s1 := runes_run (P := Tryd.prog) (src := 35) (dst := 9) (c := c1) Tryd.underlying35 Tryd.underlying21 Tryd.underlying9 (R27.out.below hSw); go_simp; all_goals (with_reducible rfl))
  (try simp only [Act.put, List.setIfInBounds_toArray, List.set_cons_zero, List.set_cons_succ])
  refine wpAnyH_take_d (i := 25) (some 70) (v := ?_) rfl rfl (by kernel_rfl) (by kernel_rfl) (by kernel_rfl) (fun _ _ _ h => h) (Or.inl ⟨by rfl, ?_⟩) hHeld ?_
  rotate_left
  · (intro w' hSw; (try dsimp only at hSw); go_simp; all_goals (with_reducible rfl))
  (try simp only [Act.put, List.setIfInBounds_toArray, List.set_cons_zero, List.set_cons_succ])
  refine wpAnyH_take_d (i := 26) (some 71) (v := ?_) rfl rfl (by kernel_rfl) (by kernel_rfl) (by kernel_rfl) (fun _ _ _ h => h) (Or.inl ⟨by rfl, ?_⟩) hHeld ?_
  rotate_left
  · (intro w' hSw; (try dsimp only at hSw); go_simp; all_goals (with_reducible rfl))
  (try simp only [Act.put, List.setIfInBounds_toArray, List.set_cons_zero, List.set_cons_succ])
  refine wpAnyH_take_d (i := 27) (some 72) (v := ?_) rfl rfl (by kernel_rfl) (by kernel_rfl) (by kernel_rfl) (fun _ _ _ h => h) (Or.inl ⟨by rfl, ?_⟩) hHeld ?_
  rotate_left
  · (intro w' hSw; (try dsimp only at hSw); go_simp; all_goals (with_reducible rfl))
  (try simp only [Act.put, List.setIfInBounds_toArray, List.set_cons_zero, List.set_cons_succ])
  refine wpAnyH_take_d (i := 28) (some 73) (v := ?_) rfl rfl (by kernel_rfl) (by kernel_rfl) (by kernel_rfl) (fun _ _ _ h => h) (Or.inl ⟨by rfl, ?_⟩) hHeld ?_
  rotate_left
  · (intro w' hSw; (try dsimp only at hSw); go_simp; all_goals (with_reducible rfl))
  (try simp only [Act.put, List.setIfInBounds_toArray, List.set_cons_zero, List.set_cons_succ])
  refine wpAnyH_take_d (i := 29) (some 74) (v := ?_) rfl rfl (by kernel_rfl) (by kernel_rfl) (by kernel_rfl) (fun _ _ _ h => h) (Or.inl ⟨by rfl, ?_⟩) hHeld ?_
  rotate_left
  · (intro w' hSw; have s1 := str_run (P := Tryd.prog) (src := 24) (dst := 9) (c := c7) Tryd.underlying24 Tryd.underlying5 Tryd.underlying9 (R7.out.below hSw); rw [H97.out] at s1; go_simp; all_goals (with_reducible rfl))
  (try simp only [Act.put, List.setIfInBounds_toArray, List.set_cons_zero, List.set_cons_succ])
  refine wpAnyH_take_d (i := 30) (some 75) (v := ?_) rfl rfl (by kernel_rfl) (by kernel_rfl) (by kernel_rfl) (fun _ _ _ h => h) (Or.inl ⟨by rfl, ?_⟩) hHeld ?_
  rotate_left
  · (intro w' hSw; (try dsimp only at hSw); go_simp; all_goals (with_reducible rfl))
  (try simp only [Act.put, List.setIfInBounds_toArray, List.set_cons_zero, List.set_cons_succ])
  refine wpAnyH_take_d (i := 31) (some 76) (v := ?_) rfl rfl (by kernel_rfl) (by kernel_rfl) (by kernel_rfl) (fun _ _ _ h => h) (Or.inl ⟨by rfl, ?_⟩) hHeld ?_
  rotate_left
  · (intro w' hSw; (try dsimp only at hSw); go_simp; all_goals (with_reducible rfl))
  (try simp only [Act.put, List.setIfInBounds_toArray, List.set_cons_zero, List.set_cons_succ])
  refine wpAnyH_take_d (i := 32) (some 2) (v := ?_) rfl rfl (by kernel_rfl) (by kernel_rfl) (by kernel_rfl) (fun _ _ _ h => h) (Or.inl ⟨by rfl, ?_⟩) hHeld ?_
  rotate_left
  · (intro w' hSw; (try dsimp only at hSw); go_simp; all_goals (with_reducible rfl))
  (try simp only [Act.put, List.setIfInBounds_toArray, List.set_cons_zero, List.set_cons_succ])
  refine wpAnyH_done (by kernel_rfl) ?_ _
  have HB := Hd.mk hHeld
  clear hHeld
  go_wp2_with fail
  go_ret
  exact ⟨by simp, B7.out.trans (HB.out.mono B7.out.size)⟩
theorem tabs_cmd (w : World) (hL : laidMetH Tryd.prog YtmgckcngedpgoaaDoor.Rows.fnCommandRow.laid w) : Go.Lib.Utf8Tabs 3 4 w := by
  have h : laidMet Tryd.prog YtmgckcngedpgoaaDoor.Rows.fnCommandRow.laid w := hL
  obtain ⟨ps, hv, _⟩ := h
  have e1 : Pinned.utf8First = Go.Lib.firstData := Pinned.utf8First_eq
  have e2 : (YtmgckcngedpgoaaDoor.Rows.laid_unicode_utf8_acceptRanges : DataW Unit) = Go.Lib.acceptData := by kernel_rfl
  have r1 := Go.Lib.LaidVars_reads hv "unicode/utf8.first" _ (List.mem_cons_of_mem _ (List.mem_cons_self))
  have r2 := Go.Lib.LaidVars_reads hv "unicode/utf8.acceptRanges" _ (List.mem_cons_self)
  exact utf8Tabs_of_readsT Door.u8types Door.u8extra (e1 ▸ r1) (e2 ▸ r2)
theorem FnCommand (s : ByteArray) (w : World) (hs : s.size ≤ 140737488351232) (hL : laidMetH Tryd.prog YtmgckcngedpgoaaDoor.Rows.fnCommandRow.laid w) :
    Calls Tryd.prog 4 #[.string s] w fun e w' => e = .returned (.bool true) ∧ Below w.heap.size w w' := by
  by_cases hbig : s.size > 2147483647
  · have hbig' : (2147483647 : Int) < s.size := by omega
    clear hs hL
    go_enter Tryd.func4, Tryd.ntmps4
    go_wp2
    go_ret
    exact ⟨rfl, Below.refl _ _⟩
  have hT := tabs_cmd w hL
  have hg : 4 + 1 ≤ w.heap.size := lt_of_cellL (hT.2 0 (by decide)).1
  exact law_command s w (by omega) hT hg
end Go.Proofs.YtmgckcngedpgoaaDoor.Kb
