/- zztransform.Bytes: all of a text brought into CESU-8, or out of it. -/
import Derived.Test.YtmgckcngedpgoaaDoorTxC
import Derived.Test.YtmgckcngedpgoaaDoorRinv
namespace Go.Proofs.YtmgckcngedpgoaaDoor.Kb
open Go Go.RowKit
set_option linter.unusedVariables false
set_option linter.unusedSimpArgs false
set_option maxHeartbeats 2000000
theorem infoU8 : (Tryd.prog.info? 5).map (fun i => (i.zero, i.size, i.bytes)) = some (some (.int .u8 0), 1, 1) := by kernel_rfl
theorem blk_shape {w : World} {g : Nat} {cs : Array Value} {t : TypeId} (h : Blk w g cs t) : w.shape? g = some (t, cs.size) := by
  unfold Blk at h
  simp [World.shape?, h]
theorem resetD_m : (Tryd.prog.info? 92).map (fun i => (i.methods.find? (fun m => m.name == "Reset")).map (fun m => (m.path.toList, m.func))) = some (some ([⟨128, 0, true⟩], some (112, false))) := by kernel_rfl
theorem resetE_m : (Tryd.prog.info? 106).map (fun i => (i.methods.find? (fun m => m.name == "Reset")).map (fun m => (m.path.toList, m.func))) = some (some ([⟨139, 0, true⟩], some (112, false))) := by kernel_rfl
theorem resetD_b : byteOfCell Tryd.prog Tryd.prog.depth 128 0 = some 0 := by kernel_rfl
theorem resetE_b : byteOfCell Tryd.prog Tryd.prog.depth 139 0 = some 0 := by kernel_rfl
theorem resetD_c : Tryd.prog.cellsOf 128 = 1 := by kernel_rfl
theorem resetE_c : Tryd.prog.cellsOf 139 = 1 := by kernel_rfl
theorem resetD_run (p : Nat) (w : World) (v : Value) (hp : Blk w p #[v] 128) : Sem.run Tryd.prog (method 284 92 (.pointer (some ⟨p, 0, none⟩)) "Reset") w = .ok (112, .agg #[]) w := by
  have hs := blk_shape hp
  obtain ⟨i, hi, h⟩ := Option.map_eq_some_iff.1 resetD_m
  obtain ⟨m, hmm, h⟩ := Option.map_eq_some_iff.1 h
  have h1 : m.path.toList = [⟨128, 0, true⟩] := congrArg Prod.fst h
  have h2 : m.func = some (112, false) := congrArg Prod.snd h
  obtain ⟨q, hq⟩ : ∃ q, 284 = q + 1 := ⟨284 - 1, rfl⟩
  rw [hq, method]
  simp [typeInfo, go_sem, hi, hmm, h1, h2]
  simp [follow, fieldPlace, partAt, byteOf, noView, viewAt, Sem.run, receiverAt, Place.get, loadVar, loadCells, loadCellsFrom, go_sem, run_underlying Tryd.underlying128, run_underlying Tryd.underlying126, asAddr, hs, Tryd.isAgg126, resetD_b, resetD_c, Tryd.sizeOf126, shape]
theorem resetE_run (p : Nat) (w : World) (v : Value) (hp : Blk w p #[v] 139) : Sem.run Tryd.prog (method 284 106 (.pointer (some ⟨p, 0, none⟩)) "Reset") w = .ok (112, .agg #[]) w := by
  have hs := blk_shape hp
  obtain ⟨i, hi, h⟩ := Option.map_eq_some_iff.1 resetE_m
  obtain ⟨m, hmm, h⟩ := Option.map_eq_some_iff.1 h
  have h1 : m.path.toList = [⟨139, 0, true⟩] := congrArg Prod.fst h
  have h2 : m.func = some (112, false) := congrArg Prod.snd h
  obtain ⟨q, hq⟩ : ∃ q, 284 = q + 1 := ⟨284 - 1, rfl⟩
  rw [hq, method]
  simp [typeInfo, go_sem, hi, hmm, h1, h2]
  simp [follow, fieldPlace, partAt, byteOf, noView, viewAt, Sem.run, receiverAt, Place.get, loadVar, loadCells, loadCellsFrom, go_sem, run_underlying Tryd.underlying139, run_underlying Tryd.underlying126, asAddr, hs, Tryd.isAgg126, resetE_b, resetE_c, Tryd.sizeOf126, shape]
set_option maxRecDepth 100000 in
theorem resetN (w : World) : Calls Tryd.prog 112 #[.agg #[]] w fun e w' => e = .returned (.tuple #[]) ∧ Below w.heap.size w w' := by
  go_enter Tryd.func112, Tryd.ntmps112
  go_wp2_with fail
  go_end0
  exact ⟨rfl, (Below.refl _ _).alloc (Nat.le_refl _) _⟩
theorem nilD (p : Nat) (w : World) : Sem.run Tryd.prog (nilAhead 284 92 (.pointer (some ⟨p, 0, none⟩)) "Transform") w = .ok (some false) w := by kernel_rfl
theorem nilE (p : Nat) (w : World) : Sem.run Tryd.prog (nilAhead 284 106 (.pointer (some ⟨p, 0, none⟩)) "Transform") w = .ok (some false) w := by kernel_rfl
theorem methD (p : Nat) (w : World) : Sem.run Tryd.prog (method 284 92 (.pointer (some ⟨p, 0, none⟩)) "Transform") w = .ok (113, .pointer (some ⟨p, 0, none⟩)) w := by kernel_rfl
theorem methE (p : Nat) (w : World) : Sem.run Tryd.prog (method 284 106 (.pointer (some ⟨p, 0, none⟩)) "Transform") w = .ok (122, .pointer (some ⟨p, 0, none⟩)) w := by kernel_rfl
theorem infoShort : (Tryd.prog.info? 137).map (fun i => i.zero) = some (some (.agg #[.bool false])) := by kernel_rfl
theorem assert_short (w : World) : ∃ r, r = (.tuple #[.agg #[.bool true], .bool true] : Value) ∧ ∀ t, (Instr.typeAssert (shortE) t 137 true).run Tryd.prog w = .ok r w := by
  refine ⟨_, rfl, fun t => ?_⟩
  unfold shortE
  obtain ⟨i, hi, hz⟩ := Option.map_eq_some_iff.1 infoShort
  simp [Instr.typeAssert, run_underlying Tryd.underlying137, go_sem, Result.andThen, zeroValue, typeInfo, hi, hz]
theorem assert_nilS (w : World) : ∀ t, (Instr.typeAssert (.nilIface) t 137 true).run Tryd.prog w = .ok (.tuple #[.agg #[.bool false], .bool false]) w := by
  intro t
  obtain ⟨i, hi, hz⟩ := Option.map_eq_some_iff.1 infoShort
  simp [Instr.typeAssert, run_underlying Tryd.underlying137, go_sem, Result.andThen, zeroValue, typeInfo, hi, hz]
set_option maxRecDepth 100000 in
theorem isShort_yes (w : World) : Calls Tryd.prog 71 #[shortE] w fun e w' => e = .returned (.bool true) ∧ Below w.heap.size w w' := by
  obtain ⟨r, hr, ha⟩ := assert_short w
  subst hr
  unfold shortE at *
  go_enter Tryd.func71, Tryd.ntmps71
  go_wp2
  go_ret
  exact ⟨rfl, (Below.refl _ _).alloc (Nat.le_refl _) _⟩
set_option maxRecDepth 100000 in
theorem isShort_no (w : World) : Calls Tryd.prog 71 #[.nilIface] w fun e w' => e = .returned (.bool false) ∧ Below w.heap.size w w' := by
  have ha := assert_nilS w
  go_enter Tryd.func71, Tryd.ntmps71
  go_wp2
  go_ret
  exact ⟨rfl, (Below.refl _ _).alloc (Nat.le_refl _) _⟩
theorem Rd.away {w : World} {A : Option Addr} {n d : Nat} {xs : List Int} (h : Rd w [] A n xs) (hd : w.heap.size ≤ d) : Rd w [d] A n xs :=
  ⟨h.len, h.small, fun j hj => by
    obtain ⟨ad, h1, h2, h3, h4⟩ := h.at_ j hj
    exact ⟨ad, h1, h2, h3, by simp; omega⟩⟩
theorem splice_rd {w : World} {g : Nat} {Z : List Value} {t : TypeId} {xs : List Int} (h : Blk w g (splice Z 0 (bc xs)).toArray t) (hs : xs.length ≤ 140737488351232) : Rd w [] (some ⟨g, 0, none⟩) xs.length xs :=
  ⟨rfl, hs, fun j hj => ⟨_, rfl, h.cellz j (by simp [splice, List.getElem?_append, hj]), h.lt, by simp⟩⟩
/-- What Bytes answers of a text brought out of CESU-8. -/
def BytesOf (w : World) (xs : List Int) (n : Nat) (e : Ending) (w' : World) : Prop := ∃ g c, e = .returned (.tuple #[.slice (some ⟨g, 0, none⟩) xs.length c, .int .i64 n, .nilIface]) ∧ xs.length ≤ c ∧ c ≤ maxLen ∧ Rd w' [] (some ⟨g, 0, none⟩) xs.length xs ∧ w.heap.size ≤ g ∧ Below w.heap.size w w'
set_option maxRecDepth 100000 in
theorem bytesDec (p g n c : Nat) (v : Value) (F : List Int) (w : World) (hp : Blk w p #[v] 128) (hsrc : Rd w [] (some ⟨g, 0, none⟩) n (cB F)) (hnc : n ≤ c) (hc : c ≤ 9223372036854775807) (hn : n ≤ 100000) (hT : Go.Lib.Utf8Tabs 3 4 w) (hw2 : 4 + 1 ≤ w.heap.size) (hF : ∀ r ∈ F, good r) :
    Calls Tryd.prog 73 #[.iface 92 (.pointer (some ⟨p, 0, none⟩)), .slice (some ⟨g, 0, none⟩) n c] w fun e w' => BytesOf w (uB F) n e w' := by
  have RS := resetD_run p w v hp
  have CR := Hd.mk (resetN w)
  have HS := Hd.mk hsrc; have HT := Hd.mk hT; have HF := Hd.mk hF; have LN := Hd.mk hsrc.len
  clear hp hsrc hT hF
  go_enter Tryd.func73, Tryd.ntmps73
  go_wp2_with (simp only [RS])
  with_reducible refine CR.out.mono ?_
  rintro e w1 ⟨rfl, hb1⟩
  have HB1 := Hd.mk hb1
  clear hb1 CR RS
  go_wp2_with (refine wpList_make_z rfl _ _ 24 rfl 5 (.int .u8 0) 1 Tryd.underlying24 infoU8 rfl .i64 .i64 _ _ n rfl rfl rfl rfl (by omega) (by omega) ?_)
  intro w2 hb2 hl2 hs2
  have HB2 := Hd.mk (HB1.out.trans (hl2.mono HB1.out.size)); have HK2 := Hd.mk hb2; have SZ2 := Hd.mk hs2
  clear hb2 hl2 hs2
  go_wp2_with fail
  go_loopw [5, 7, 8] (fun m s a wr => m = .int .i64 0 ∧ s = .slice (some ⟨w1.heap.size, 0, none⟩) n n ∧ a = .int .i64 0 ∧ wr = w2) (fun _ _ _ _ => 0)
  case atStart => exact ⟨rfl, rfl, rfl, rfl⟩
  case round =>
    obtain ⟨rfl, rfl, rfl, rfl⟩ := hrel
    have NA := nilD p; have ME := methD p
    go_wp2_with fail
    refine wp_region_held_drew (S := (fun _ => True)) (by kernel_rfl) ?_ (fun hHeld => ?_)
    · exact trivial
    refine wpAnyH_take_d (i := 0) (some 19) (v := ?_) rfl rfl (by kernel_rfl) (by kernel_rfl) (by kernel_rfl) (fun _ _ _ h => h) (Or.inl ⟨by rfl, ?_⟩) hHeld ?_
    rotate_left
    · (intro w' hSw; (try dsimp only at hSw); go_simp; all_goals (with_reducible rfl))
    (try simp only [Act.put, List.setIfInBounds_toArray, List.set_cons_zero, List.set_cons_succ])
    refine wpAnyH_take_d (i := 1) (some 20) (v := ?_) rfl rfl (by kernel_rfl) (by kernel_rfl) (by kernel_rfl) (fun _ _ _ h => h) (Or.inl ⟨by rfl, ?_⟩) hHeld ?_
    rotate_left
    · (intro w' hSw; (try dsimp only at hSw); go_simp; all_goals (with_reducible rfl))
    (try simp only [Act.put, List.setIfInBounds_toArray, List.set_cons_zero, List.set_cons_succ])
    refine wpAnyH_take_d (i := 2) (some 21) (v := ?_) rfl rfl (by kernel_rfl) (by kernel_rfl) (by kernel_rfl) (fun _ _ _ h => h) (Or.inl ⟨by rfl, ?_⟩) hHeld ?_
    rotate_left
    · (intro w' hSw; (try dsimp only at hSw); go_simp; all_goals (with_reducible rfl))
    (try simp only [Act.put, List.setIfInBounds_toArray, List.set_cons_zero, List.set_cons_succ])
    refine wpAnyH_take_d (i := 3) (some 22) (v := ?_) rfl rfl (by kernel_rfl) (by kernel_rfl) (by kernel_rfl) (fun _ _ _ h => h) (Or.inl ⟨by rfl, ?_⟩) hHeld ?_
    rotate_left
    · (intro w' hSw; (try dsimp only at hSw); go_simp; all_goals (with_reducible rfl))
    (try simp only [Act.put, List.setIfInBounds_toArray, List.set_cons_zero, List.set_cons_succ])
    refine wpAnyH_take_d (i := 4) (some 23) (v := ?_) rfl rfl (by kernel_rfl) (by kernel_rfl) (by kernel_rfl) (fun _ _ _ h => h) (Or.inl ⟨by rfl, ?_⟩) hHeld ?_
    rotate_left
    · (intro w' hSw; (try dsimp only at hSw); go_simp; all_goals (with_reducible rfl))
    (try simp only [Act.put, List.setIfInBounds_toArray, List.set_cons_zero, List.set_cons_succ])
    refine wpAnyH_take_d (i := 5) (some 24) (v := ?_) rfl rfl (by kernel_rfl) (by kernel_rfl) (by kernel_rfl) (fun _ _ _ h => h) (Or.inl ⟨by rfl, ?_⟩) hHeld ?_
    rotate_left
    · (intro w' hSw; (try dsimp only at hSw); go_simp; all_goals (with_reducible rfl))
    (try simp only [Act.put, List.setIfInBounds_toArray, List.set_cons_zero, List.set_cons_succ])
    refine wpAnyH_take_d (i := 6) (some 25) (v := ?_) rfl rfl (by kernel_rfl) (by kernel_rfl) (by kernel_rfl) (fun _ _ _ h => h) (Or.inl ⟨by rfl, ?_⟩) hHeld ?_
    rotate_left
    · (intro w' hSw; (try dsimp only at hSw); go_simp; all_goals (with_reducible rfl))
    (try simp only [Act.put, List.setIfInBounds_toArray, List.set_cons_zero, List.set_cons_succ])
    refine wpAnyH_take_d (i := 7) (some 26) (v := ?_) rfl rfl (by kernel_rfl) (by kernel_rfl) (by kernel_rfl) (fun _ _ _ h => h) (Or.inl ⟨by rfl, ?_⟩) hHeld ?_
    rotate_left
    · (intro w' hSw; (try dsimp only at hSw); go_simp; all_goals (with_reducible rfl))
    (try simp only [Act.put, List.setIfInBounds_toArray, List.set_cons_zero, List.set_cons_succ])
    refine wpAnyH_take_d (i := 8) (some 27) (v := ?_) rfl rfl (by kernel_rfl) (by kernel_rfl) (by kernel_rfl) (fun _ _ _ h => h) (Or.inl ⟨by rfl, ?_⟩) hHeld ?_
    rotate_left
    · (intro w' hSw; (try dsimp only at hSw); go_simp; all_goals (with_reducible rfl))
    (try simp only [Act.put, List.setIfInBounds_toArray, List.set_cons_zero, List.set_cons_succ])
    refine wpAnyH_take_d (i := 9) (some 28) (v := ?_) rfl rfl (by kernel_rfl) (by kernel_rfl) (by kernel_rfl) (fun _ _ _ h => h) (Or.inl ⟨by rfl, ?_⟩) hHeld ?_
    rotate_left
    · (intro w' hSw; (try dsimp only at hSw); go_simp; all_goals (with_reducible rfl))
    (try simp only [Act.put, List.setIfInBounds_toArray, List.set_cons_zero, List.set_cons_succ])
    refine wpAnyH_ready (rs := [10]) (by kernel_rfl) (by simp) ?_
    refine AllReadyH.cons rfl (fun K hK => ?_) AllReadyH.nil
    go_simp
    (with_reducible refine (decT p w1.heap.size 0 n n g 0 n c (zs n (.int .u8 0)) 5 F wr.drew HK2.out.drew (by rw [zs_len]; omega) (by omega) (Nat.le_refl _) (by have := ub_le_cb F; have := LN.out; omega) ((HS.out.away HB1.out.size).below (HB2.out.drew)) hnc (tabs_below HT.out HB2.out.drew hw2) (by have := HB1.out.size; omega) HF.out).mono ?_)
    rintro e w4 ⟨rfl, hb4, hl4⟩
    have HB4 := Hd.mk (show Below w.heap.size w w4 from ((Bel.of HB2.out.drew).trans (hl4.weak HB2.out.size (fun x hx hlt => by simp at hx; have := HB1.out.size; omega))).to)
    have HR4 := Hd.mk (splice_rd hb4 (by have := ub_le_cb F; have := LN.out; omega))
    have HG := Hd.mk HB1.out.size
    obtain ⟨xl, hxl⟩ : ∃ x, (uB F).length = x := ⟨_, rfl⟩
    have xle : xl ≤ n := by have := ub_le_cb F; have := LN.out; omega
    have HXL := Hd.mk hxl
    rw [hxl, LN.out]
    clear hb4 hl4 hxl
    refine hK.out _ _ ?_ (fun hHeld => ?_)
    · exact trivial
    clear hK K
    (try simp only [Act.put, List.setIfInBounds_toArray, List.set_cons_zero, List.set_cons_succ])
    refine wpAnyH_take_d (i := 11) (some 18) (v := ?_) rfl rfl (by kernel_rfl) (by kernel_rfl) (by kernel_rfl) (fun _ _ _ h => h) (Or.inl ⟨by rfl, ?_⟩) hHeld ?_
    rotate_left
    · (intro w' hSw; (try dsimp only at hSw); go_simp; all_goals (with_reducible rfl))
    (try simp only [Act.put, List.setIfInBounds_toArray, List.set_cons_zero, List.set_cons_succ])
    refine wpAnyH_take_d (i := 12) (some 30) (v := ?_) rfl rfl (by kernel_rfl) (by kernel_rfl) (by kernel_rfl) (fun _ _ _ h => h) (Or.inl ⟨by rfl, ?_⟩) hHeld ?_
    rotate_left
    · (intro w' hSw; (try dsimp only at hSw); go_simp; all_goals (with_reducible rfl))
    (try simp only [Act.put, List.setIfInBounds_toArray, List.set_cons_zero, List.set_cons_succ])
    refine wpAnyH_take_d (i := 13) (some 31) (v := ?_) rfl rfl (by kernel_rfl) (by kernel_rfl) (by kernel_rfl) (fun _ _ _ h => h) (Or.inl ⟨by rfl, ?_⟩) hHeld ?_
    rotate_left
    · (intro w' hSw; (try dsimp only at hSw); go_simp; all_goals (with_reducible rfl))
    (try simp only [Act.put, List.setIfInBounds_toArray, List.set_cons_zero, List.set_cons_succ])
    refine wpAnyH_take_d (i := 14) (some 32) (v := ?_) rfl rfl (by kernel_rfl) (by kernel_rfl) (by kernel_rfl) (fun _ _ _ h => h) (Or.inl ⟨by rfl, ?_⟩) hHeld ?_
    rotate_left
    · (intro w' hSw; (try dsimp only at hSw); go_simp; all_goals (with_reducible rfl))
    (try simp only [Act.put, List.setIfInBounds_toArray, List.set_cons_zero, List.set_cons_succ])
    refine wpAnyH_take_d (i := 15) (some 9) (v := ?_) rfl rfl (by kernel_rfl) (by kernel_rfl) (by kernel_rfl) (fun _ _ _ h => h) (Or.inl ⟨by rfl, ?_⟩) hHeld ?_
    rotate_left
    · (intro w' hSw; (try dsimp only at hSw); go_simp; all_goals (with_reducible rfl))
    (try simp only [Act.put, List.setIfInBounds_toArray, List.set_cons_zero, List.set_cons_succ])
    refine wpAnyH_take_d (i := 16) (some 10) (v := ?_) rfl rfl (by kernel_rfl) (by kernel_rfl) (by kernel_rfl) (fun _ _ _ h => h) (Or.inl ⟨by rfl, ?_⟩) hHeld ?_
    rotate_left
    · (intro w' hSw; (try dsimp only at hSw); go_simp; all_goals (with_reducible rfl))
    (try simp only [Act.put, List.setIfInBounds_toArray, List.set_cons_zero, List.set_cons_succ])
    refine wpAnyH_take_d (i := 17) (some 11) (v := ?_) rfl rfl (by kernel_rfl) (by kernel_rfl) (by kernel_rfl) (fun _ _ _ h => h) (Or.inl ⟨by rfl, ?_⟩) hHeld ?_
    rotate_left
    · (intro w' hSw; (try dsimp only at hSw); go_simp; all_goals (with_reducible rfl))
    (try simp only [Act.put, List.setIfInBounds_toArray, List.set_cons_zero, List.set_cons_succ])
    refine wpAnyH_done (by kernel_rfl) ?_ _
    have HL := Hd.mk hHeld
    clear hHeld
    go_wp2_with fail
    with_reducible refine (isShort_no _).mono ?_
    rintro e w5 ⟨rfl, hb5⟩
    have HB5 := Hd.mk (HB4.out.trans (hb5.mono HB4.out.size))
    have HR5 := Hd.mk (HR4.out.below hb5)
    clear hb5
    have i5 : (xl : Int) ≤ n := by omega
    go_wp2_with fail
    go_ret3
    rw [← HXL.out]
    exact ⟨_, _, rfl, by rw [HXL.out]; exact xle, by unfold maxLen; omega, HR5.out, HG.out, HB5.out⟩
end Go.Proofs.YtmgckcngedpgoaaDoor.Kb
