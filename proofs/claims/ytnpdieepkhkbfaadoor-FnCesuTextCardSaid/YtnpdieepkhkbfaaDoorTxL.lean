/- FnCesuText: a text brought into CESU-8 and back. -/
import Derived.Test.YtnpdieepkhkbfaaDoorTxH
namespace Go.Proofs.YtnpdieepkhkbfaaDoor.Kb
open Go Go.RowKit
set_option linter.unusedVariables false
set_option linter.unusedSimpArgs false
set_option maxHeartbeats 2000000
/-- []byte(b) of a new row of bytes: the same row. -/
theorem same_runT {P : Program} {T t : TypeId} (w : World) (cs : Array Value) (n c : Nat) (hs : P.underlying T = some (.slice t)) (he : P.underlying t = some (.int .u8)) :
    ∃ w', (convert T T (.slice (some ⟨w.heap.size, 0, none⟩) n c)).run P (w.alloc (.cells cs t)) = .ok (.slice (some ⟨w.heap.size, 0, none⟩) n c) w' ∧ w'.heap[w.heap.size]? = some (.cells cs t (cs.size, cs.size + 1)) ∧ w'.heap.size = w.heap.size + 1 ∧ Below w.heap.size w w' := by
  have hsh : (w.alloc (.cells cs t)).shape? w.heap.size = some (t, cs.size) := by
    simp [World.shape?, World.alloc, -World.alloc_eq]
  refine ⟨(w.alloc (.cells cs t)).freeze ⟨w.heap.size, cs.size, none⟩ 1, ?_, ?_, ?_, ?_⟩
  · simp [convert, run_underlying hs, run_underlying he, markStringish, hsh, Result.andThen]
  · simp [World.freeze, World.alloc, -World.alloc_eq]
    rw [Array.getElem_modify_self]
    simp
  · simp [World.freeze, World.alloc, -World.alloc_eq]
  · refine ⟨rfl, rfl, rfl, by simp [World.freeze, World.alloc, -World.alloc_eq], fun k hk => ?_⟩
    have h1 : w.heap.size ≠ k := by omega
    simp [World.freeze, World.alloc, -World.alloc_eq, Array.getElem?_modify, Array.getElem?_push, h1, Ne.symm h1]
theorem fit_good (xs : List Int) : ∀ r ∈ xs.map fit1, good r := by
  intro r hr
  obtain ⟨x, _, rfl⟩ := List.mem_map.1 hr
  exact fit1_ok x
/-- Cesu8Bytes into CESU-8. -/
theorem ce8E (g n c : Nat) (F : List Int) (w : World) (hr : Rd w [] (some ⟨g, 0, none⟩) n (uB F)) (hnc : n ≤ c) (hc : c ≤ 9223372036854775807) (hn : n ≤ 65536) (hT : Go.Lib.Utf8Tabs 0 1 w) (hw2 : 2 ≤ w.heap.size) (hF : ∀ r ∈ F, good r) :
    Calls Tryd.prog 10 #[.bool true, .bool false, .slice (some ⟨g, 0, none⟩) n c] w fun e w' => Ce8Out w (cB F) e w' := by
  refine ce8 true _ _ g n c (cB F) w hn cesuOfE (fun p W hb hp => ?_)
  by_cases h : 0 < F.length
  · exact bytesEnc p g n c _ F W hp (hr.below hb) hnc hc (by omega) h (tabs_below hT hb hw2) (Nat.le_trans hw2 hb.size) hF
  · obtain rfl : F = [] := List.eq_nil_of_length_eq_zero (by omega)
    obtain rfl : n = 0 := by have := hr.len; simp [uB] at this; omega
    exact bytesEnc_nil p g c _ W hp (hr.below hb) hc (tabs_below hT hb hw2) (Nat.le_trans hw2 hb.size)
/-- Cesu8Bytes out of CESU-8. -/
theorem ce8D (g n c : Nat) (F : List Int) (w : World) (hr : Rd w [] (some ⟨g, 0, none⟩) n (cB F)) (hnc : n ≤ c) (hc : c ≤ 9223372036854775807) (hn : n ≤ 65536) (hT : Go.Lib.Utf8Tabs 0 1 w) (hw2 : 2 ≤ w.heap.size) (hF : ∀ r ∈ F, good r) :
    Calls Tryd.prog 10 #[.bool false, .bool false, .slice (some ⟨g, 0, none⟩) n c] w fun e w' => Ce8Out w (uB F) e w' := by
  refine ce8 false _ _ g n c (uB F) w hn cesuOfD (fun p W hb hp => ?_)
  exact bytesDec p g n c _ F W hp (hr.below hb) hnc hc (by omega) (tabs_below hT hb hw2) (Nat.le_trans hw2 hb.size) hF
set_option maxRecDepth 100000 in
theorem law_cesuText (A : Option Addr) (n c m : Nat) (xs : List Int) (w : World) (hm : n ≤ 60 ∧ m = n ∨ 60 < n ∧ m = 60) (hbig : n ≤ 2147483647) (hnc : n ≤ c) (hcc : c ≤ 9223372036854775807) (hr : RdI w A n xs) (hT : Go.Lib.Utf8Tabs 0 1 w) (hw2 : 2 ≤ w.heap.size) :
    Calls Tryd.prog 4 #[.slice A n c] w fun e w' => e = .returned (.bool true) ∧ Below w.heap.size w w' := by
  have C := Hd.mk (ceChars A n c m xs w hm hnc hcc hr)
  have hv := fit_good (xs.take m)
  have hl : ((xs.take m).map fit1).length = m := by have := hr.len; simp; omega
  have hm60 : m ≤ 60 := by omega
  obtain ⟨F, hF⟩ : ∃ F, (xs.take m).map fit1 = F := ⟨_, rfl⟩
  rw [hF] at C hv hl
  have HV := Hd.mk hv; have HL := Hd.mk hl; have HT := Hd.mk hT
  have hnb : ¬ (2147483647 : Int) < n := by omega
  have RU := Hd.mk (nums_runes (fun r h => (hv r h).v)); have SU := Hd.mk (size_uB (fun r h => (hv r h).v))
  have ul := Hd.mk (uB_le F); have cl := Hd.mk (cB_le F)
  clear hF hr hm hv hl hT
  go_enter Tryd.func4, Tryd.ntmps4
  go_wp2_with fail
  with_reducible refine C.out.mono ?_
  rintro e w1 ⟨A1, c1, g, c2, rfl, hr1, hr2, z1, z2, hb⟩
  rw [RU.out, SU.out] at hr2
  rw [SU.out] at z1
  rw [SU.out]
  have ulo := ul.out; have clo := cl.out; have hlo := HL.out
  have B1 := Hd.mk hb; have R1 := Hd.mk hr1; have R2 := Hd.mk hr2
  have Z1 := Hd.mk z1
  have Z2 := Hd.mk (show c2 ≤ 9223372036854775807 from z2)
  have C1 := Hd.mk (ceText A1 m c1 F w1 hr1 (by omega) HV.out)
  clear hb hr1 hr2 z1 z2 C
  go_wp2_with fail
  with_reducible refine C1.out.mono ?_
  rintro e w2 ⟨v2, rfl, hown, hb2⟩
  obtain ⟨A3, c3, rfl, k1, k2, hr3, _, _⟩ := own_rd hown (by omega)
  have B2 := Hd.mk (B1.out.trans (hb2.mono B1.out.size)); have R3 := Hd.mk hr3; have R22 := Hd.mk (R2.out.below hb2)
  have T2 := Hd.mk (tabs_below HT.out B2.out hw2)
  have C2 := Hd.mk (ce8E g _ c2 F w2 R22.out Z1.out Z2.out (by omega) T2.out (Nat.le_trans hw2 B2.out.size) HV.out)
  clear hown hb2 k1 k2 hr3 C1
  go_wp2_with fail
  with_reducible refine C2.out.mono ?_
  rintro e w3 ⟨g4, c4, rfl, k1, k2, hr4, hb3⟩
  have B3 := Hd.mk (B2.out.trans (hb3.mono B2.out.size)); have R4 := Hd.mk hr4; have R33 := Hd.mk (R3.out.below hb3); have R23 := Hd.mk (R22.out.below hb3)
  have T3 := Hd.mk (tabs_below HT.out B3.out hw2)
  have C3 := Hd.mk (ce8D g4 _ c4 F w3 hr4 k1 k2 (by omega) T3.out (Nat.le_trans hw2 B3.out.size) HV.out)
  clear k1 k2 hr4 hb3 C2
  go_wp2_with fail
  with_reducible refine C3.out.mono ?_
  rintro e w4 ⟨g5, c5, rfl, k1, k2, hr5, hb4⟩
  have B4 := Hd.mk (B3.out.trans (hb4.mono B3.out.size)); have R44 := Hd.mk (R4.out.below hb4); have R34 := Hd.mk (R33.out.below hb4); have R24 := Hd.mk (R23.out.below hb4); have R5 := Hd.mk hr5
  have T4 := Hd.mk (tabs_below HT.out B4.out hw2)
  have C4 := Hd.mk (ce8Size g 0 _ c2 F w4 R24.out Z1.out Z2.out (by omega) (by omega) T4.out (Nat.le_trans hw2 B4.out.size) HV.out)
  clear k1 k2 hr5 hb4 C3
  go_wp2_with fail
  with_reducible refine C4.out.mono ?_
  rintro e w5 ⟨rfl, hb5⟩
  have B5 := Hd.mk (B4.out.trans (hb5.mono B4.out.size)); have Q4 := Hd.mk (R44.out.below hb5); have Q3 := Hd.mk (R34.out.below hb5); have Q2 := Hd.mk (R24.out.below hb5); have Q5 := Hd.mk (R5.out.below hb5)
  clear hb5 C4
  obtain ⟨w6, hcv, hcell, hsz, hb6⟩ := same_runT (P := Tryd.prog) (T := 22) (t := 5) w5 #[.int .u8 97] 1 1 Tryd.underlying22 Tryd.underlying5
  have hrd0 : Rd w6 [] (some ⟨w5.heap.size, 0, none⟩) 1 [97] := ⟨rfl, by decide, fun j hj => ⟨_, rfl, by
    have : j = 0 := by simp at hj; exact hj
    subst this
    show w6.cell? ⟨w5.heap.size, 0, none⟩ = _
    simp [World.cell?, hcell], by rw [hsz]; exact Nat.lt_succ_self _, by simp⟩⟩
  have hrd : Rd w6 [] (some ⟨w5.heap.size, 0, none⟩) 1 (uB [97]) := by rw [show uB [97] = [97] by decide]; exact hrd0
  have B6 := Hd.mk (B5.out.trans (hb6.mono B5.out.size))
  have T6 := Hd.mk (tabs_below HT.out B6.out hw2)
  have C5 := Hd.mk (ce8Size w5.heap.size 0 1 1 [97] w6 hrd (Nat.le_refl _) (by decide) (by decide) (by decide) T6.out (Nat.le_trans hw2 B6.out.size) (by simp [good]))
  have P4 := Hd.mk (Q4.out.below hb6); have P3 := Hd.mk (Q3.out.below hb6); have P2 := Hd.mk (Q2.out.below hb6); have P5 := Hd.mk (Q5.out.below hb6)
  have e1 : (cB [97]).length = 1 := by decide
  rw [e1] at C5
  clear hrd hrd0 hcell hsz hb6 e1
  go_wp2_with fail
  with_reducible refine C5.out.mono ?_
  rintro e w7 ⟨rfl, hb7⟩
  have B7 := Hd.mk (B6.out.trans (hb7.mono B6.out.size))
  have s1 := str_run (P := Tryd.prog) (src := 22) (dst := 9) (c := c4) Tryd.underlying22 Tryd.underlying5 Tryd.underlying9 (P4.out.below hb7)
  have s2 := str_run (P := Tryd.prog) (src := 22) (dst := 9) (c := c3) Tryd.underlying22 Tryd.underlying5 Tryd.underlying9 (P3.out.below hb7)
  have s3 := str_run (P := Tryd.prog) (src := 22) (dst := 9) (c := c5) Tryd.underlying22 Tryd.underlying5 Tryd.underlying9 (P5.out.below hb7)
  have s4 := str_run (P := Tryd.prog) (src := 22) (dst := 9) (c := c2) Tryd.underlying22 Tryd.underlying5 Tryd.underlying9 (P2.out.below hb7)
  clear hb7 C5
  generalize strOfNums (cB F) = sc at *
  generalize strOfNums (uB F) = su at *
  generalize (cB F).length = lc at *
  generalize (uB F).length = lu at *
  go_wp2_with fail
  go_ret
  exact ⟨by simp, B7.out⟩
theorem rdi_in {x : Addr} {len cap : Nat} {zs : List Int} {w : World} (h1 : len ≤ cap) (h3 : zs.length = cap) (h4 : ∀ i, i < zs.length → w.cell? (x.add i) = some (.int .i32 (zs.getD i 0))) : RdI w (some x) len (zs.take len) := by
  refine ⟨by simp; omega, fun j hj => ⟨x, rfl, ?_, ?_⟩⟩
  · simp at hj
    rw [h4 j (by omega)]
    have hjz : j < zs.length := by omega
    simp [List.getD_eq_getElem?_getD, hjz]
  · simp at hj
    have := lt_of_cellL (h4 j (by omega))
    rwa [add_block] at this
theorem tabs_text (w : World) (hL : laidMetH Tryd.prog YtnpdieepkhkbfaaDoor.Rows.fnCesuTextRow.laid w) : Go.Lib.Utf8Tabs 0 1 w := by
  have h : laidMet Tryd.prog YtnpdieepkhkbfaaDoor.Rows.fnCesuTextRow.laid w := hL
  obtain ⟨ps, hv, _⟩ := h
  have e1 : Pinned.utf8First = Go.Lib.firstData := Pinned.utf8First_eq
  have e2 : (YtnpdieepkhkbfaaDoor.Rows.laid_unicode_utf8_acceptRanges : DataW Unit) = Go.Lib.acceptData := by kernel_rfl
  have r1 := Go.Lib.LaidVars_reads hv "unicode/utf8.first" _ (List.mem_cons_of_mem _ (List.mem_cons_self))
  have r2 := Go.Lib.LaidVars_reads hv "unicode/utf8.acceptRanges" _ (List.mem_cons_self)
  exact utf8Tabs_of_readsT Door.u8types Door.u8extra (e1 ▸ r1) (e2 ▸ r2)
theorem FnCesuText (a : Option Addr) (len cap : Nat) (zs : List Int) (w : World) (h : (a = none ∧ len = 0 ∧ cap = 0 ∧ zs = []) ∨ ∃ x, a = some x ∧ len ≤ cap ∧ cap ≤ maxLen ∧ zs.length = cap ∧ (∀ i, i < zs.length → w.cell? (x.add i) = some (.int .i32 (zs.getD i 0))) ∧ ∀ n ∈ zs, (Lit.int .i32 n).wf = true) (hs : len * 4 ≤ 140737488351232) (hL : laidMetH Tryd.prog YtnpdieepkhkbfaaDoor.Rows.fnCesuTextRow.laid w) :
    Calls Tryd.prog 4 #[.slice a len cap] w fun e w' => e = .returned (.bool true) ∧ Below w.heap.size w w' := by
  by_cases hbig : len > 2147483647
  · have hbig' : (2147483647 : Int) < len := by omega
    clear h hs hL
    go_enter Tryd.func4, Tryd.ntmps4
    go_wp2
    go_ret
    exact ⟨rfl, Below.refl _ _⟩
  have hT := tabs_text w hL
  have hg : 2 ≤ w.heap.size := lt_of_cellL (hT.2 0 (by decide)).1
  obtain ⟨m, hm⟩ : ∃ m : Nat, len ≤ 60 ∧ m = len ∨ 60 < len ∧ m = 60 := by
    by_cases h : len ≤ 60
    · exact ⟨len, .inl ⟨h, rfl⟩⟩
    · exact ⟨60, .inr ⟨by omega, rfl⟩⟩
  rcases h with ⟨rfl, rfl, rfl, rfl⟩ | ⟨x, rfl, h1, h2, h3, h4, h5⟩
  · exact law_cesuText none 0 0 m [] w hm (by omega) (Nat.le_refl _) (by omega) ⟨rfl, fun j hj => by simp at hj⟩ hT hg
  · unfold maxLen at h2
    exact law_cesuText (some x) len cap m (zs.take len) w hm (by omega) h1 h2 (rdi_in h1 h3 h4) hT hg
end Go.Proofs.YtnpdieepkhkbfaaDoor.Kb
