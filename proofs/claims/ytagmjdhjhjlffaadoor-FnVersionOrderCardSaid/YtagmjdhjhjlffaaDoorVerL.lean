/- FnVersion: the law. -/
import Derived.Test.YtagmjdhjhjlffaaDoorVerH
import Derived.Test.YtagmjdhjhjlffaaDoorRows
import Derived.Lib.LaidTab
import Derived.Lib.LaidU8
import Derived.PinnedBridge
namespace Go.Proofs.YtagmjdhjhjlffaaDoor.Kb
open Go Go.RowKit
set_option linter.unusedVariables false
set_option linter.unusedSimpArgs false
set_option maxHeartbeats 6400000
theorem d_dots (F : Nat → Nat) (i k : Nat) : ∀ c ∈ d_ F i k, c ≠ 46 := low_digit _ _
theorem d_parse (F : Nat → Nat) (i k : Nat) (hk : 1 ≤ k) (h : F i < 10000000000) : Lib.parseUintB 64 (d_ F i k) = .ok (F i) := parse_ok (by unfold wide; omega) (lt_wide _ _) (by omega)
theorem d_len (F : Nat → Nat) (i k : Nat) (h : F i < 10000000000) (hk : k ≤ 3) : (d_ F i k).length ≤ 10 := by have := d_size F i k h hk; rwa [S_size] at this
theorem fits_all {F : Nat → Nat} (h : Fits F) : ∀ i, i < 5 → F i < 10000000000 := by
  obtain ⟨h0, h1, h2, h3, h4⟩ := h
  intro i hi
  rcases (by omega : i = 0 ∨ i = 1 ∨ i = 2 ∨ i = 3 ∨ i = 4) with rfl | rfl | rfl | rfl | rfl <;> omega
theorem spells_texts (F : Nat → Nat) (most : Nat) (h1 : 1 ≤ most) (h5 : most ≤ 5) (hf : Fits F) (hz : ∀ t, most ≤ t → t < 5 → F t = 0) : Spells (join (texts F most)) F := by
  have hl : (texts F most).length = most := by simp [texts]
  have e : spl 4 (join (texts F most)) = texts F most := spl_join _ 4 (by intro h; rw [h] at hl; simp at hl; omega) (by omega) (by
    intro a ha
    obtain ⟨i, _, rfl⟩ := List.mem_map.1 ha
    exact d_dots F i 1)
  have := texts_len F (fits_all hf) most h5
  refine ⟨by omega, by rw [e, hl]; exact h5, ?_, by rw [e, hl]; exact hz, hf⟩
  rw [e]
  intro i hi
  have hi5 : i < 5 := by omega
  have g : (texts F most)[i] = d_ F i 1 := by simp [texts]
  rw [g]
  exact ⟨d_parse F i 1 (by omega) (fits_all hf i hi5), by have := d_len F i 1 (fits_all hf i hi5) (by omega); omega⟩
theorem spells_vtext (F : Nat → Nat) (hf : Fits F) : Spells (vtext F) F := by
  have hb := fits_all hf
  have l0 := d_len F 0 1 (hb 0 (by omega)) (by omega); have l1 := d_len F 1 2 (hb 1 (by omega)) (by omega); have l2 := d_len F 2 3 (hb 2 (by omega)) (by omega)
  have l3 := d_len F 3 2 (hb 3 (by omega)) (by omega); have l4 := d_len F 4 1 (hb 4 (by omega)) (by omega)
  have p0 := d_parse F 0 1 (by omega) (hb 0 (by omega)); have p1 := d_parse F 1 2 (by omega) (hb 1 (by omega)); have p2 := d_parse F 2 3 (by omega) (hb 2 (by omega))
  have p3 := d_parse F 3 2 (by omega) (hb 3 (by omega)); have p4 := d_parse F 4 1 (by omega) (hb 4 (by omega))
  by_cases hz : F 4 = 0
  · have e : vtext F = join [d_ F 0 1, d_ F 1 2, d_ F 2 3, d_ F 3 2] := by simp [vtext, join, hz]
    have e2 : spl 4 (vtext F) = [d_ F 0 1, d_ F 1 2, d_ F 2 3, d_ F 3 2] := by
      rw [e]
      refine spl_join _ 4 (by simp) (by simp) ?_
      intro a ha
      simp only [List.mem_cons, List.not_mem_nil, or_false] at ha
      rcases ha with rfl | rfl | rfl | rfl <;> exact d_dots F _ _
    refine ⟨?_, by rw [e2]; simp, ?_, ?_, hf⟩
    · rw [e]; simp [join]; omega
    · rw [e2]
      intro i hi
      have : i < 4 := hi
      rcases (by omega : i = 0 ∨ i = 1 ∨ i = 2 ∨ i = 3) with rfl | rfl | rfl | rfl
      · exact ⟨p0, by simp; omega⟩
      · exact ⟨p1, by simp; omega⟩
      · exact ⟨p2, by simp; omega⟩
      · exact ⟨p3, by simp; omega⟩
    · rw [e2]
      intro t ht ht5
      have : 4 ≤ t := ht
      obtain rfl : t = 4 := by omega
      exact hz
  · have e : vtext F = join [d_ F 0 1, d_ F 1 2, d_ F 2 3, d_ F 3 2, d_ F 4 1] := by simp [vtext, join, hz]
    have e2 : spl 4 (vtext F) = [d_ F 0 1, d_ F 1 2, d_ F 2 3, d_ F 3 2, d_ F 4 1] := by
      rw [e]
      refine spl_join _ 4 (by simp) (by simp) ?_
      intro a ha
      simp only [List.mem_cons, List.not_mem_nil, or_false] at ha
      rcases ha with rfl | rfl | rfl | rfl | rfl <;> exact d_dots F _ _
    refine ⟨?_, by rw [e2]; simp, ?_, ?_, hf⟩
    · rw [e]; simp [join]; omega
    · rw [e2]
      intro i hi
      have : i < 5 := hi
      rcases (by omega : i = 0 ∨ i = 1 ∨ i = 2 ∨ i = 3 ∨ i = 4) with rfl | rfl | rfl | rfl | rfl
      · exact ⟨p0, by simp; omega⟩
      · exact ⟨p1, by simp; omega⟩
      · exact ⟨p2, by simp; omega⟩
      · exact ⟨p3, by simp; omega⟩
      · exact ⟨p4, by simp; omega⟩
    · rw [e2]
      intro t ht ht5
      have : 5 ≤ t := ht
      omega
set_option maxRecDepth 100000 in
theorem law_walk (n0 n1 n2 n3 n4 m : Nat) (b0 : n0 < 18446744073709551616) (b1 : n1 < 18446744073709551616) (b2 : n2 < 18446744073709551616) (b3 : n3 < 18446744073709551616) (b4 : n4 < 18446744073709551616) (bm : m < 256) (w : World) (hP : Pow w) :
    Calls Tryd.prog 3 #[.agg #[.int .u64 n0, .int .u64 n1, .int .u64 n2, .int .u64 n3, .int .u64 n4], .int .u8 m] w fun e w' => e = .returned (.bool true) ∧ Below w.heap.size w w' := by
  obtain ⟨F0, hF0⟩ : ∃ F0 : Nat → Nat, F0 = fun t => if t = 0 then n0 % 1000000 else if t = 1 then n1 % 100 else if t = 2 then n2 % 1000 else if t = 3 then n3 % 100 else n4 % 10000000000 := ⟨_, rfl⟩
  have e0 : n0 % 1000000 = F0 0 := by rw [hF0]; rfl
  have e1 : n1 % 100 = F0 1 := by rw [hF0]; rfl
  have e2 : n2 % 1000 = F0 2 := by rw [hF0]; rfl
  have e3 : n3 % 100 = F0 3 := by rw [hF0]; rfl
  have e4 : n4 % 10000000000 = F0 4 := by rw [hF0]; rfl
  clear hF0
  obtain ⟨r, hr⟩ : ∃ r, m % 5 = r := ⟨_, rfl⟩
  have hr5 : r < 5 := by omega
  have hmod : (m : Int) % 5 = (r : Int) := by omega
  obtain ⟨F, hF⟩ : ∃ F : Nat → Nat, F = fun t => if t < 1 + r then F0 t else 0 := ⟨_, rfl⟩
  have hFt : ∀ t, t < 5 → F t = if t < 1 + r then F0 t else 0 := fun t _ => by rw [hF]
  have fits : Fits F := by
    refine ⟨?_, ?_, ?_, ?_, ?_⟩ <;> rw [hF] <;> dsimp only <;> split <;> omega
  have SP1 := Hd.mk (spells_texts F (1 + r) (by omega) (by omega) fits (fun t h1 h2 => by rw [hFt t h2, if_neg (by omega)]))
  have SP2 := Hd.mk (spells_vtext F fits)
  have HFit := Hd.mk fits
  have C := fun w h => scNumbers n0 n1 n2 n3 n4 F0 F (1 + r) (by omega) (by omega) e0 e1 e2 e3 e4 b0 b1 b2 b3 b4 hFt w h
  rw [show ((1 + r : Nat) : Int) = 1 + (r : Int) by omega] at C
  have HC := Hd.mk C
  have hA := Blk.new w #[.int .u64 n0, .int .u64 n1, .int .u64 n2, .int .u64 n3, .int .u64 n4] 23
  have hb0 : Below w.heap.size w (w.alloc (.cells #[.int .u64 n0, .int .u64 n1, .int .u64 n2, .int .u64 n3, .int .u64 n4] 23)) := (Below.refl _ _).alloc (Nat.le_refl _) _
  have HB0 := Hd.mk hb0
  have HP0 := Hd.mk (pow_below hP hb0)
  clear C fits hFt hF e0 e1 e2 e3 e4 hP hb0 hr
  obtain ⟨L, hL⟩ : ∃ L, join (texts F (1 + r)) = L := ⟨_, rfl⟩
  rw [hL] at SP1 HC
  go_enter Tryd.func3, Tryd.ntmps3
  go_wp2_with fail
  with_reducible refine (HC.out _ HP0.out).mono ?_
  intro e w1 h1
  obtain ⟨g1, rfl, _, hB1, hb1⟩ := h1
  have A1 := Hd.mk hB1
  have L1 := Hd.mk (HB0.out.trans (hb1.mono HB0.out.size))
  have P1 := Hd.mk (pow_below HP0.out hb1)
  have C1 := Hd.mk (versionNumbers L F SP1.out w1 P1.out)
  clear hB1 hb1 HC
  go_wp2_with fail
  with_reducible refine C1.out.mono ?_
  intro e w2 h2
  obtain ⟨g2, rfl, _, hB2, hb2⟩ := h2
  have A2 := Hd.mk (A1.out.below hb2 A1.out.lt); have B2 := Hd.mk hB2
  have L2 := Hd.mk (L1.out.trans (hb2.mono L1.out.size))
  have P2 := Hd.mk (pow_below P1.out hb2)
  have C2 := Hd.mk (versionNumbers (vtext F) F SP2.out w2 P2.out)
  clear hB2 hb2 C1 A1
  go_wp2_with fail
  with_reducible refine C2.out.mono ?_
  intro e w3 h3
  obtain ⟨g3, rfl, _, hB3, hb3⟩ := h3
  have A3 := Hd.mk (A2.out.below hb3 A2.out.lt); have B3 := Hd.mk (B2.out.below hb3 B2.out.lt); have D3 := Hd.mk hB3
  have L3 := Hd.mk (L2.out.trans (hb3.mono L2.out.size))
  have P3 := Hd.mk (pow_below P2.out hb3)
  have C3 := Hd.mk (scVersion g1 5 F HFit.out w3 A3.out P3.out (by omega) (by decide))
  clear hB3 hb3 C2 A2 B2
  go_wp2_with fail
  with_reducible refine C3.out.mono ?_
  rintro e w4 ⟨rfl, hb4⟩
  have A4 := Hd.mk (A3.out.below hb4 A3.out.lt); have B4 := Hd.mk (B3.out.below hb4 B3.out.lt); have D4 := Hd.mk (D3.out.below hb4 D3.out.lt)
  have L4 := Hd.mk (L3.out.trans (hb4.mono L3.out.size))
  clear hb4 C3 A3 B3 D3
  go_wp2
  go_loopw [49] (fun i W => ∃ k : Nat, k ≤ 5 ∧ i = .int .i64 k ∧ Blk W g1 (five F) 22 ∧ Blk W g2 (five F) 22 ∧ Blk W g3 (five F) 22 ∧ Below w.heap.size w W) (fun i _ => 5 - (intOf i).toNat)
  case atStart => exact ⟨0, by omega, rfl, A4.out, B4.out, D4.out, L4.out⟩
  case round =>
    obtain ⟨k, hk, rfl, hA, hB, hD, hbw⟩ := hrel
    by_cases hlt : k < 5
    · have ca := hA.cell k (five_at F k hlt)
      have cb := hB.cell k (five_at F k hlt)
      have cd := hD.cell k (five_at F k hlt)
      have QA := Hd.mk hA; have QB := Hd.mk hB; have QD := Hd.mk hD; have QL := Hd.mk hbw
      have hki : (k : Int) < 5 := by omega
      obtain ⟨x, hx⟩ : ∃ x, F k = x := ⟨_, rfl⟩
      rw [hx] at ca cb cd
      clear hA hB hD hbw hx
      go_wp2
      go_quiet (fail)
      go_wp2
      go_roundw
      case rel => exact ⟨k + 1, by omega, by go_num, QA.out.drewN _, QB.out.drewN _, QD.out.drewN _, QL.out.trans ((below_drewN _ _).mono QL.out.size)⟩
      case measure => simp [intOf]; omega
    · obtain rfl : k = 5 := by omega
      have QL := Hd.mk hbw
      clear hA hB hD hbw
      go_wp2
      go_ret
      exact ⟨rfl, QL.out⟩
theorem pow_of (w : World) (hL : laidMetH Tryd.prog YtagmjdhjhjlffaaDoor.Rows.fnVersionRow.laid w) : Pow w := by
  have h : laidMet Tryd.prog YtagmjdhjhjlffaaDoor.Rows.fnVersionRow.laid w := hL
  obtain ⟨ps, hv, _⟩ := h
  obtain ⟨g, t, cs, fuel, p, hg, ht, hvar, hd⟩ := Go.Lib.LaidVars_reads hv "internal/strconv.uint64pow10" YtagmjdhjhjlffaaDoor.Rows.laid_internal_strconv_uint64pow10 (by simp [YtagmjdhjhjlffaaDoor.Rows.fnVersionRow])
  obtain rfl := Option.some.inj ((show Tryd.prog.globalNamed "internal/strconv.uint64pow10" = some 2 by kernel_rfl).symm.trans hg)
  obtain rfl := Option.some.inj ((show (Tryd.prog.globals[2]?).map (·.type) = some 80 by kernel_rfl).symm.trans ht)
  have e : (YtagmjdhjhjlffaaDoor.Rows.laid_internal_strconv_uint64pow10 : DataW Unit) = Go.Lib.tabData .u64 Go.Lib.pow10Tab := by kernel_rfl
  rw [e] at hd
  unfold Pow Go.Lib.TabIs
  rw [hvar, ← Go.Lib.cells_of_tab Tryd.underlying80 Tryd.underlying22 (by kernel_rfl) (by kernel_rfl) hd]
theorem nat_u64 {x : Int} (h : (Lit.int .u64 x).wf = true) : ∃ n : Nat, x = n ∧ n < 18446744073709551616 := by
  have := bounds_u64 h
  exact ⟨x.toNat, by omega, by omega⟩
theorem nat_u8 {x : Int} (h : (Lit.int .u8 x).wf = true) : ∃ n : Nat, x = n ∧ n < 256 := by
  have := bounds_u8 h
  exact ⟨x.toNat, by omega, by omega⟩
theorem FnVersion (x0 x1 x2 x3 x4 m : Int) (w : World) (h0 : (Lit.int .u64 x0).wf = true) (h1 : (Lit.int .u64 x1).wf = true) (h2 : (Lit.int .u64 x2).wf = true) (h3 : (Lit.int .u64 x3).wf = true) (h4 : (Lit.int .u64 x4).wf = true) (hm : (Lit.int .u8 m).wf = true) (hL : laidMetH Tryd.prog YtagmjdhjhjlffaaDoor.Rows.fnVersionRow.laid w) :
    Calls Tryd.prog 3 #[.agg #[.int .u64 x0, .int .u64 x1, .int .u64 x2, .int .u64 x3, .int .u64 x4], .int .u8 m] w fun e w' => e = .returned (.bool true) ∧ Below w.heap.size w w' := by
  obtain ⟨n0, rfl, b0⟩ := nat_u64 h0
  obtain ⟨n1, rfl, b1⟩ := nat_u64 h1
  obtain ⟨n2, rfl, b2⟩ := nat_u64 h2
  obtain ⟨n3, rfl, b3⟩ := nat_u64 h3
  obtain ⟨n4, rfl, b4⟩ := nat_u64 h4
  obtain ⟨k, rfl, bk⟩ := nat_u8 hm
  exact law_walk n0 n1 n2 n3 n4 k b0 b1 b2 b3 b4 bk w (pow_of w hL)
end Go.Proofs.YtagmjdhjhjlffaaDoor.Kb
