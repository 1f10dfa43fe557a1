/- FnIdentifier: the law. -/
import Derived.Test.YtanmgmiddmndjaaDoorIdnR
import Derived.Test.YtanmgmiddmndjaaDoorRows
import Derived.Lib.LaidU8T
import Derived.Lib.LaidPrint
import Derived.PinnedBridge
namespace Go.Proofs.YtanmgmiddmndjaaDoor.Kb
open Go Go.RowKit
set_option linter.unusedVariables false
set_option linter.unusedSimpArgs false
set_option maxHeartbeats 4000000
theorem row_string {w : World} {g n c : Nat} {tl : List Value} {p : Nat → Nat} {Q : Nat → Value} (h : BlkF w g (mx n (fun t => .int .u8 (p t)) Q n ++ tl).toArray 5) (hn : n ≤ 1000) (hp : ∀ t, p t < 256) :
    ∃ t, (∀ w', Below w.heap.size w w' → (convert 22 9 (.slice (some ⟨g, 0, none⟩) n c)).run Tryd.prog w' = .ok (.string t) w') ∧ t.size = n ∧ ∀ k, k < n → at_ t k = p k := by
  have hl : ((List.range n).map fun t => (p t : Int)).length = n := by simp
  have hr := h.rd ((List.range n).map fun t => (p t : Int)) (by omega) (fun j hj => by
    have hj' : j < n := by omega
    simp only [List.getElem?_toArray]
    rw [List.getElem?_append_left (by rw [mx_len]; exact hj'), mx_get _ _ _ _ _ hj', if_pos hj']
    simp)
  rw [hl] at hr
  have hb : ∀ x ∈ (List.range n).map fun t => (p t : Int), 0 ≤ x ∧ x < 256 := by
    intro x hx
    obtain ⟨t, _, rfl⟩ := List.mem_map.1 hx
    have := hp t
    omega
  refine ⟨_, fun w' hb => str_run (P := Tryd.prog) (src := 22) (dst := 9) (c := c) Tryd.underlying22 Tryd.underlying5 Tryd.underlying9 (hr.below hb), by rw [(at_str _ 0 hb).1, hl], fun k hk => ?_⟩
  have := (at_str _ k hb).2
  rw [List.getD_eq_getElem?_getD, List.getElem?_eq_getElem (by omega)] at this
  simp at this
  omega
def strA : ByteArray := { data := #[65] }
theorem prA : Pr strA := fun k hk => by
  have : k = 0 := by simp [strA, ByteArray.size] at hk; exact hk
  subst this
  decide
theorem idA : idText strA = strA ∧ simpB strA = true := by decide +kernel
/-- The byte that stands in the place of another one. -/
def turn (y : Nat) : Nat := 32 + y % 95
set_option maxRecDepth 100000 in
theorem law_walk (s u : ByteArray) (m : Nat) (w : World) (hs : s.size ≤ 2147483647) (hex : s.extract 0 (min (s.size : Int) 60).toNat = u) (hm : m ≤ 60) (hul : u.size = m) (hT : Tabs w) :
    Calls Tryd.prog 3 #[.string s] w fun e w' => e = .returned (.bool true) ∧ Below w.heap.size w w' := by
  obtain ⟨c, tl, w1, hcv, hB, hb⟩ := bytesF (P := Tryd.prog) (src := 9) (dst := 22) w u Tryd.underlying9 Tryd.underlying22 Tryd.underlying5
  rw [hul] at hcv hB
  have HB := Hd.mk hB; have HBL := Hd.mk hb; have HT := Hd.mk hT
  clear hB hb hT
  obtain ⟨q, hq⟩ : ∃ q, at_ u = q := ⟨_, rfl⟩
  have hq2 : ∀ k, q k < 256 := fun k => by rw [← hq]; exact at_lt u k
  rw [hq] at HB
  have HQ := Hd.mk hq2
  clear hq hq2
  have hnb : ¬ (2147483647 : Int) < s.size := by omega
  · skip
    go_enter Tryd.func3, Tryd.ntmps3
    go_wp2
    go_loopw [23] (fun i wr => ∃ k : Nat, k ≤ m ∧ i = .int .i64 k ∧ BlkF wr w.heap.size (mx (m) (fun t => .int .u8 (32 + (q t : Int) % 95)) (fun t => .int .u8 (q t)) k ++ tl).toArray 5 ∧ Below w.heap.size w wr) (fun i _ => m - (intOf i).toNat)
    case atStart => exact ⟨0, Nat.zero_le _, rfl, HB.out.cast (by unfold mx; simp), HBL.out⟩
    case round =>
      obtain ⟨k, hk, rfl, hB, hb⟩ := hrel
      by_cases hlt : k < m
      · have s0 : wr.cell? ⟨w.heap.size, k, none⟩ = some (.int .u8 (q k)) := hB.cell k (by simp only [List.getElem?_toArray]; rw [List.getElem?_append_left (by rw [mx_len]; exact hlt), mx_get _ _ _ _ _ hlt, if_neg (Nat.lt_irrefl k)])
        have f0 := hB.free k (by rw [List.size_toArray, List.length_append, mx_len]; omega)
        have hB2 := (hB.set k (.int .u8 (32 + (q k : Int) % 95))).cast (cs' := (mx (m) (fun t => .int .u8 (32 + (q t : Int) % 95)) (fun t => .int .u8 (q t)) (k + 1) ++ tl).toArray) (by
          rw [List.setIfInBounds_toArray, List.set_append_left _ _ (by rw [mx_len]; exact hlt)]
          rw [← mx_set _ (fun t => Value.int .u8 (32 + (q t : Int) % 95)) _ k hlt])
        have H2 := Hd.mk hB2; have HB2 := Hd.mk (hb.setCell (p := ⟨w.heap.size, k, none⟩) (Nat.le_refl _) (.int .u8 (32 + (q k : Int) % 95)))
        have hqk := HQ.out k
        obtain ⟨y, hy⟩ : ∃ y, q k = y := ⟨_, rfl⟩
        rw [hy] at s0 H2 HB2 hqk
        have hy0 : (0 : Int) ≤ (y : Int) % 95 := by omega
        have hy1 : (y : Int) % 95 < 95 := by omega
        clear hB hb hB2 hy
        go_wp2
        go_roundw
        case rel => exact ⟨k + 1, by omega, by go_num, H2.out, HB2.out⟩
        case measure => simp [intOf]; omega
      · obtain rfl : m = k := by omega
        have hB3 := hB.cast (cs' := (mx (m) (fun t => .int .u8 ((turn (q t) : Nat) : Int)) (fun t => .int .u8 (q t)) (m) ++ tl).toArray) (by
          congr 2)
        obtain ⟨t, hcs, ht1, ht2⟩ := row_string (c := c) hB3 (by omega) (fun t => by unfold turn; omega)
        have hpr : Pr t := fun j hj => by rw [ht1] at hj; rw [ht2 j hj]; unfold turn; omega
        have HTW := HT.out.below (hb.mono (Nat.le_refl _))
        have C1 := Hd.mk (identText t wr (by omega) hpr HTW)
        have C2 := Hd.mk (fun w' (hb : Below wr.heap.size wr w') => identText strA w' (by decide) prA (HTW.below hb))
        have C3 := Hd.mk (fun w' => scSimple t w' (by omega))
        have C4 := Hd.mk (fun w' => scQuoted t w' (by omega))
        have HCS := Hd.mk hcs; have HBW := Hd.mk hb
        have s1 := hcs wr (Below.refl _ _)
        clear hB hb hB3 ht1 ht2 hpr HTW hcs
        obtain ⟨T, hTT⟩ : ∃ T, idText t = T := ⟨_, rfl⟩
        obtain ⟨b, hbb⟩ : ∃ b, simpB t = b := ⟨_, rfl⟩
        have HTT := Hd.mk hTT; have HBB := Hd.mk hbb
        unfold IdOut at C1
        rw [hTT, hbb] at C1
        simp only [hbb] at C3
        clear hTT hbb
        go_wp2_with fail
        with_reducible refine C1.out.mono ?_
        rintro e w2 ⟨rfl, hb2⟩
        have C2w := C2.out w2 hb2
        unfold IdOut at C2w
        rw [idA.1, idA.2] at C2w
        unfold strA at C2w
        have C2w := Hd.mk C2w
        have HB2 := Hd.mk hb2
        clear hb2 C1 C2 s1
        go_wp2_with fail
        with_reducible refine C2w.out.mono ?_
        rintro e w3 ⟨rfl, hb3⟩
        have hb13 := HB2.out.trans (hb3.mono HB2.out.size)
        have s3 := HCS.out w3 hb13
        have HB3 := Hd.mk hb13
        clear hb3 hb13 C2w HB2
        go_wp2_with fail
        with_reducible refine (C3.out _).mono ?_
        rintro e w4 ⟨rfl, rfl⟩
        cases b
        · have hX : T = strOfNums (qz t t.size ++ [34]) := by rw [← HTT.out]; unfold idText; rw [HBB.out]; simp
          have HX := Hd.mk hX
          clear hX
          go_wp2_with fail
          with_reducible refine (C4.out _).mono ?_
          rintro e w5 ⟨rfl, hb5⟩
          have hb15 := HB3.out.trans (hb5.mono HB3.out.size)
          have s5 := HCS.out w5 hb15
          have HB5 := Hd.mk (HBW.out.trans (hb15.mono HBW.out.size))
          clear hb5 hb15 C4 s3
          rw [← HX.out]
          go_wp2_with fail
          with_reducible refine (C3.out _).mono ?_
          rintro e w6 ⟨rfl, rfl⟩
          go_wp2
          go_ret
          exact ⟨by simp, HB5.out⟩
        · have hX : T = t := by rw [← HTT.out]; unfold idText; rw [HBB.out]; simp
          have HB5 := Hd.mk (HBW.out.trans (HB3.out.mono HBW.out.size))
          subst hX
          go_wp2_with fail
          with_reducible refine (C3.out _).mono ?_
          rintro e w6 ⟨rfl, rfl⟩
          go_wp2
          go_ret
          exact ⟨by simp, HB5.out⟩
theorem u8types : U8Types Tryd.prog Tryd.lays197_ren := { t5 := Tryd.underlying5, t119 := Tryd.underlying38, t138 := Tryd.underlying40, t139 := Tryd.underlying41 }
theorem u8extra : Go.Proofs.U8Extra Tryd.prog Tryd.lays197_ren := { n3 := by kernel_rfl, n4 := by kernel_rfl, y3 := by kernel_rfl, y4 := by kernel_rfl, c5 := by kernel_rfl, c119 := by kernel_rfl, c138 := by kernel_rfl }
theorem prextra : Go.Proofs.PrintExtra Tryd.prog Tryd.lays339_ren := { n20 := by kernel_rfl, n21 := by kernel_rfl, n22 := by kernel_rfl, n23 := by kernel_rfl, y20 := by kernel_rfl, y21 := by kernel_rfl, y22 := by kernel_rfl, y23 := by kernel_rfl, c49 := by kernel_rfl, c51 := by kernel_rfl }
theorem tabs_of (w : World) (hL : laidMetH Tryd.prog YtanmgmiddmndjaaDoor.Rows.fnIdentifierRow.laid w) : Tabs w := by
  have h : laidMet Tryd.prog YtanmgmiddmndjaaDoor.Rows.fnIdentifierRow.laid w := hL
  obtain ⟨ps, hv, _⟩ := h
  have e1 : Pinned.utf8First = Go.Lib.firstData := Pinned.utf8First_eq
  have e2 : (YtanmgmiddmndjaaDoor.Rows.laid_unicode_utf8_acceptRanges : DataW Unit) = Go.Lib.acceptData := by kernel_rfl
  have r1 := Go.Lib.LaidVars_reads hv "unicode/utf8.first" Pinned.utf8First (by simp [YtanmgmiddmndjaaDoor.Rows.fnIdentifierRow, YtanmgmiddmndjaaDoor.Rows.laid_unicode_utf8_first])
  have r2 := Go.Lib.LaidVars_reads hv "unicode/utf8.acceptRanges" YtanmgmiddmndjaaDoor.Rows.laid_unicode_utf8_acceptRanges (by simp [YtanmgmiddmndjaaDoor.Rows.fnIdentifierRow])
  have r3 := Go.Lib.LaidVars_reads hv "strconv.isPrint16" Pinned.isPrint16 (by simp [YtanmgmiddmndjaaDoor.Rows.fnIdentifierRow, YtanmgmiddmndjaaDoor.Rows.laid_strconv_isPrint16])
  have r4 := Go.Lib.LaidVars_reads hv "strconv.isNotPrint16" Pinned.isNotPrint16 (by simp [YtanmgmiddmndjaaDoor.Rows.fnIdentifierRow, YtanmgmiddmndjaaDoor.Rows.laid_strconv_isNotPrint16])
  have r5 := Go.Lib.LaidVars_reads hv "strconv.isPrint32" Pinned.isPrint32 (by simp [YtanmgmiddmndjaaDoor.Rows.fnIdentifierRow, YtanmgmiddmndjaaDoor.Rows.laid_strconv_isPrint32])
  have r6 := Go.Lib.LaidVars_reads hv "strconv.isNotPrint32" Pinned.isNotPrint32 (by simp [YtanmgmiddmndjaaDoor.Rows.fnIdentifierRow, YtanmgmiddmndjaaDoor.Rows.laid_strconv_isNotPrint32])
  have h8 : Go.Lib.Utf8Tabs 0 1 w := Go.Proofs.utf8Tabs_of_readsT u8types u8extra (e1 ▸ r1) (e2 ▸ r2)
  refine ⟨Go.Proofs.printTabs_of_reads Tryd.lays339 prextra (Pinned.isPrint16_eq ▸ r3) (Pinned.isNotPrint16_eq ▸ r4) (Pinned.isPrint32_eq ▸ r5) (Pinned.isNotPrint32_eq ▸ r6), h8, ?_⟩
  have hc := (h8.2 0 (by decide)).1
  rcases Nat.lt_or_ge 1 w.heap.size with h' | h'
  · exact h'
  · simp [World.cell?, Array.getElem?_eq_none h'] at hc
theorem FnIdentifier (s : ByteArray) (w : World) (hs : s.size ≤ 140737488351232) (hL : laidMetH Tryd.prog YtanmgmiddmndjaaDoor.Rows.fnIdentifierRow.laid w) :
    Calls Tryd.prog 3 #[.string s] w fun e w' => e = .returned (.bool true) ∧ Below w.heap.size w w' := by
  by_cases hbig : s.size > 2147483647
  · have hbig' : (2147483647 : Int) < s.size := by omega
    clear hL
    go_enter Tryd.func3, Tryd.ntmps3
    go_wp2
    go_ret
    exact ⟨rfl, Below.refl _ _⟩
  by_cases h : s.size ≤ 60
  · exact law_walk s s s.size w (by omega) (by rw [show (min (s.size : Int) 60).toNat = s.size by omega]; simp) h rfl (tabs_of w hL)
  · exact law_walk s (s.extract 0 60) 60 w (by omega) (by rw [show (min (s.size : Int) 60).toNat = 60 by omega]) (by omega) (at_extract s 60 0 (by omega)).1 (tabs_of w hL)
end Go.Proofs.YtanmgmiddmndjaaDoor.Kb
