/- FnIdentifier: the specification's quoting; String; the door. -/
import Derived.Test.YtanmgmiddmndjaaDoorIdnQ
import Derived.Test.YtanmgmiddmndjaaDoorShelf
import Derived.Lib.PrintData
namespace Go.Proofs.YtanmgmiddmndjaaDoor.Kb
open Go Go.RowKit
set_option linter.unusedVariables false
set_option linter.unusedSimpArgs false
set_option maxHeartbeats 4000000
theorem infoBy : (Tryd.prog.info? 5).map (fun i => (i.zero, i.size, i.bytes)) = some (some (.int .u8 0), 1, 1) := by kernel_rfl
def StrOut (t : ByteArray) (w : World) (e : Ending) (w' : World) : Prop := e = .returned (.string t) ∧ Below w.heap.size w w'
set_option maxRecDepth 100000 in
theorem scQuoted (s : ByteArray) (w : World) (hs : s.size ≤ 1000) : Calls Tryd.prog 6 #[.string s] w fun e w' => StrOut (strOfNums (qz s s.size ++ [34])) w e w' := by
  obtain ⟨i0, hi, hz0, hz1, hz2⟩ := info_of infoBy
  have I := Hd.mk (And.intro hi (And.intro hz0 (And.intro hz1 hz2)))
  have ho : (w.alloc (.cells #[.int .u8 34] 5)).ownsRow w.heap.size 5 1 (.slice (some ⟨w.heap.size, 0, none⟩) 1 1) 1 (bc (qz s 0)) := World.ownsRow_lit w #[.int .u8 34] 1 (Nat.le_refl _) (by decide) rfl
  have hb : Below w.heap.size w (w.alloc (.cells #[.int .u8 34] 5)) := (Below.refl _ _).alloc (Nat.le_refl _) _
  have HO := Hd.mk ho; have HB := Hd.mk hb
  clear hi hz0 hz1 hz2 ho hb
  go_enter Tryd.func6, Tryd.ntmps6
  go_wp2
  go_loopw [3, 4] (fun v i wr => ∃ k : Nat, k ≤ s.size ∧ i = .int .i64 k ∧ wr.ownsRow w.heap.size 5 1 v (qz s k).length (bc (qz s k)) ∧ Below w.heap.size w wr) (fun _ i _ => s.size - (intOf i).toNat)
  case atStart => exact ⟨0, Nat.zero_le _, rfl, HO.out, HB.out⟩
  case round =>
    obtain ⟨k, hk, rfl, hown, hbw⟩ := hrel
    have hq := qz_len s k
    obtain ⟨L, hL⟩ : ∃ L, (qz s k).length = L := ⟨_, rfl⟩
    rw [hL] at hown hq
    have HL := Hd.mk hL
    clear hL
    by_cases hlt : k < s.size
    · have hg := at_get s k hlt
      obtain ⟨x, hxx⟩ : ∃ x, (s[k]'hlt).toNat = x := ⟨_, rfl⟩
      rw [hxx] at hg
      have HN : Hd (qz s (k + 1) = qz s k ++ esc x) := ⟨by rw [hg]; rfl⟩
      clear hg
      rcases (by omega : x = 34 ∨ x = 92 ∨ (x ≠ 34 ∧ x ≠ 92)) with rfl | rfl | ⟨n1, n2⟩
      · have hown1 := hown.alloc (.cells #[.int .u8 92] 5)
        have HO1 := Hd.mk hown1; have HB1 := Hd.mk (hbw.alloc hbw.size (.cells #[.int .u8 92] 5))
        clear hown hbw hown1
        go_wp2_with (at_builtin; refine wpList_append_one rfl (.tmp 22) (.tmp 23) 22 rfl Tryd.underlying22 I.out.1 I.out.2.1 I.out.2.2.1 I.out.2.2.2 rfl rfl HO1.out (by simp [Act.eval, Act.put]) (Blk.new wr #[.int .u8 92] 5) rfl (by unfold maxLen; omega) (by omega) HB1.out.size ?_)
        intro v1 w1 own1 g1
        have HO2 := Hd.mk (own1.alloc (.cells #[.int .u8 34] 5))
        have hb1 := below_grown_own HB1.out HO1.out HB1.out.size (Nat.le_refl _) g1
        have HB2 := Hd.mk (hb1.alloc hb1.size (.cells #[.int .u8 34] 5))
        clear own1 g1 hb1
        go_wp2_with (at_builtin; refine wpList_append_one rfl (.tmp 25) (.tmp 29) 22 rfl Tryd.underlying22 I.out.1 I.out.2.1 I.out.2.2.1 I.out.2.2.2 rfl rfl HO2.out (by simp [Act.eval, Act.put]) (Blk.new w1 #[.int .u8 34] 5) rfl (by unfold maxLen; omega) (by omega) HB2.out.size ?_)
        intro v2 w2 own2 g2
        have HO3 := Hd.mk own2
        have HB3 := Hd.mk (below_grown_own HB2.out HO2.out HB2.out.size (Nat.le_refl _) g2)
        clear own2 g2
        go_wp2
        go_roundw
        case rel =>
          refine ⟨k + 1, by omega, by go_num, ?_, HB3.out⟩
          rw [HN.out]
          have := HO3.out
          simpa [esc, HL.out] using this
        case measure => simp [intOf]; omega
      · have hown1 := hown.alloc (.cells #[.int .u8 92] 5)
        have HO1 := Hd.mk hown1; have HB1 := Hd.mk (hbw.alloc hbw.size (.cells #[.int .u8 92] 5))
        clear hown hbw hown1
        go_wp2_with (at_builtin; refine wpList_append_one rfl (.tmp 22) (.tmp 23) 22 rfl Tryd.underlying22 I.out.1 I.out.2.1 I.out.2.2.1 I.out.2.2.2 rfl rfl HO1.out (by simp [Act.eval, Act.put]) (Blk.new wr #[.int .u8 92] 5) rfl (by unfold maxLen; omega) (by omega) HB1.out.size ?_)
        intro v1 w1 own1 g1
        have HO2 := Hd.mk (own1.alloc (.cells #[.int .u8 92] 5))
        have hb1 := below_grown_own HB1.out HO1.out HB1.out.size (Nat.le_refl _) g1
        have HB2 := Hd.mk (hb1.alloc hb1.size (.cells #[.int .u8 92] 5))
        clear own1 g1 hb1
        go_wp2_with (at_builtin; refine wpList_append_one rfl (.tmp 25) (.tmp 29) 22 rfl Tryd.underlying22 I.out.1 I.out.2.1 I.out.2.2.1 I.out.2.2.2 rfl rfl HO2.out (by simp [Act.eval, Act.put]) (Blk.new w1 #[.int .u8 92] 5) rfl (by unfold maxLen; omega) (by omega) HB2.out.size ?_)
        intro v2 w2 own2 g2
        have HO3 := Hd.mk own2
        have HB3 := Hd.mk (below_grown_own HB2.out HO2.out HB2.out.size (Nat.le_refl _) g2)
        clear own2 g2
        go_wp2
        go_roundw
        case rel =>
          refine ⟨k + 1, by omega, by go_num, ?_, HB3.out⟩
          rw [HN.out]
          have := HO3.out
          simpa [esc, HL.out] using this
        case measure => simp [intOf]; omega
      · have e34 : ((x : Int) == 34) = false := by simp; omega
        have e92 : ((x : Int) == 92) = false := by simp; omega
        have HE : Hd (esc x = [(x : Int)]) := ⟨by unfold esc; rw [if_neg (by omega)]⟩
        have HO2 := Hd.mk (hown.alloc (.cells #[.int .u8 x] 5)); have HB2 := Hd.mk (hbw.alloc hbw.size (.cells #[.int .u8 x] 5))
        clear hown hbw
        go_wp2_with (at_builtin; refine wpList_append_one rfl (.tmp 25) (.tmp 29) 22 rfl Tryd.underlying22 I.out.1 I.out.2.1 I.out.2.2.1 I.out.2.2.2 rfl rfl HO2.out (by simp [Act.eval, Act.put]) (Blk.new wr #[.int .u8 x] 5) rfl (by unfold maxLen; omega) (by omega) HB2.out.size ?_)
        intro v2 w2 own2 g2
        have HO3 := Hd.mk own2
        have HB3 := Hd.mk (below_grown_own HB2.out HO2.out HB2.out.size (Nat.le_refl _) g2)
        clear own2 g2
        go_wp2
        go_roundw
        case rel =>
          refine ⟨k + 1, by omega, by go_num, ?_, HB3.out⟩
          rw [HN.out, HE.out]
          have := HO3.out
          simpa [HL.out] using this
        case measure => simp [intOf]; omega
    · obtain rfl : k = s.size := by omega
      have HO2 := Hd.mk (hown.alloc (.cells #[.int .u8 34] 5)); have HB2 := Hd.mk (hbw.alloc hbw.size (.cells #[.int .u8 34] 5))
      clear hown hbw
      go_wp2_with (at_builtin; refine wpList_append_one rfl (.tmp 31) (.tmp 32) 22 rfl Tryd.underlying22 I.out.1 I.out.2.1 I.out.2.2.1 I.out.2.2.2 rfl rfl HO2.out (by simp [Act.eval, Act.put]) (Blk.new wr #[.int .u8 34] 5) rfl (by unfold maxLen; omega) (by omega) HB2.out.size ?_)
      intro v2 w2 own2 g2
      have HB3 := Hd.mk (below_grown_own HB2.out HO2.out HB2.out.size (Nat.le_refl _) g2)
      have own3 : w2.ownsRow w.heap.size 5 1 v2 (L + 1) (bc (qz s s.size ++ [34])) := by simpa using own2
      obtain ⟨A, c, rfl, _, _, hr, _, _⟩ := own_rd own3 (by omega)
      have s1 := str_run (P := Tryd.prog) (src := 22) (dst := 9) (c := c) Tryd.underlying22 Tryd.underlying5 Tryd.underlying9 hr
      clear own2 g2 own3 hr
      go_wp2
      go_ret
      exact ⟨rfl, HB3.out⟩
/-- A table stays where it is. -/
theorem tab_below {g : Nat} {k : IntKind} {l : List Nat} {w w' : World} (h : Lib.TabSlice g k l w) (hb : Below w.heap.size w w') (h0 : 0 < l.length) : Lib.TabSlice g k l w' := by
  obtain ⟨R, o, c, h1, h2⟩ := h
  have lt : ∀ {a : Addr} {v : Value}, w.cell? a = some v → a.block < w.heap.size := fun {a v} h => by
    rcases Nat.lt_or_ge a.block w.heap.size with h' | h'
    · exact h'
    · simp [World.cell?, Array.getElem?_eq_none h'] at h
  exact ⟨R, o, c, (hb.cell (p := ⟨g, 0, none⟩) (lt h1)).trans h1, fun j hj => (hb.cell (p := ⟨R, o + j, none⟩) (lt (h2 j hj))).trans (h2 j hj)⟩
/-- What strconv.Quote wants of the world. -/
def Tabs (w : World) : Prop := Lib.PrintTabsAt 2 3 4 5 Lib.goPrintTabs w ∧ Lib.Utf8Tabs 0 1 w ∧ 2 ≤ w.heap.size
theorem Tabs.below {w w' : World} (h : Tabs w) (hb : Below w.heap.size w w') : Tabs w' := by
  obtain ⟨⟨a, b, c, d, e, f⟩, ⟨h1, h2⟩, hg⟩ := h
  exact ⟨⟨tab_below a hb e.1, tab_below b hb e.2.1, tab_below c hb e.2.2.1, tab_below d hb e.2.2.2, e, f⟩, ⟨fun k hk => by rw [World.cell?_of_block (w := w) (hb.block 0 (by omega))]; exact h1 k hk, fun i hi => ⟨(World.cell?_of_block (w := w) (a := ⟨1, 2 * i, none⟩) (hb.block 1 (by omega))).trans (h2 i hi).1, (World.cell?_of_block (w := w) (a := ⟨1, 2 * i + 1, none⟩) (hb.block 1 (by omega))).trans (h2 i hi).2⟩⟩, Nat.le_trans hg hb.size⟩
/-- The text of an identifier. -/
def idText (s : ByteArray) : ByteArray := if simpB s = true then s else strOfNums (qz s s.size ++ [34])
def Pr (s : ByteArray) : Prop := ∀ k, k < s.size → 32 ≤ at_ s k ∧ at_ s k ≤ 126
theorem Pr.asc {s : ByteArray} (h : Pr s) : Asc s := fun k => by
  by_cases hk : k < s.size
  · have := h k hk; omega
  · rw [at_out s k (by omega)]; decide
set_option maxRecDepth 100000 in
theorem idString (s : ByteArray) (w : World) (hs : s.size ≤ 1000) (hp : Pr s) (hT : Tabs w) : Calls Tryd.prog 8 #[.string s] w fun e w' => StrOut (idText s) w e w' := by
  have C := Hd.mk (isSimple s w hs hp.asc)
  have C2 := Hd.mk (fun (w' : World) (hb : Below w.heap.size w w') => Tryd.strconv_Quote Lib.goPrintTabs s w' (by omega) (hT.below hb).1 (hT.below hb).2.1)
  rw [quote_all Lib.goPrintTabs s hp] at C2
  unfold idText
  clear hT
  obtain ⟨b, hb⟩ : ∃ b, simpB s = b := ⟨_, rfl⟩
  rw [hb] at C ⊢
  clear hb
  cases b
  all_goals
    go_enter Tryd.func8, Tryd.ntmps8
    go_wp2_with fail
    with_reducible refine C.out.mono ?_
    rintro e w1 ⟨rfl, hb⟩
    have HB := Hd.mk hb
    have C3 := Hd.mk (C2.out w1 hb)
    clear hb C C2
    go_wp2_with fail
  · with_reducible refine C3.out.mono ?_
    rintro e w2 ⟨rfl, hb⟩
    have HB2 := Hd.mk (HB.out.trans (hb.mono HB.out.size))
    clear hb C3
    go_wp2
    go_ret
    exact ⟨rfl, HB2.out⟩
  · go_ret
    exact ⟨rfl, HB.out⟩
set_option maxRecDepth 100000 in
theorem zzSimple (s : ByteArray) (w : World) (hs : s.size ≤ 1000) (hp : Pr s) : Calls Tryd.prog 9 #[.string s] w fun e w' => SimpOut (simpB s) w e w' := by
  have C := Hd.mk (isSimple s w hs hp.asc)
  go_enter Tryd.func9, Tryd.ntmps9
  go_wp2_with fail
  with_reducible refine C.out.mono ?_
  rintro e w1 ⟨rfl, hb⟩
  have HB := Hd.mk hb
  clear hb C
  go_wp2
  go_ret
  exact ⟨rfl, HB.out⟩
def IdOut (s : ByteArray) (w : World) (e : Ending) (w' : World) : Prop := e = .returned (.tuple #[.string (idText s), .bool (simpB s), .int .i64 0]) ∧ Below w.heap.size w w'
set_option maxRecDepth 100000 in
theorem identText (s : ByteArray) (w : World) (hs : s.size ≤ 1000) (hp : Pr s) (hT : Tabs w) : Calls Tryd.prog 4 #[.string s] w fun e w' => IdOut s w e w' := by
  have C := Hd.mk (isAscii s w hs hp.asc)
  have C2 := Hd.mk (idString s w hs hp hT)
  have C3 := Hd.mk (fun w' => zzSimple s w' hs hp)
  clear hT
  obtain ⟨t, ht⟩ : ∃ t, idText s = t := ⟨_, rfl⟩
  obtain ⟨b, hb⟩ : ∃ b, simpB s = b := ⟨_, rfl⟩
  unfold IdOut
  rw [ht] at C2 ⊢
  simp only [hb] at C3 ⊢
  clear ht hb
  go_enter Tryd.func4, Tryd.ntmps4
  go_wp2_with fail
  with_reducible refine C.out.mono ?_
  rintro e w1 ⟨rfl, rfl⟩
  clear C
  go_wp2_with fail
  with_reducible refine C2.out.mono ?_
  rintro e w2 ⟨rfl, hb⟩
  have HB := Hd.mk hb
  clear hb C2
  go_wp2_with fail
  with_reducible refine (C3.out _).mono ?_
  rintro e w3 ⟨rfl, hb⟩
  have HB2 := Hd.mk (HB.out.trans (hb.mono HB.out.size))
  clear hb C3
  go_wp2
  go_ret3
  exact ⟨rfl, HB2.out⟩
end Go.Proofs.YtanmgmiddmndjaaDoor.Kb
