/- FnDistance: the small functions: heAscii, zzLower, ascii, heLower, RuneCountInString. -/
import Derived.Test.YtenefomcbjeccaaDisP
import Derived.LoopTactic
import Derived.Laws.RangeAny
namespace Go.Proofs.Ytenefomcbjeccaa.Kb
open Go Go.RowKit
set_option linter.unusedVariables false
set_option linter.unusedSimpArgs false
set_option maxHeartbeats 2000000
theorem and127 : ∀ y : Fin 256, bits .and .u8 ((y.1 : Nat) : Int) 127 = (((y.1 % 128 : Nat)) : Int) := by decide +kernel
/-- A text of ASCII is the result. -/
def AscOut (w : World) (e : Ending) (w' : World) : Prop := ∃ t, e = .returned (.string t) ∧ t.size ≤ 100 ∧ Asc t ∧ Below w.heap.size w w'
/-- A row of bytes as a string. -/
theorem row_string {w : World} {g n c : Nat} {tl : List Value} {p : Nat → Nat} {Q : Nat → Value} (h : BlkF w g (mx n (fun t => .int .u8 (p t)) Q n ++ tl).toArray 5) (hn : n ≤ 1000) (hp : ∀ t, p t < 256) :
    ∃ t, (convert 23 9 (.slice (some ⟨g, 0, none⟩) n c)).run Try.prog w = .ok (.string t) w ∧ t.size = n ∧ ∀ k, k < n → at_ t k = p k := by
  have hl : ((List.range n).map fun t => (p t : Int)).length = n := by simp
  have hr := h.rd ((List.range n).map fun t => (p t : Int)) (by omega) (fun j hj => by
    have hj' : j < n := by omega
    simp only [List.getElem?_toArray]
    rw [List.getElem?_append_left (by rw [mx_len]; exact hj'), mx_get _ _ _ _ _ hj', if_pos hj']
    simp)
  rw [hl] at hr
  have hb : ∀ x ∈ (List.range n).map fun t => (p t : Int), 0 ≤ x ∧ x < 256 := by
    intro x hx
    obtain ⟨t, _, rfl⟩ := List.mem_map.1 hx
    have := hp t
    omega
  refine ⟨_, str_run (P := Try.prog) (src := 23) (dst := 9) (c := c) Try.underlying23 Try.underlying5 Try.underlying9 hr, by rw [(at_str _ 0 hb).1, hl], fun k hk => ?_⟩
  have := (at_str _ k hb).2
  rw [List.getD_eq_getElem?_getD, List.getElem?_eq_getElem (by omega)] at this
  simp at this
  omega
set_option maxRecDepth 100000 in
theorem heAscii_walk (s u : ByteArray) (m : Nat) (w : World) (hs : s.size ≤ 2147483647) (h : (s.size ≤ 100 ∧ m = s.size ∧ u = s) ∨ (100 < s.size ∧ m = 100 ∧ u = s.extract 0 100)) (hul : u.size = m) : Calls Try.prog 11 #[.string s] w fun e w' => AscOut w e w' := by
  have hm : m ≤ 100 := by omega
  obtain ⟨c, tl, w1, hcv, hB, hb⟩ := bytesF (P := Try.prog) (src := 9) (dst := 23) w u Try.underlying9 Try.underlying23 Try.underlying5
  rw [hul] at hcv hB
  have HB := Hd.mk hB; have HBL := Hd.mk hb
  clear hB hb
  obtain ⟨q, hq⟩ : ∃ q, at_ u = q := ⟨_, rfl⟩
  have hq2 : ∀ k, q k < 256 := fun k => by rw [← hq]; exact at_lt u k
  rw [hq] at HB
  have HQ := Hd.mk hq2
  clear hq hq2 hul
  rcases h with ⟨h, rfl, rfl⟩ | ⟨h, rfl, rfl⟩
  · skip
    go_enter Try.func11, Try.ntmps11
    go_wp2
    go_loopw [13] (fun i wr => ∃ k : Nat, k ≤ u.size ∧ i = .int .i64 k ∧ BlkF wr w.heap.size (mx (u.size) (fun t => .int .u8 ((q t % 128 : Nat) : Int)) (fun t => .int .u8 (q t)) k ++ tl).toArray 5 ∧ Below w.heap.size w wr) (fun i _ => u.size - (intOf i).toNat)
    case atStart => exact ⟨0, Nat.zero_le _, rfl, HB.out.cast (by unfold mx; simp), HBL.out⟩
    case round =>
      obtain ⟨k, hk, rfl, hB, hb⟩ := hrel
      by_cases hlt : k < u.size
      · have s0 : wr.cell? ⟨w.heap.size, k, none⟩ = some (.int .u8 (q k)) := hB.cell k (by simp only [List.getElem?_toArray]; rw [List.getElem?_append_left (by rw [mx_len]; exact hlt), mx_get _ _ _ _ _ hlt, if_neg (Nat.lt_irrefl k)])
        have f0 := hB.free k (by rw [List.size_toArray, List.length_append, mx_len]; omega)
        have b0 : bits .and .u8 ((q k : Nat) : Int) 127 = ((q k % 128 : Nat) : Int) := and127 ⟨q k, HQ.out k⟩
        have hB2 := (hB.set k (.int .u8 ((q k % 128 : Nat) : Int))).cast (cs' := (mx (u.size) (fun t => .int .u8 ((q t % 128 : Nat) : Int)) (fun t => .int .u8 (q t)) (k + 1) ++ tl).toArray) (by
          rw [List.setIfInBounds_toArray, List.set_append_left _ _ (by rw [mx_len]; exact hlt)]
          rw [← mx_set _ (fun t => Value.int .u8 ((q t % 128 : Nat) : Int)) _ k hlt])
        have H2 := Hd.mk hB2; have HB2 := Hd.mk (hb.setCell (p := ⟨w.heap.size, k, none⟩) (Nat.le_refl _) (.int .u8 ((q k % 128 : Nat) : Int)))
        obtain ⟨y, hy⟩ : ∃ y, q k % 128 = y := ⟨_, rfl⟩
        rw [hy] at b0 H2 HB2
        clear hB hb hB2 hy
        go_wp2
        go_roundw
        case rel => exact ⟨k + 1, by omega, by go_num, H2.out, HB2.out⟩
        case measure => simp [intOf]; omega
      · have ek : k = u.size := by omega
        subst ek
        obtain ⟨t, hcs, ht1, ht2⟩ := row_string (c := c) hB (by omega) (fun t => by omega)
        have HT := Hd.mk (show AscOut w (.returned (.string t)) wr from ⟨t, rfl, by omega, fun j => by
          by_cases hj : j < u.size
          · rw [ht2 j hj]; omega
          · rw [at_out _ _ (by omega)]; decide, hb⟩)
        clear hB hb ht1 ht2
        go_wp2
        go_ret
        exact HT.out
  · skip
    go_enter Try.func11, Try.ntmps11
    go_wp2
    go_loopw [13] (fun i wr => ∃ k : Nat, k ≤ 100 ∧ i = .int .i64 k ∧ BlkF wr w.heap.size (mx (100) (fun t => .int .u8 ((q t % 128 : Nat) : Int)) (fun t => .int .u8 (q t)) k ++ tl).toArray 5 ∧ Below w.heap.size w wr) (fun i _ => 100 - (intOf i).toNat)
    case atStart => exact ⟨0, Nat.zero_le _, rfl, HB.out.cast (by unfold mx; simp), HBL.out⟩
    case round =>
      obtain ⟨k, hk, rfl, hB, hb⟩ := hrel
      by_cases hlt : k < 100
      · have s0 : wr.cell? ⟨w.heap.size, k, none⟩ = some (.int .u8 (q k)) := hB.cell k (by simp only [List.getElem?_toArray]; rw [List.getElem?_append_left (by rw [mx_len]; exact hlt), mx_get _ _ _ _ _ hlt, if_neg (Nat.lt_irrefl k)])
        have f0 := hB.free k (by rw [List.size_toArray, List.length_append, mx_len]; omega)
        have b0 : bits .and .u8 ((q k : Nat) : Int) 127 = ((q k % 128 : Nat) : Int) := and127 ⟨q k, HQ.out k⟩
        have hB2 := (hB.set k (.int .u8 ((q k % 128 : Nat) : Int))).cast (cs' := (mx (100) (fun t => .int .u8 ((q t % 128 : Nat) : Int)) (fun t => .int .u8 (q t)) (k + 1) ++ tl).toArray) (by
          rw [List.setIfInBounds_toArray, List.set_append_left _ _ (by rw [mx_len]; exact hlt)]
          rw [← mx_set _ (fun t => Value.int .u8 ((q t % 128 : Nat) : Int)) _ k hlt])
        have H2 := Hd.mk hB2; have HB2 := Hd.mk (hb.setCell (p := ⟨w.heap.size, k, none⟩) (Nat.le_refl _) (.int .u8 ((q k % 128 : Nat) : Int)))
        obtain ⟨y, hy⟩ : ∃ y, q k % 128 = y := ⟨_, rfl⟩
        rw [hy] at b0 H2 HB2
        clear hB hb hB2 hy
        go_wp2
        go_roundw
        case rel => exact ⟨k + 1, by omega, by go_num, H2.out, HB2.out⟩
        case measure => simp [intOf]; omega
      · have ek : k = 100 := by omega
        subst ek
        obtain ⟨t, hcs, ht1, ht2⟩ := row_string (c := c) hB (by omega) (fun t => by omega)
        have HT := Hd.mk (show AscOut w (.returned (.string t)) wr from ⟨t, rfl, by omega, fun j => by
          by_cases hj : j < 100
          · rw [ht2 j hj]; omega
          · rw [at_out _ _ (by omega)]; decide, hb⟩)
        clear hB hb ht1 ht2
        go_wp2
        go_ret
        exact HT.out
theorem heAscii (s : ByteArray) (w : World) (hs : s.size ≤ 2147483647) : Calls Try.prog 11 #[.string s] w fun e w' => AscOut w e w' := by
  by_cases h : s.size ≤ 100
  · exact heAscii_walk s s s.size w hs (.inl ⟨h, rfl, rfl⟩) rfl
  · exact heAscii_walk s (s.extract 0 100) 100 w hs (.inr ⟨by omega, rfl, rfl⟩) (at_extract s 100 0 (by omega)).1
/-- A text in small letters is the result. -/
def LowOut (s : ByteArray) (w : World) (e : Ending) (w' : World) : Prop := ∃ t, e = .returned (.string t) ∧ t.size = s.size ∧ (∀ k, at_ t k = lw (at_ s k)) ∧ Below w.heap.size w w'
set_option maxRecDepth 100000 in
theorem zzLower (s : ByteArray) (w : World) (hs : s.size ≤ 1000) : Calls Try.prog 38 #[.string s] w fun e w' => LowOut s w e w' := by
  obtain ⟨c, tl, w1, hcv, hB, hb⟩ := bytesF (P := Try.prog) (src := 9) (dst := 23) w s Try.underlying9 Try.underlying23 Try.underlying5
  have HB := Hd.mk hB; have HBL := Hd.mk hb
  clear hB hb
  have hq2 : ∀ k, at_ s k < 256 := fun k => at_lt s k
  have hout : ∀ k, s.size ≤ k → at_ s k = 0 := fun k => at_out s k
  obtain ⟨q, hq⟩ : ∃ q, at_ s = q := ⟨_, rfl⟩
  simp only [hq] at hq2 HB hout
  obtain ⟨n, hn⟩ : ∃ n, s.size = n := ⟨_, rfl⟩
  rw [hn] at HB hcv hs
  have HQ := Hd.mk hq2; have HO := Hd.mk hout; have HQQ := Hd.mk hq; have HN := Hd.mk hn
  clear hq2 hq hn hout
  go_enter Try.func38, Try.ntmps38
  go_wp2
  go_loopw [9] (fun i wr => ∃ k : Nat, k ≤ n ∧ i = .int .i64 k ∧ BlkF wr w.heap.size (mx n (fun t => .int .u8 ((lw (q t) : Nat) : Int)) (fun t => .int .u8 (q t)) k ++ tl).toArray 5 ∧ Below w.heap.size w wr) (fun i _ => n - (intOf i).toNat)
  case atStart => exact ⟨0, Nat.zero_le _, rfl, HB.out.cast (by unfold mx; simp), HBL.out⟩
  case round =>
    obtain ⟨k, hk, rfl, hB, hb⟩ := hrel
    by_cases hlt : k < n
    · have s0 : wr.cell? ⟨w.heap.size, k, none⟩ = some (.int .u8 (q k)) := hB.cell k (by simp only [List.getElem?_toArray]; rw [List.getElem?_append_left (by rw [mx_len]; exact hlt), mx_get _ _ _ _ _ hlt, if_neg (Nat.lt_irrefl k)])
      have f0 := hB.free k (by rw [List.size_toArray, List.length_append, mx_len]; omega)
      have hqk := HQ.out k
      rcases (by omega : q k < 65 ∨ (65 ≤ q k ∧ q k ≤ 90) ∨ 90 < q k) with hA | hA | hA
      · have hlw : lw (q k) = q k := by unfold lw; rw [if_neg (by omega)]
        have hB2 := hB.cast (cs' := (mx n (fun t => .int .u8 ((lw (q t) : Nat) : Int)) (fun t => .int .u8 (q t)) (k + 1) ++ tl).toArray) (by
          congr 2
          unfold mx
          apply List.map_congr_left
          intro t ht
          by_cases h1 : t < k
          · rw [if_pos h1, if_pos (by omega)]
          · rw [if_neg h1]
            by_cases h2 : t = k
            · subst h2; rw [if_pos (by omega)]; simp only [hlw]
            · rw [if_neg (by omega)])
        have H2 := Hd.mk hB2; have HB2 := Hd.mk hb
        obtain ⟨y, hy⟩ : ∃ y, q k = y := ⟨_, rfl⟩
        rw [hy] at s0 hA hqk
        have hA' : ¬ (65 : Int) ≤ y := by omega
        clear hB hb hB2 hy hlw
        go_wp2
        go_roundw
        case rel => exact ⟨k + 1, by omega, by go_num, H2.out, HB2.out⟩
        case measure => simp [intOf]; omega
      · have hlw : lw (q k) = q k + 32 := by unfold lw; rw [if_pos (by omega)]
        have hB2 := (hB.set k (.int .u8 ((lw (q k) : Nat) : Int))).cast (cs' := (mx n (fun t => .int .u8 ((lw (q t) : Nat) : Int)) (fun t => .int .u8 (q t)) (k + 1) ++ tl).toArray) (by
          rw [List.setIfInBounds_toArray, List.set_append_left _ _ (by rw [mx_len]; exact hlt)]
          rw [← mx_set _ (fun t => Value.int .u8 ((lw (q t) : Nat) : Int)) _ k hlt])
        have H2 := Hd.mk hB2; have HB2 := Hd.mk (hb.setCell (p := ⟨w.heap.size, k, none⟩) (Nat.le_refl _) (.int .u8 ((lw (q k) : Nat) : Int)))
        rw [hlw] at H2 HB2
        obtain ⟨y, hy⟩ : ∃ y, q k = y := ⟨_, rfl⟩
        rw [hy] at s0 hA hqk HB2
        rw [hy] at H2
        obtain ⟨hA1, hA2⟩ := hA
        have hA' : (65 : Int) ≤ y := by omega
        have hA2' : (y : Int) ≤ 90 := by omega
        have hw8 : ((y : Int) + 32) % 256 = ((y + 32 : Nat) : Int) := by omega
        clear hB hb hB2 hy hlw
        go_wp2
        go_roundw
        case rel => exact ⟨k + 1, by omega, by go_num, H2.out, HB2.out⟩
        case measure => simp [intOf]; omega
      · have hlw : lw (q k) = q k := by unfold lw; rw [if_neg (by omega)]
        have hB2 := hB.cast (cs' := (mx n (fun t => .int .u8 ((lw (q t) : Nat) : Int)) (fun t => .int .u8 (q t)) (k + 1) ++ tl).toArray) (by
          congr 2
          unfold mx
          apply List.map_congr_left
          intro t ht
          by_cases h1 : t < k
          · rw [if_pos h1, if_pos (by omega)]
          · rw [if_neg h1]
            by_cases h2 : t = k
            · subst h2; rw [if_pos (by omega)]; simp only [hlw]
            · rw [if_neg (by omega)])
        have H2 := Hd.mk hB2; have HB2 := Hd.mk hb
        obtain ⟨y, hy⟩ : ∃ y, q k = y := ⟨_, rfl⟩
        rw [hy] at s0 hA hqk
        have hA' : (65 : Int) ≤ y := by omega
        have hA2' : ¬ (y : Int) ≤ 90 := by omega
        clear hB hb hB2 hy hlw
        go_wp2
        go_roundw
        case rel => exact ⟨k + 1, by omega, by go_num, H2.out, HB2.out⟩
        case measure => simp [intOf]; omega
    · have ek : k = n := by omega
      subst ek
      obtain ⟨t, hcs, ht1, ht2⟩ := row_string (c := c) (p := fun t => lw (q t)) hB hs (fun t => by have := HQ.out t; show lw (q t) < 256; unfold lw; split <;> omega)
      have HT := Hd.mk (show LowOut s w (.returned (.string t)) wr from ⟨t, rfl, by rw [HN.out]; exact ht1, fun j => by
        rw [HQQ.out]
        by_cases hj : j < k
        · exact ht2 j hj
        · rw [at_out _ _ (by omega), HO.out j (by rw [HN.out]; omega)]; rfl, hb⟩)
      clear hB hb ht1 ht2
      go_wp2
      go_ret
      exact HT.out
set_option maxRecDepth 100000 in
theorem isAscii (s : ByteArray) (w : World) (hs : s.size ≤ 1000) (ha : Asc s) : Calls Try.prog 24 #[.string s] w fun e w' => e = .returned (.bool true) ∧ w' = w := by
  have HA := Hd.mk ha
  clear ha
  go_enter Try.func24, Try.ntmps24
  go_wp2
  go_loop [3] (fun i => ∃ k : Nat, k ≤ s.size ∧ i = .int .i64 k) (fun i => s.size - (intOf i).toNat)
  case atStart => exact ⟨0, Nat.zero_le _, rfl⟩
  case round =>
    obtain ⟨k, hk, rfl⟩ := hrel
    by_cases hlt : k < s.size
    · have hg := at_get s k hlt
      have hx := HA.out k
      rw [← hg] at hx
      obtain ⟨x, hxx⟩ : ∃ x, (s[k]'hlt).toNat = x := ⟨_, rfl⟩
      rw [hxx] at hx hg
      have hx2 : ¬ (128 : Int) ≤ x := by omega
      clear hg
      go_wp2
      go_round
      case rel => exact ⟨k + 1, by omega, by go_num⟩
      case measure => simp [intOf]; omega
    · obtain rfl : k = s.size := by omega
      go_wp2
      go_ret
      exact ⟨rfl, rfl⟩
set_option maxRecDepth 100000 in
theorem heLower (x : Nat) (w : World) (hx : x < 256) : Calls Try.prog 26 #[.int .u8 x] w fun e w' => e = .returned (.int .u8 (lw x)) ∧ w' = w := by
  rcases (by omega : x < 65 ∨ (65 ≤ x ∧ x ≤ 90) ∨ 90 < x) with hA | hA | hA
  · have hl : lw x = x := by unfold lw; rw [if_neg (by omega)]
    rw [hl]
    have hA' : ¬ (65 : Int) ≤ x := by omega
    clear hl
    go_enter Try.func26, Try.ntmps26
    go_wp2
    go_ret
    exact ⟨rfl, rfl⟩
  · have hl : lw x = x + 32 := by unfold lw; rw [if_pos hA]
    rw [hl]
    obtain ⟨hA1, hA2⟩ := hA
    have hA' : (65 : Int) ≤ x := by omega
    have hA2' : (x : Int) ≤ 90 := by omega
    have hw8 : ((x : Int) + 32) % 256 = ((x + 32 : Nat) : Int) := by omega
    clear hl
    go_enter Try.func26, Try.ntmps26
    go_wp2
    go_ret
    exact ⟨rfl, rfl⟩
  · have hl : lw x = x := by unfold lw; rw [if_neg (by omega)]
    rw [hl]
    have hA' : (65 : Int) ≤ x := by omega
    have hA2' : ¬ (x : Int) ≤ 90 := by omega
    clear hl
    go_enter Try.func26, Try.ntmps26
    go_wp2
    go_ret
    exact ⟨rfl, rfl⟩
set_option maxRecDepth 100000 in
theorem runeCount (s : ByteArray) (w : World) (hs : s.size ≤ 1000) (ha : Asc s) : Calls Try.prog 50 #[.string s] w fun e w' => e = .returned (.int .i64 s.size) ∧ Below w.heap.size w w' := by
  have HA := Hd.mk ha
  clear ha
  go_enter Try.func50, Try.ntmps50
  go_wp2
  go_loopw [2] (fun n w' => ∃ pos : Nat, w' = w.iter s pos ∧ n = .int .i64 pos ∧ pos ≤ s.size) (fun _ w' => s.size - w'.iterPos w.heap.size)
  case atStart => exact ⟨0, rfl, rfl, Nat.zero_le _⟩
  case round =>
    obtain ⟨pos, rfl, rfl, hle⟩ := hrel
    by_cases hp : pos < s.size
    · have hx : (s[pos]'hp).toNat < 128 := by rw [at_get]; exact HA.out pos
      have hnx : ∀ ty, (Instr.next (.pointer (some ⟨w.heap.size, 0, none⟩)) true ty).run Try.prog (w.iter s pos) = _ := fun ty => run_next_ascii w s pos ty hp hx
      clear hx
      go_wp2
      go_roundw
      case rel => exact ⟨pos + 1, rfl, by go_num, by omega⟩
      case measure => simp; omega
    · have hnx : ∀ ty, (Instr.next (.pointer (some ⟨w.heap.size, 0, none⟩)) true ty).run Try.prog (w.iter s pos) = _ := fun ty => run_next_end w s pos ty hp
      obtain rfl : pos = s.size := by omega
      go_wp2
      go_ret
      exact ⟨rfl, (Below.refl _ _).alloc (Nat.le_refl _) _⟩
end Go.Proofs.Ytenefomcbjeccaa.Kb
