/- cesu8.EncodeRune and RuneLen; the reference's CeIs, CeLen, ceThree, CeRune. -/
import Derived.Test.YtmgckcngedpgoaaDoorCrune
import Derived.Test.YtmgckcngedpgoaaDoorOwnr
namespace Go.Proofs.YtmgckcngedpgoaaDoor.Kb
open Go Go.RowKit
set_option linter.unusedVariables false
set_option linter.unusedSimpArgs false
set_option maxHeartbeats 2000000
set_option maxRecDepth 100000 in
theorem cesu_enc (g off n c : Nat) (cur : List Value) (t : TypeId) (r : Int) (w : World) (hg : Blk w g cur.toArray t) (hn : off + (encC r).length ≤ cur.length) (hm : (encC r).length ≤ n) (hnc : n ≤ 1000000000) (h0 : 0 ≤ r) (h1 : r ≤ 1114111) :
    Calls Tryd.prog 123 #[.slice (some ⟨g, off, none⟩) n c, .int .i32 r] w fun e w' => Put w g off cur t (encC r) e w' := by
  by_cases hA : r ≤ 65535
  · have hE : encC r = encU r := by unfold encC; rw [if_pos (by omega)]
    rw [hE] at hn hm
    have C := Hd.mk (utf8_enc g off n c cur t r w hg hn hm hnc h0 h1)
    have HE := Hd.mk hE
    clear hg hn hm hE
    go_enter Tryd.func123, Tryd.ntmps123
    go_wp2_with fail
    with_reducible refine C.out.mono ?_
    rintro e w1 ⟨rfl, h1, h2⟩
    have H1 := Hd.mk h1; have H2 := Hd.mk h2
    clear h1 h2 C
    go_wp2
    go_ret
    rw [HE.out]
    exact ⟨rfl, H1.out, H2.out⟩
  · have hE : encC r = [224 + hiS r / 4096, 128 + hiS r / 64 % 64, 128 + hiS r % 64, 224 + loS r / 4096, 128 + loS r / 64 % 64, 128 + loS r % 64] := by unfold encC; rw [if_neg (by omega)]
    rw [hE] at hn hm
    simp only [List.length_cons, List.length_nil, Nat.zero_add, Nat.reduceAdd] at hn hm
    have bh : 55296 ≤ hiS r ∧ hiS r ≤ 56319 := by unfold hiS; omega
    have bl : 56320 ≤ loS r ∧ loS r ≤ 57343 := by unfold loS; omega
    have C := Hd.mk (utf16_enc r w (by omega) h1)
    generalize hiS r = h at *
    generalize loS r = l at *
    obtain ⟨bh0, bh1⟩ := bh; obtain ⟨bl0, bl1⟩ := bl
    have c0 : w.cell? ⟨g, off, none⟩ = some (cur[off]'(by omega)) := hg.cell (off) (by simp [show off < cur.length by omega]); have f0 := hg.free (off)
    have c1 : w.cell? ⟨g, off + 1, none⟩ = some (cur[off + 1]'(by omega)) := hg.cell (off + 1) (by simp [show off + 1 < cur.length by omega]); have f1 := hg.free (off + 1)
    have c2 : w.cell? ⟨g, off + 2, none⟩ = some (cur[off + 2]'(by omega)) := hg.cell (off + 2) (by simp [show off + 2 < cur.length by omega]); have f2 := hg.free (off + 2)
    have c3 : w.cell? ⟨g, off + 3, none⟩ = some (cur[off + 3]'(by omega)) := hg.cell (off + 3) (by simp [show off + 3 < cur.length by omega]); have f3 := hg.free (off + 3)
    have c4 : w.cell? ⟨g, off + 4, none⟩ = some (cur[off + 4]'(by omega)) := hg.cell (off + 4) (by simp [show off + 4 < cur.length by omega]); have f4 := hg.free (off + 4)
    have c5 : w.cell? ⟨g, off + 5, none⟩ = some (cur[off + 5]'(by omega)) := hg.cell (off + 5) (by simp [show off + 5 < cur.length by omega]); have f5 := hg.free (off + 5)
    have b1 : bits .or .u8 224 (h / 4096 % 256) = 224 + h / 4096 := by rw [or224' _ (by omega) (by omega)]; omega
    have b2 : bits .and .u8 (h / 64 % 256) 63 = h / 64 % 64 := and63' (h / 64); have b2o : bits .or .u8 128 (h / 64 % 64) = 128 + h / 64 % 64 := or128' _ (by omega) (by omega)
    have b3 : bits .and .u8 (h % 256) 63 = h % 64 := and63' h; have b3o : bits .or .u8 128 (h % 64) = 128 + h % 64 := or128' _ (by omega) (by omega)
    have d1 : bits .or .u8 224 (l / 4096 % 256) = 224 + l / 4096 := by rw [or224' _ (by omega) (by omega)]; omega
    have d2 : bits .and .u8 (l / 64 % 256) 63 = l / 64 % 64 := and63' (l / 64); have d2o : bits .or .u8 128 (l / 64 % 64) = 128 + l / 64 % 64 := or128' _ (by omega) (by omega)
    have d3 : bits .and .u8 (l % 256) 63 = l % 64 := and63' l; have d3o : bits .or .u8 128 (l % 64) = 128 + l % 64 := or128' _ (by omega) (by omega)
    have HG := Hd.mk hg; have HE := Hd.mk hE
    clear hg hE
    go_enter Tryd.func123, Tryd.ntmps123
    go_wp2_with fail
    with_reducible refine C.out.mono ?_
    rintro e w1 ⟨rfl, rfl⟩
    clear C
    go_wp2
    go_ret
    refine ⟨by rw [HE.out]; rfl, ?_, ((((((Bel.refl w.heap.size [g] w).set (p := ⟨g, off, none⟩) (.inr (by simp)) (.int .u8 (224 + h / 4096))).set (p := ⟨g, off + 1, none⟩) (.inr (by simp)) (.int .u8 (128 + h / 64 % 64))).set (p := ⟨g, off + 2, none⟩) (.inr (by simp)) (.int .u8 (128 + h % 64))).set (p := ⟨g, off + 3, none⟩) (.inr (by simp)) (.int .u8 (224 + l / 4096))).set (p := ⟨g, off + 4, none⟩) (.inr (by simp)) (.int .u8 (128 + l / 64 % 64))).set (p := ⟨g, off + 5, none⟩) (.inr (by simp)) (.int .u8 (128 + l % 64))⟩
    rw [HE.out]
    exact ((((((HG.out.set (off) (.int .u8 (224 + h / 4096))).set (off + 1) (.int .u8 (128 + h / 64 % 64))).set (off + 2) (.int .u8 (128 + h % 64))).set (off + 3) (.int .u8 (224 + l / 4096))).set (off + 4) (.int .u8 (128 + l / 64 % 64))).set (off + 5) (.int .u8 (128 + l % 64))).cast (by simp only [List.setIfInBounds_toArray]; rw [put6 _ _ _ _ _ _ _ _ (by omega)]; rfl)
/-- The length of a character in CESU-8. -/
def lenC (r : Int) : Int := if r < 128 then 1 else if r < 2048 then 2 else if r < 65536 then 3 else 6
set_option maxRecDepth 100000 in
theorem runeLen (r : Int) (w : World) (h0 : 0 ≤ r) (h1 : r ≤ 1114111) :
    Calls Tryd.prog 69 #[.int .i32 r] w fun e w' => e = .returned (.int .i64 (lenC r)) ∧ w' = w := by
  rcases (by omega : r < 128 ∨ (128 ≤ r ∧ r < 2048) ∨ (2048 ≤ r ∧ r < 65536) ∨ 65536 ≤ r) with hA | hA | hA | hA
  · have hl : lenC r = 1 := by unfold lenC; rw [if_pos hA]
    rw [hl]; clear hl
    go_enter Tryd.func69, Tryd.ntmps69
    go_wp2
    go_ret
    exact ⟨rfl, rfl⟩
  · have hl : lenC r = 2 := by unfold lenC; rw [if_neg (by omega), if_pos (by omega)]
    rw [hl]; clear hl
    obtain ⟨hA1, hA2⟩ := hA
    go_enter Tryd.func69, Tryd.ntmps69
    go_wp2
    go_ret
    exact ⟨rfl, rfl⟩
  · have hl : lenC r = 3 := by unfold lenC; rw [if_neg (by omega), if_neg (by omega), if_pos (by omega)]
    rw [hl]; clear hl
    obtain ⟨hA1, hA2⟩ := hA
    go_enter Tryd.func69, Tryd.ntmps69
    go_wp2
    go_ret
    exact ⟨rfl, rfl⟩
  · have hl : lenC r = 6 := by unfold lenC; rw [if_neg (by omega), if_neg (by omega), if_neg (by omega)]
    rw [hl]; clear hl
    go_enter Tryd.func69, Tryd.ntmps69
    go_wp2
    go_ret
    exact ⟨rfl, rfl⟩
set_option maxRecDepth 100000 in
theorem ceLen (r : Int) (w : World) (h0 : 0 ≤ r) (h1 : r ≤ 1114111) :
    Calls Tryd.prog 46 #[.int .i32 r] w fun e w' => e = .returned (.int .i64 (lenC r)) ∧ w' = w := by
  rcases (by omega : r < 128 ∨ (128 ≤ r ∧ r < 2048) ∨ (2048 ≤ r ∧ r < 65536) ∨ 65536 ≤ r) with hA | hA | hA | hA
  · have hl : lenC r = 1 := by unfold lenC; rw [if_pos hA]
    rw [hl]; clear hl
    go_enter Tryd.func46, Tryd.ntmps46
    go_wp2
    go_ret
    exact ⟨rfl, rfl⟩
  · have hl : lenC r = 2 := by unfold lenC; rw [if_neg (by omega), if_pos (by omega)]
    rw [hl]; clear hl
    obtain ⟨hA1, hA2⟩ := hA
    go_enter Tryd.func46, Tryd.ntmps46
    go_wp2
    go_ret
    exact ⟨rfl, rfl⟩
  · have hl : lenC r = 3 := by unfold lenC; rw [if_neg (by omega), if_neg (by omega), if_pos (by omega)]
    rw [hl]; clear hl
    obtain ⟨hA1, hA2⟩ := hA
    go_enter Tryd.func46, Tryd.ntmps46
    go_wp2
    go_ret
    exact ⟨rfl, rfl⟩
  · have hl : lenC r = 6 := by unfold lenC; rw [if_neg (by omega), if_neg (by omega), if_neg (by omega)]
    rw [hl]; clear hl
    go_enter Tryd.func46, Tryd.ntmps46
    go_wp2
    go_ret
    exact ⟨rfl, rfl⟩
set_option maxRecDepth 100000 in
theorem ceIs (r : Int) (w : World) (h0 : 0 ≤ r) (h1 : r ≤ 1114111) (b : Bool) (hb : decide (55296 ≤ r ∧ r ≤ 57343) = !b) :
    Calls Tryd.prog 22 #[.int .i32 r] w fun e w' => e = .returned (.bool b) ∧ w' = w := by
  rcases (by omega : r < 55296 ∨ 57343 < r ∨ (55296 ≤ r ∧ r ≤ 57343)) with hA | hA | hA
  · obtain rfl : b = true := by cases b <;> simp at hb ⊢; omega
    clear hb
    go_enter Tryd.func22, Tryd.ntmps22
    go_wp2
    go_ret
    exact ⟨rfl, rfl⟩
  · obtain rfl : b = true := by cases b <;> simp at hb ⊢; omega
    clear hb
    have hA' : ¬ r < 55296 := by omega
    go_enter Tryd.func22, Tryd.ntmps22
    go_wp2
    go_ret
    exact ⟨rfl, rfl⟩
  · obtain rfl : b = false := by cases b <;> simp at hb ⊢; omega
    clear hb
    obtain ⟨hA1, hA2⟩ := hA
    go_enter Tryd.func22, Tryd.ntmps22
    go_wp2
    go_ret
    exact ⟨by simp; omega, rfl⟩
def three (x : Int) : List Int := [224 + x / 4096, 128 + x / 64 % 64, 128 + x % 64]
theorem i32_and63 (x : Int) (h0 : 0 ≤ x) (h1 : x < 2147483648) : bits .and .i32 x 63 = x % 64 := bits_mask .i32 31 (by decide) (fun n h0 h1 => by simp [IntKind.wrap, IntKind.bits, IntKind.signed]; omega) 6 (by decide) x h0 (by simpa using h1)
set_option maxRecDepth 100000 in
theorem ceThree (x : Int) (w : World) (h0 : 0 ≤ x) (h1 : x ≤ 65535) :
    Calls Tryd.prog 45 #[.int .i32 x] w fun e w' => e = .returned (.slice (some ⟨w.heap.size, 0, none⟩) 3 3) ∧ w' = w.alloc (.cells (bc (three x)).toArray 5) := by
  have b1 : bits .or .u8 224 (x / 4096 % 256) = 224 + x / 4096 := by rw [or224' _ (by omega) (by omega)]; omega
  have b2 : bits .and .i32 (x / 64) 63 = x / 64 % 64 := i32_and63 _ (by omega) (by omega)
  have b3 : bits .and .i32 x 63 = x % 64 := i32_and63 _ (by omega) (by omega)
  have b2o : bits .or .u8 128 (x / 64 % 64) = 128 + x / 64 % 64 := or128' _ (by omega) (by omega)
  have b3o : bits .or .u8 128 (x % 64) = 128 + x % 64 := or128' _ (by omega) (by omega)
  have e2 : x / 64 % 64 % 256 = x / 64 % 64 := by omega
  have e3 : x % 64 % 256 = x % 64 := by omega
  go_enter Tryd.func45, Tryd.ntmps45
  go_wp2
  go_ret
  exact ⟨rfl, rfl⟩
/-- Bytes of the call's own are the result. -/
def Byt (w : World) (xs : List Int) (e : Ending) (w' : World) : Prop :=
  ∃ A c, e = .returned (.slice (some A) xs.length c) ∧ Rd w' [] (some A) xs.length xs ∧ xs.length ≤ c ∧ c ≤ maxLen ∧ Below w.heap.size w w'
theorem rd_new (w : World) (xs : List Int) (t : TypeId) (h : xs.length ≤ 140737488351232) : Rd (w.alloc (.cells (bc xs).toArray t)) [] (some ⟨w.heap.size, 0, none⟩) xs.length xs := by
  refine ⟨rfl, h, fun j hj => ⟨_, rfl, ?_, by simp, by simp⟩⟩
  exact (Blk.new w (bc xs).toArray t).cellz j (by simp [hj])
theorem byt_new (w : World) (xs : List Int) (t : TypeId) (h : xs.length ≤ 1000) : Byt w xs (.returned (.slice (some ⟨w.heap.size, 0, none⟩) xs.length xs.length)) (w.alloc (.cells (bc xs).toArray t)) :=
  ⟨_, _, rfl, rd_new w xs t (by omega), Nat.le_refl _, by unfold maxLen; omega, (Below.refl _ _).alloc (Nat.le_refl _) _⟩
theorem encC_sur (r : Int) (h1 : 55296 ≤ r) (h2 : r ≤ 57343) : encC r = three 65533 := by unfold encC encU; rw [if_pos (by omega), if_pos ⟨h1, h2⟩]; decide
theorem encC_1 (r : Int) (h2 : r < 128) : encC r = [r] := by unfold encC encU enc1; rw [if_pos (by omega), if_neg (by omega), if_pos h2]
theorem encC_2 (r : Int) (h1 : 128 ≤ r) (h2 : r < 2048) : encC r = [192 + r / 64, 128 + r % 64] := by unfold encC encU enc1; rw [if_pos (by omega), if_neg (by omega), if_neg (by omega), if_pos h2]
theorem encC_3 (r : Int) (h1 : 2048 ≤ r) (h2 : r < 65536) (h3 : ¬ (55296 ≤ r ∧ r ≤ 57343)) : encC r = three r := by unfold encC encU enc1; rw [if_pos (by omega), if_neg h3, if_neg (by omega), if_neg (by omega), if_pos h2]; rfl
theorem encC_6 (r : Int) (h1 : 65536 ≤ r) : encC r = three (hiS r) ++ three (loS r) := by unfold encC; rw [if_neg (by omega)]; rfl
theorem infoBc : (Tryd.prog.info? 5).map (fun i => (i.zero, i.size, i.bytes)) = some (some (.int .u8 0), 1, 1) := by kernel_rfl
theorem or_hi : ∀ y : Fin 1024, bits .or .i32 55296 ((y.1 : Nat) : Int) = 55296 + ((y.1 : Nat) : Int) := by decide +kernel
theorem or_lo : ∀ y : Fin 1024, bits .or .i32 56320 ((y.1 : Nat) : Int) = 56320 + ((y.1 : Nat) : Int) := by decide +kernel
theorem or_hi' (y : Int) (h0 : 0 ≤ y) (h1 : y < 1024) : bits .or .i32 55296 y = 55296 + y := by
  have := or_hi ⟨y.toNat, by omega⟩
  have e : ((y.toNat : Nat) : Int) = y := by omega
  simpa only [e] using this
theorem or_lo' (y : Int) (h0 : 0 ≤ y) (h1 : y < 1024) : bits .or .i32 56320 y = 56320 + y := by
  have := or_lo ⟨y.toNat, by omega⟩
  have e : ((y.toNat : Nat) : Int) = y := by omega
  simpa only [e] using this
set_option maxRecDepth 100000 in
theorem ceRune (r : Int) (w : World) (h0 : 0 ≤ r) (h1 : r ≤ 1114111) :
    Calls Tryd.prog 28 #[.int .i32 r] w fun e w' => Byt w (encC r) e w' := by
  have hc := h1
  by_cases hS : 55296 ≤ r ∧ r ≤ 57343
  · have C := Hd.mk (ceIs r w h0 h1 false (by simp [hS.1, hS.2]))
    have C1 := Hd.mk (ceThree 65533 w (by omega) (by omega))
    rw [encC_sur r hS.1 hS.2]
    obtain ⟨hS1, hS2⟩ := hS
    go_enter Tryd.func28, Tryd.ntmps28
    go_wp2_with fail
    with_reducible refine C.out.mono ?_
    rintro e w1 ⟨rfl, rfl⟩
    clear C
    go_wp2_with fail
    with_reducible refine C1.out.mono ?_
    rintro e w2 ⟨rfl, rfl⟩
    clear C1
    go_wp2
    go_ret
    exact byt_new _ _ _ (by simp [three])
  have C := Hd.mk (ceIs r w h0 h1 true (by simp; omega))
  have C1 := Hd.mk (ceLen r w h0 h1)
  rcases (by omega : r < 128 ∨ (128 ≤ r ∧ r < 2048) ∨ (2048 ≤ r ∧ r < 65536) ∨ 65536 ≤ r) with hA | hA | hA | hA
  · have hl : lenC r = 1 := by unfold lenC; rw [if_pos hA]
    rw [hl] at C1; clear hl
    rw [encC_1 r hA]
    have b1 : r % 256 = r := by omega
    go_enter Tryd.func28, Tryd.ntmps28
    go_wp2_with fail
    with_reducible refine C.out.mono ?_
    rintro e w1 ⟨rfl, rfl⟩
    clear C
    go_wp2_with fail
    with_reducible refine C1.out.mono ?_
    rintro e w1 ⟨rfl, rfl⟩
    clear C1
    go_wp2
    go_ret
    exact byt_new w1 [r] 5 (by simp)
  · have hl : lenC r = 2 := by unfold lenC; rw [if_neg (by omega), if_pos (by omega)]
    rw [hl] at C1; clear hl
    obtain ⟨hA1, hA2⟩ := hA
    rw [encC_2 r hA1 hA2]
    have b1 : bits .or .u8 192 (r / 64 % 256) = 192 + r / 64 := by rw [or192' _ (by omega) (by omega)]; omega
    have b3 : bits .and .i32 r 63 = r % 64 := i32_and63 _ (by omega) (by omega)
    have b3o : bits .or .u8 128 (r % 64) = 128 + r % 64 := or128' _ (by omega) (by omega)
    have e3 : r % 64 % 256 = r % 64 := by omega
    go_enter Tryd.func28, Tryd.ntmps28
    go_wp2_with fail
    with_reducible refine C.out.mono ?_
    rintro e w1 ⟨rfl, rfl⟩
    clear C
    go_wp2_with fail
    with_reducible refine C1.out.mono ?_
    rintro e w1 ⟨rfl, rfl⟩
    clear C1
    go_wp2
    go_ret
    exact byt_new w1 [192 + r / 64, 128 + r % 64] 5 (by simp)
  · have hl : lenC r = 3 := by unfold lenC; rw [if_neg (by omega), if_neg (by omega), if_pos (by omega)]
    rw [hl] at C1; clear hl
    obtain ⟨hA1, hA2⟩ := hA
    rw [encC_3 r hA1 hA2 hS]
    have C2 := Hd.mk (ceThree r w (by omega) (by omega))
    go_enter Tryd.func28, Tryd.ntmps28
    go_wp2_with fail
    with_reducible refine C.out.mono ?_
    rintro e w1 ⟨rfl, rfl⟩
    clear C
    go_wp2_with fail
    with_reducible refine C1.out.mono ?_
    rintro e w1 ⟨rfl, rfl⟩
    clear C1
    go_wp2_with fail
    with_reducible refine C2.out.mono ?_
    rintro e w2 ⟨rfl, rfl⟩
    clear C2
    go_wp2
    go_ret
    exact byt_new _ _ _ (by simp [three])
  · have hl : lenC r = 6 := by unfold lenC; rw [if_neg (by omega), if_neg (by omega), if_neg (by omega)]
    rw [hl] at C1; clear hl
    have bh : 55296 ≤ hiS r ∧ hiS r ≤ 56319 := by unfold hiS; omega
    have bl : 56320 ≤ loS r ∧ loS r ≤ 57343 := by unfold loS; omega
    rw [encC_6 r hA]
    have a1 : bits .or .i32 55296 ((r - 65536) / 1024) = hiS r := by rw [or_hi' _ (by omega) (by omega)]; rfl
    have a2 : bits .and .i32 (r - 65536) 1023 = (r - 65536) % 1024 := i32_and1023 _ (by omega) (by omega)
    have a3 : bits .or .i32 56320 ((r - 65536) % 1024) = loS r := by rw [or_lo' _ (by omega) (by omega)]; rfl
    obtain ⟨h, hh⟩ : ∃ h, hiS r = h := ⟨_, rfl⟩
    obtain ⟨l, hl⟩ : ∃ l, loS r = l := ⟨_, rfl⟩
    rw [hh] at bh a1; rw [hl] at bl a3
    rw [hh, hl]
    have C2 := Hd.mk (ceThree h w (by omega) (by omega))
    have C3 := Hd.mk (ceThree l (w.alloc (.cells (bc (three h)).toArray 5)) (by omega) (by omega))
    obtain ⟨j0, hj0, hj1, hj2, hj3⟩ := info_of infoBc
    have J := Hd.mk (And.intro hj0 (And.intro hj1 (And.intro hj2 hj3)))
    have own0 : (w.alloc (.cells (bc (three h)).toArray 5)).ownsRow w.heap.size 5 1 (.slice (some ⟨w.heap.size, 0, none⟩) 3 3) 3 (bc (three h)) := World.ownsRow_lit w (bc (three h)).toArray 3 (Nat.le_refl _) (by decide) rfl
    have O1 := Hd.mk (own_below own0 ((Below.refl _ _).alloc (Nat.le_refl _) (.cells (bc (three l)).toArray 5)))
    have r1 : Rd ((w.alloc (.cells (bc (three h)).toArray 5)).alloc (.cells (bc (three l)).toArray 5)) [] (some ⟨w.heap.size + 1, 0, none⟩) 3 (three l) := by
      have := rd_new (w.alloc (.cells (bc (three h)).toArray 5)) (three l) 5 (by simp [three])
      rw [World.size_alloc] at this
      exact this
    have R1 := Hd.mk r1
    clear hh hl bh bl hj0 hj1 hj2 hj3 own0 r1
    go_enter Tryd.func28, Tryd.ntmps28
    go_wp2_with fail
    with_reducible refine C.out.mono ?_
    rintro e w1 ⟨rfl, rfl⟩
    clear C
    go_wp2_with fail
    with_reducible refine C1.out.mono ?_
    rintro e w1 ⟨rfl, rfl⟩
    clear C1
    go_wp2_with fail
    with_reducible refine C2.out.mono ?_
    rintro e w2 ⟨rfl, rfl⟩
    clear C2
    go_wp2_with fail
    with_reducible refine C3.out.mono ?_
    rintro e w3 ⟨rfl, rfl⟩
    clear C3
    go_wp2_with (at_builtin; refine wpList_append_rd rfl _ _ 24 rfl w1.heap.size 5 j0 (.int .u8 0) Tryd.underlying24 J.out.1 J.out.2.1 J.out.2.2.1 J.out.2.2.2 rfl _ _ _ rfl O1.out (some ⟨w1.heap.size + 1, 0, none⟩) 3 3 (three l) (by simp [Act.eval]) R1.out ?c0 ?c1 ?_)
    case c0 => decide
    case c1 => simp <;> omega
    intro v1 w2 own1 G1
    have hb1 : Below w1.heap.size w1 w2 := (((Below.refl _ w1).alloc (Nat.le_refl _) (.cells (bc (three h)).toArray 5)).alloc (by simp) (.cells (bc (three l)).toArray 5)).grown G1 (by simp <;> omega) (fun k hk => by simp [Value.ownBlock] at hk; omega)
    have own2 : w2.ownsRow w1.heap.size 5 1 v1 6 (bc (three h ++ three l)) := by simpa [bc] using own1
    obtain ⟨A, cp, rfl, r1, r2, r3, r4, _⟩ := own_rd own2 (by decide)
    obtain ⟨ad, rfl⟩ := Option.isSome_iff_exists.1 (r4 (by decide))
    have R2 := Hd.mk (show Byt w1 (three h ++ three l) (.returned (.slice (some ad) 6 cp)) w2 from ⟨ad, cp, rfl, r3, r1, r2, hb1⟩)
    clear own1 own2 G1 r1 r2 r3 r4 hb1
    go_wp2
    go_ret
    exact R2.out
end Go.Proofs.YtmgckcngedpgoaaDoor.Kb
