/- A character as bytes: utf8.EncodeRune, utf16.EncodeRune, cesu8.EncodeRune. -/
import Derived.Test.YtmgckcngedpgoaaDoorKb
import Derived.Laws.BitsLemmas
namespace Go.Proofs.YtmgckcngedpgoaaDoor.Kb
open Go Go.RowKit
set_option linter.unusedVariables false
set_option linter.unusedSimpArgs false
set_option maxHeartbeats 2000000
theorem or192 : ∀ y : Fin 32, bits .or .u8 192 ((y.1 : Nat) : Int) = 192 + ((y.1 : Nat) : Int) := by decide +kernel
theorem or224 : ∀ y : Fin 16, bits .or .u8 224 ((y.1 : Nat) : Int) = 224 + ((y.1 : Nat) : Int) := by decide +kernel
theorem or128 : ∀ y : Fin 64, bits .or .u8 128 ((y.1 : Nat) : Int) = 128 + ((y.1 : Nat) : Int) := by decide +kernel
theorem and63 : ∀ y : Fin 256, bits .and .u8 ((y.1 : Nat) : Int) 63 = ((y.1 : Nat) : Int) % 64 := by decide +kernel
theorem or192' (y : Int) (h0 : 0 ≤ y) (h1 : y < 32) : bits .or .u8 192 y = 192 + y := by
  have := or192 ⟨y.toNat, by omega⟩
  have e : ((y.toNat : Nat) : Int) = y := by omega
  simpa only [e] using this
theorem or224' (y : Int) (h0 : 0 ≤ y) (h1 : y < 16) : bits .or .u8 224 y = 224 + y := by
  have := or224 ⟨y.toNat, by omega⟩
  have e : ((y.toNat : Nat) : Int) = y := by omega
  simpa only [e] using this
theorem or128' (y : Int) (h0 : 0 ≤ y) (h1 : y < 64) : bits .or .u8 128 y = 128 + y := by
  have := or128 ⟨y.toNat, by omega⟩
  have e : ((y.toNat : Nat) : Int) = y := by omega
  simpa only [e] using this
theorem and63' (y : Int) : bits .and .u8 (y % 256) 63 = y % 64 := by
  have := and63 ⟨(y % 256).toNat, by omega⟩
  have e : (((y % 256).toNat : Nat) : Int) = y % 256 := by omega
  simp only [e] at this
  omega
/-- Characters in UTF-8; no surrogates. -/
def enc1 (r : Int) : List Int := if r < 128 then [r] else if r < 2048 then [192 + r / 64, 128 + r % 64] else if r < 65536 then [224 + r / 4096, 128 + r / 64 % 64, 128 + r % 64] else [240 + r / 262144, 128 + r / 4096 % 64, 128 + r / 64 % 64, 128 + r % 64]
/-- A character as utf8.EncodeRune writes it: surrogates as U+FFFD. -/
def encU (r : Int) : List Int := if 55296 ≤ r ∧ r ≤ 57343 then [239, 191, 189] else enc1 r
/-- The surrogates of a character above U+FFFF. -/
def hiS (r : Int) : Int := 55296 + (r - 65536) / 1024
def loS (r : Int) : Int := 56320 + (r - 65536) % 1024
/-- A character in CESU-8. -/
def encC (r : Int) : List Int := if r < 65536 then encU r else [224 + hiS r / 4096, 128 + hiS r / 64 % 64, 128 + hiS r % 64, 224 + loS r / 4096, 128 + loS r / 64 % 64, 128 + loS r % 64]
theorem encU_len (r : Int) : (encU r).length ≤ 4 ∧ 0 < (encU r).length := by
  unfold encU enc1
  repeat' split
  all_goals simp
/-- What the writing of a character leaves. -/
def Put (w : World) (g off : Nat) (cur : List Value) (t : TypeId) (xs : List Int) (e : Ending) (w' : World) : Prop :=
  e = .returned (.int .i64 xs.length) ∧ Blk w' g (splice cur off (bc xs)).toArray t ∧ Bel w.heap.size [g] w w'
theorem splice1 (L : List Value) (off : Nat) (v0 : Value) (h : off + 1 ≤ L.length) : L.set off v0 = splice L off [v0] := by
  apply List.ext_getElem?
  intro i
  simp only [splice, List.getElem?_set, List.getElem?_append, List.length_take, List.getElem?_take, List.getElem?_drop]
  by_cases h1 : i < off
  · simp [h1, Nat.ne_of_gt h1, show i < min off L.length by omega]
  · by_cases h2 : off = i
    · subst h2
      simp [show ¬ off < min off L.length by omega, show off - min off L.length = 0 by omega, show off < L.length by omega]
    · simp [h2, show ¬ i < min off L.length by omega]
      rw [show min off L.length = off by omega, if_neg (by omega)]
      congr 1
      omega
theorem splice_next (L : List Value) (off : Nat) (vs : List Value) (v : Value) (h : off + vs.length + 1 ≤ L.length) : (splice L off vs).set (off + vs.length) v = splice L off (vs ++ [v]) := by
  simp only [splice, List.append_assoc]
  have hl : (L.take off).length = off := by simp; omega
  rw [List.set_append_right _ _ (by omega), hl]
  congr 1
  rw [List.set_append_right _ _ (by omega)]
  congr 1
  rw [show off + vs.length - off - vs.length = 0 by omega]
  obtain ⟨d, hd⟩ : ∃ d, L.drop (off + vs.length) = d := ⟨_, rfl⟩
  rw [hd]
  cases d with
  | nil => have := congrArg List.length hd; simp at this; omega
  | cons y r =>
    have e : L.drop (off + (vs ++ [v]).length) = r := by
      have : L.drop (off + (vs ++ [v]).length) = (L.drop (off + vs.length)).drop 1 := by rw [List.drop_drop]; congr 1; simp; omega
      rw [this, hd]
      rfl
    rw [e]
    rfl
theorem i32_and1023 (x : Int) (h0 : 0 ≤ x) (h1 : x < 2147483648) : bits .and .i32 x 1023 = x % 1024 := bits_mask .i32 31 (by decide) (fun n h0 h1 => by simp [IntKind.wrap, IntKind.bits, IntKind.signed]; omega) 10 (by decide) x h0 (by simpa using h1)
theorem put2 (L : List Value) (off : Nat) (v0 v1 : Value) (h : off + 2 ≤ L.length) : (L.set off v0).set (off + 1) v1 = splice L off [v0, v1] := by
  rw [splice1 L off v0 (by omega)]
  exact splice_next L off [v0] v1 (by simp; omega)
theorem put3 (L : List Value) (off : Nat) (v0 v1 v2 : Value) (h : off + 3 ≤ L.length) : ((L.set off v0).set (off + 1) v1).set (off + 2) v2 = splice L off [v0, v1, v2] := by
  rw [put2 L off v0 v1 (by omega)]
  exact splice_next L off [v0, v1] v2 (by simp; omega)
theorem put4 (L : List Value) (off : Nat) (v0 v1 v2 v3 : Value) (h : off + 4 ≤ L.length) : (((L.set off v0).set (off + 1) v1).set (off + 2) v2).set (off + 3) v3 = splice L off [v0, v1, v2, v3] := by
  rw [put3 L off v0 v1 v2 (by omega)]
  exact splice_next L off [v0, v1, v2] v3 (by simp; omega)
theorem put6 (L : List Value) (off : Nat) (v0 v1 v2 v3 v4 v5 : Value) (h : off + 6 ≤ L.length) : (((((L.set off v0).set (off + 1) v1).set (off + 2) v2).set (off + 3) v3).set (off + 4) v4).set (off + 5) v5 = splice L off [v0, v1, v2, v3, v4, v5] := by
  rw [put4 L off v0 v1 v2 v3 (by omega), show splice L off [v0, v1, v2, v3, v4, v5] = splice L off (([v0, v1, v2, v3] ++ [v4]) ++ [v5]) from rfl, ← splice_next L off ([v0, v1, v2, v3] ++ [v4]) v5 (by simp; omega), ← splice_next L off [v0, v1, v2, v3] v4 (by simp; omega)]
  rfl
theorem or240' (y : Int) (h0 : 0 ≤ y) (h1 : y < 8) : bits .or .u8 240 y = 240 + y := u8_or240 y h0 h1
set_option maxRecDepth 100000 in
theorem utf16_enc (r : Int) (w : World) (h0 : 65536 ≤ r) (h1 : r ≤ 1114111) :
    Calls Tryd.prog 124 #[.int .i32 r] w fun e w' => e = .returned (.tuple #[.int .i32 (hiS r), .int .i32 (loS r)]) ∧ w = w' := by
  have a1 : bits .and .i32 ((r - 65536) / 1024) 1023 = (r - 65536) / 1024 := by rw [i32_and1023 _ (by omega) (by omega)]; omega
  have a2 : bits .and .i32 (r - 65536) 1023 = (r - 65536) % 1024 := i32_and1023 _ (by omega) (by omega)
  have A1 := Hd.mk a1; have A2 := Hd.mk a2
  clear a1 a2
  go_enter Tryd.func124, Tryd.ntmps124
  go_wp2
  go_ret2
  refine ⟨?_, rfl⟩
  rw [A1.out, A2.out]
  have e1 : wrap32 (55296 + (r - 65536) / 1024) = hiS r := by unfold wrap32 hiS; omega
  have e2 : wrap32 (56320 + (r - 65536) % 1024) = loS r := by unfold wrap32 loS; omega
  rw [e1, e2]
  rfl
set_option maxRecDepth 100000 in
theorem nonAscii (g off n c : Nat) (cur : List Value) (t : TypeId) (r : Int) (w : World) (hg : Blk w g cur.toArray t) (hn : off + (encU r).length ≤ cur.length) (hm : (encU r).length ≤ n) (hnc : n ≤ 1000000000) (h0 : 128 ≤ r) (h1 : r ≤ 1114111) :
    Calls Tryd.prog 121 #[.slice (some ⟨g, off, none⟩) n c, .int .i32 r] w fun e w' => Put w g off cur t (encU r) e w' := by
  have hr : r % 4294967296 = r := by omega
  rcases (by omega : r ≤ 2047 ∨ (2048 ≤ r ∧ r ≤ 55295) ∨ (55296 ≤ r ∧ r ≤ 57343) ∨ (57344 ≤ r ∧ r ≤ 65535) ∨ 65536 ≤ r) with hA | hA | hA | hA | hA
  · skip
    have hE : encU r = [192 + r / 64, 128 + r % 64] := by unfold encU enc1; rw [if_neg (by omega), if_neg (by omega), if_pos (by omega)]
    rw [hE] at hn hm
    simp only [List.length_cons, List.length_nil, Nat.zero_add, Nat.reduceAdd] at hn hm
    have c0 : w.cell? ⟨g, off, none⟩ = some (cur[off]'(by omega)) := hg.cell (off) (by simp [show off < cur.length by omega]); have f0 := hg.free (off); have c1 : w.cell? ⟨g, off + 1, none⟩ = some (cur[off + 1]'(by omega)) := hg.cell (off + 1) (by simp [show off + 1 < cur.length by omega]); have f1 := hg.free (off + 1)
    have b1 : bits .or .u8 192 (r / 64 % 256) = 192 + r / 64 := by rw [or192' _ (by omega) (by omega)]; omega
    have b3 : bits .and .u8 (r % 256) 63 = r % 64 := and63' r; have b3o : bits .or .u8 128 (r % 64) = 128 + r % 64 := or128' _ (by omega) (by omega)
    have HG := Hd.mk hg; have HE := Hd.mk hE
    clear hg hE
    go_enter Tryd.func121, Tryd.ntmps121
    go_wp2
    go_ret
    refine ⟨by rw [HE.out]; rfl, ?_, (((Bel.refl w.heap.size [g] w).set (p := ⟨g, off, none⟩) (.inr (by simp)) (.int .u8 (192 + r / 64))).set (p := ⟨g, off + 1, none⟩) (.inr (by simp)) (.int .u8 (128 + r % 64)))⟩
    rw [HE.out]
    exact ((HG.out.set (off) (.int .u8 (192 + r / 64))).set (off + 1) (.int .u8 (128 + r % 64))).cast (by simp only [List.setIfInBounds_toArray]; rw [put2 _ _ _ _ (by omega)]; rfl)
  · skip
    have hE : encU r = [224 + r / 4096, 128 + r / 64 % 64, 128 + r % 64] := by unfold encU enc1; rw [if_neg (by omega), if_neg (by omega), if_neg (by omega), if_pos (by omega)]
    rw [hE] at hn hm
    simp only [List.length_cons, List.length_nil, Nat.zero_add, Nat.reduceAdd] at hn hm
    have c0 : w.cell? ⟨g, off, none⟩ = some (cur[off]'(by omega)) := hg.cell (off) (by simp [show off < cur.length by omega]); have f0 := hg.free (off); have c1 : w.cell? ⟨g, off + 1, none⟩ = some (cur[off + 1]'(by omega)) := hg.cell (off + 1) (by simp [show off + 1 < cur.length by omega]); have f1 := hg.free (off + 1); have c2 : w.cell? ⟨g, off + 2, none⟩ = some (cur[off + 2]'(by omega)) := hg.cell (off + 2) (by simp [show off + 2 < cur.length by omega]); have f2 := hg.free (off + 2)
    have b1 : bits .or .u8 224 (r / 4096 % 256) = 224 + r / 4096 := by rw [or224' _ (by omega) (by omega)]; omega
    have b2 : bits .and .u8 (r / 64 % 256) 63 = r / 64 % 64 := and63' (r / 64); have b2o : bits .or .u8 128 (r / 64 % 64) = 128 + r / 64 % 64 := or128' _ (by omega) (by omega)
    have b3 : bits .and .u8 (r % 256) 63 = r % 64 := and63' r; have b3o : bits .or .u8 128 (r % 64) = 128 + r % 64 := or128' _ (by omega) (by omega)
    have HG := Hd.mk hg; have HE := Hd.mk hE
    clear hg hE
    go_enter Tryd.func121, Tryd.ntmps121
    go_wp2
    go_ret
    refine ⟨by rw [HE.out]; rfl, ?_, ((((Bel.refl w.heap.size [g] w).set (p := ⟨g, off, none⟩) (.inr (by simp)) (.int .u8 (224 + r / 4096))).set (p := ⟨g, off + 1, none⟩) (.inr (by simp)) (.int .u8 (128 + r / 64 % 64))).set (p := ⟨g, off + 2, none⟩) (.inr (by simp)) (.int .u8 (128 + r % 64)))⟩
    rw [HE.out]
    exact (((HG.out.set (off) (.int .u8 (224 + r / 4096))).set (off + 1) (.int .u8 (128 + r / 64 % 64))).set (off + 2) (.int .u8 (128 + r % 64))).cast (by simp only [List.setIfInBounds_toArray]; rw [put3 _ _ _ _ _ (by omega)]; rfl)
  · skip
    have hE : encU r = [239, 191, 189] := by unfold encU; rw [if_pos (by omega)]
    rw [hE] at hn hm
    simp only [List.length_cons, List.length_nil, Nat.zero_add, Nat.reduceAdd] at hn hm
    have c0 : w.cell? ⟨g, off, none⟩ = some (cur[off]'(by omega)) := hg.cell (off) (by simp [show off < cur.length by omega]); have f0 := hg.free (off); have c1 : w.cell? ⟨g, off + 1, none⟩ = some (cur[off + 1]'(by omega)) := hg.cell (off + 1) (by simp [show off + 1 < cur.length by omega]); have f1 := hg.free (off + 1); have c2 : w.cell? ⟨g, off + 2, none⟩ = some (cur[off + 2]'(by omega)) := hg.cell (off + 2) (by simp [show off + 2 < cur.length by omega]); have f2 := hg.free (off + 2)
    have HG := Hd.mk hg; have HE := Hd.mk hE
    clear hg hE
    go_enter Tryd.func121, Tryd.ntmps121
    go_wp2
    go_ret
    refine ⟨by rw [HE.out]; rfl, ?_, ((((Bel.refl w.heap.size [g] w).set (p := ⟨g, off, none⟩) (.inr (by simp)) (.int .u8 (239))).set (p := ⟨g, off + 1, none⟩) (.inr (by simp)) (.int .u8 (191))).set (p := ⟨g, off + 2, none⟩) (.inr (by simp)) (.int .u8 (189)))⟩
    rw [HE.out]
    exact (((HG.out.set (off) (.int .u8 (239))).set (off + 1) (.int .u8 (191))).set (off + 2) (.int .u8 (189))).cast (by simp only [List.setIfInBounds_toArray]; rw [put3 _ _ _ _ _ (by omega)]; rfl)
  · skip
    have hE : encU r = [224 + r / 4096, 128 + r / 64 % 64, 128 + r % 64] := by unfold encU enc1; rw [if_neg (by omega), if_neg (by omega), if_neg (by omega), if_pos (by omega)]
    rw [hE] at hn hm
    simp only [List.length_cons, List.length_nil, Nat.zero_add, Nat.reduceAdd] at hn hm
    have c0 : w.cell? ⟨g, off, none⟩ = some (cur[off]'(by omega)) := hg.cell (off) (by simp [show off < cur.length by omega]); have f0 := hg.free (off); have c1 : w.cell? ⟨g, off + 1, none⟩ = some (cur[off + 1]'(by omega)) := hg.cell (off + 1) (by simp [show off + 1 < cur.length by omega]); have f1 := hg.free (off + 1); have c2 : w.cell? ⟨g, off + 2, none⟩ = some (cur[off + 2]'(by omega)) := hg.cell (off + 2) (by simp [show off + 2 < cur.length by omega]); have f2 := hg.free (off + 2)
    have b1 : bits .or .u8 224 (r / 4096 % 256) = 224 + r / 4096 := by rw [or224' _ (by omega) (by omega)]; omega
    have b2 : bits .and .u8 (r / 64 % 256) 63 = r / 64 % 64 := and63' (r / 64); have b2o : bits .or .u8 128 (r / 64 % 64) = 128 + r / 64 % 64 := or128' _ (by omega) (by omega)
    have b3 : bits .and .u8 (r % 256) 63 = r % 64 := and63' r; have b3o : bits .or .u8 128 (r % 64) = 128 + r % 64 := or128' _ (by omega) (by omega)
    have HG := Hd.mk hg; have HE := Hd.mk hE
    clear hg hE
    go_enter Tryd.func121, Tryd.ntmps121
    go_wp2
    go_ret
    refine ⟨by rw [HE.out]; rfl, ?_, ((((Bel.refl w.heap.size [g] w).set (p := ⟨g, off, none⟩) (.inr (by simp)) (.int .u8 (224 + r / 4096))).set (p := ⟨g, off + 1, none⟩) (.inr (by simp)) (.int .u8 (128 + r / 64 % 64))).set (p := ⟨g, off + 2, none⟩) (.inr (by simp)) (.int .u8 (128 + r % 64)))⟩
    rw [HE.out]
    exact (((HG.out.set (off) (.int .u8 (224 + r / 4096))).set (off + 1) (.int .u8 (128 + r / 64 % 64))).set (off + 2) (.int .u8 (128 + r % 64))).cast (by simp only [List.setIfInBounds_toArray]; rw [put3 _ _ _ _ _ (by omega)]; rfl)
  · skip
    have hE : encU r = [240 + r / 262144, 128 + r / 4096 % 64, 128 + r / 64 % 64, 128 + r % 64] := by unfold encU enc1; rw [if_neg (by omega), if_neg (by omega), if_neg (by omega), if_neg (by omega)]
    rw [hE] at hn hm
    simp only [List.length_cons, List.length_nil, Nat.zero_add, Nat.reduceAdd] at hn hm
    have c0 : w.cell? ⟨g, off, none⟩ = some (cur[off]'(by omega)) := hg.cell (off) (by simp [show off < cur.length by omega]); have f0 := hg.free (off); have c1 : w.cell? ⟨g, off + 1, none⟩ = some (cur[off + 1]'(by omega)) := hg.cell (off + 1) (by simp [show off + 1 < cur.length by omega]); have f1 := hg.free (off + 1); have c2 : w.cell? ⟨g, off + 2, none⟩ = some (cur[off + 2]'(by omega)) := hg.cell (off + 2) (by simp [show off + 2 < cur.length by omega]); have f2 := hg.free (off + 2); have c3 : w.cell? ⟨g, off + 3, none⟩ = some (cur[off + 3]'(by omega)) := hg.cell (off + 3) (by simp [show off + 3 < cur.length by omega]); have f3 := hg.free (off + 3)
    have b1 : bits .or .u8 240 (r / 262144 % 256) = 240 + r / 262144 := by rw [or240' _ (by omega) (by omega)]; omega
    have b4 : bits .and .u8 (r / 4096 % 256) 63 = r / 4096 % 64 := and63' (r / 4096); have b4o : bits .or .u8 128 (r / 4096 % 64) = 128 + r / 4096 % 64 := or128' _ (by omega) (by omega)
    have b2 : bits .and .u8 (r / 64 % 256) 63 = r / 64 % 64 := and63' (r / 64); have b2o : bits .or .u8 128 (r / 64 % 64) = 128 + r / 64 % 64 := or128' _ (by omega) (by omega)
    have b3 : bits .and .u8 (r % 256) 63 = r % 64 := and63' r; have b3o : bits .or .u8 128 (r % 64) = 128 + r % 64 := or128' _ (by omega) (by omega)
    have HG := Hd.mk hg; have HE := Hd.mk hE
    clear hg hE
    go_enter Tryd.func121, Tryd.ntmps121
    go_wp2
    go_ret
    refine ⟨by rw [HE.out]; rfl, ?_, (((((Bel.refl w.heap.size [g] w).set (p := ⟨g, off, none⟩) (.inr (by simp)) (.int .u8 (240 + r / 262144))).set (p := ⟨g, off + 1, none⟩) (.inr (by simp)) (.int .u8 (128 + r / 4096 % 64))).set (p := ⟨g, off + 2, none⟩) (.inr (by simp)) (.int .u8 (128 + r / 64 % 64))).set (p := ⟨g, off + 3, none⟩) (.inr (by simp)) (.int .u8 (128 + r % 64)))⟩
    rw [HE.out]
    exact ((((HG.out.set (off) (.int .u8 (240 + r / 262144))).set (off + 1) (.int .u8 (128 + r / 4096 % 64))).set (off + 2) (.int .u8 (128 + r / 64 % 64))).set (off + 3) (.int .u8 (128 + r % 64))).cast (by simp only [List.setIfInBounds_toArray]; rw [put4 _ _ _ _ _ _ (by omega)]; rfl)
set_option maxRecDepth 100000 in
theorem utf8_enc (g off n c : Nat) (cur : List Value) (t : TypeId) (r : Int) (w : World) (hg : Blk w g cur.toArray t) (hn : off + (encU r).length ≤ cur.length) (hm : (encU r).length ≤ n) (hnc : n ≤ 1000000000) (h0 : 0 ≤ r) (h1 : r ≤ 1114111) :
    Calls Tryd.prog 119 #[.slice (some ⟨g, off, none⟩) n c, .int .i32 r] w fun e w' => Put w g off cur t (encU r) e w' := by
  have hr : r % 4294967296 = r := by omega
  by_cases hA : r < 128
  · have hE : encU r = [r] := by unfold encU enc1; rw [if_neg (by omega), if_pos (by omega)]
    rw [hE] at hn hm
    simp only [List.length_cons, List.length_nil, Nat.zero_add] at hn hm
    have c0 : w.cell? ⟨g, off, none⟩ = some (cur[off]'(by omega)) := hg.cell off (by simp [show off < cur.length by omega])
    have f0 := hg.free off
    have b1 : r % 256 = r := by omega
    have HG := Hd.mk hg; have HE := Hd.mk hE
    clear hg hE
    go_enter Tryd.func119, Tryd.ntmps119
    go_wp2
    go_ret
    refine ⟨by rw [HE.out]; rfl, ?_, (Bel.refl w.heap.size [g] w).set (p := ⟨g, off, none⟩) (.inr (by simp)) (.int .u8 r)⟩
    rw [HE.out]
    exact (HG.out.set off (.int .u8 r)).cast (by simp only [List.setIfInBounds_toArray]; rw [splice1 _ _ _ (by omega)]; rfl)
  · have C := Hd.mk (nonAscii g off n c cur t r w hg hn hm hnc (by omega) h1)
    clear hg hn hm
    go_enter Tryd.func119, Tryd.ntmps119
    go_wp2_with fail
    with_reducible refine C.out.mono ?_
    rintro e w1 ⟨rfl, h1, h2⟩
    have H1 := Hd.mk h1; have H2 := Hd.mk h2
    clear h1 h2 C
    go_wp2
    go_ret
    exact ⟨rfl, H1.out, H2.out⟩
end Go.Proofs.YtmgckcngedpgoaaDoor.Kb
