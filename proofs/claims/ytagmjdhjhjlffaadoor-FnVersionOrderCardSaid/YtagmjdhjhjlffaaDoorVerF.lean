/- Versions: ScVersion and versionNumber.String. (Written by mkverf.py.) -/
import Derived.Test.YtagmjdhjhjlffaaDoorVerE
import Derived.Deep.RegionHeld3
namespace Go.Proofs.YtagmjdhjhjlffaaDoor.Kb
open Go Go.RowKit
set_option linter.unusedVariables false
set_option linter.unusedSimpArgs false
set_option maxHeartbeats 6400000
/-- A version's text. -/
def d_ (F : Nat → Nat) (i least : Nat) : List UInt8 := lowD (F i) (wide (F i) least)
def vtext (F : Nat → Nat) : List UInt8 := ((((((d_ F 0 1 ++ [46]) ++ d_ F 1 2) ++ [46]) ++ d_ F 2 3) ++ [46]) ++ d_ F 3 2) ++ (if F 4 = 0 then [] else [46] ++ d_ F 4 1)
def Fits (F : Nat → Nat) : Prop := F 0 < 10000000000 ∧ F 1 < 100 ∧ F 2 < 1000 ∧ F 3 < 100 ∧ F 4 < 10000000000
theorem d_size (F : Nat → Nat) (i least : Nat) (h : F i < 10000000000) (h2 : least ≤ 3) : (S (d_ F i least)).size ≤ 10 := by
  have := nDigits_le (n := F i) (k := 10) (by omega) (by omega)
  rw [S_size, d_, lowD_len]; unfold wide; omega
/-- The five cells, and what the calls leave. -/
def Held (g : Nat) (F : Nat → Nat) (w W : World) : Prop := Blk W g (five F) 22 ∧ Below w.heap.size w W ∧ Pow W
theorem held_cells {g : Nat} {F : Nat → Nat} {w W : World} (h : Held g F w W) : W.cell? ⟨g, 0, none⟩ = some (.int .u64 (F 0)) ∧ W.cell? ⟨g, 1, none⟩ = some (.int .u64 (F 1)) ∧ W.cell? ⟨g, 2, none⟩ = some (.int .u64 (F 2)) ∧ W.cell? ⟨g, 3, none⟩ = some (.int .u64 (F 3)) ∧ Held g F w W :=
  ⟨h.1.cell 0 rfl, h.1.cell 1 rfl, h.1.cell 2 rfl, h.1.cell 3 rfl, h⟩
theorem held_keep {g : Nat} {F : Nat → Nat} {w W W' : World} (h : W.cell? ⟨g, 0, none⟩ = some (.int .u64 (F 0)) ∧ W.cell? ⟨g, 1, none⟩ = some (.int .u64 (F 1)) ∧ W.cell? ⟨g, 2, none⟩ = some (.int .u64 (F 2)) ∧ W.cell? ⟨g, 3, none⟩ = some (.int .u64 (F 3)) ∧ Held g F w W) (hb : Below W.heap.size W W') :
    W'.cell? ⟨g, 0, none⟩ = some (.int .u64 (F 0)) ∧ W'.cell? ⟨g, 1, none⟩ = some (.int .u64 (F 1)) ∧ W'.cell? ⟨g, 2, none⟩ = some (.int .u64 (F 2)) ∧ W'.cell? ⟨g, 3, none⟩ = some (.int .u64 (F 3)) ∧ Held g F w W' :=
  held_cells ⟨h.2.2.2.2.1.below hb h.2.2.2.2.1.lt, h.2.2.2.2.2.1.trans (hb.mono h.2.2.2.2.2.1.size), pow_below h.2.2.2.2.2.2 hb⟩
theorem held_pow {g : Nat} {F : Nat → Nat} {w W : World} (h : W.cell? ⟨g, 0, none⟩ = some (.int .u64 (F 0)) ∧ W.cell? ⟨g, 1, none⟩ = some (.int .u64 (F 1)) ∧ W.cell? ⟨g, 2, none⟩ = some (.int .u64 (F 2)) ∧ W.cell? ⟨g, 3, none⟩ = some (.int .u64 (F 3)) ∧ Held g F w W) : Pow W := h.2.2.2.2.2.2
theorem held_here {g : Nat} {F : Nat → Nat} {w : World} (h : Blk w g (five F) 22) (hp : Pow w) : Held g F w w.drew := ⟨h.drew, (Below.refl _ _).drew, pow_below hp (Below.refl _ _).drew⟩
theorem Held.on {g : Nat} {F : Nat → Nat} {w W W' : World} (h : Held g F w W) (hb : Below W.heap.size W W') : Held g F w W' := (held_keep (held_cells h) hb).2.2.2.2
set_option maxRecDepth 100000 in
theorem scVersion (g c : Nat) (F : Nat → Nat) (hF : Fits F) (w : World) (hB : Blk w g (five F) 22) (hP : Pow w) (h5 : 5 ≤ c) (hc : c ≤ maxLen) : Calls Tryd.prog 8 #[.slice (some ⟨g, 0, none⟩) 5 c] w fun e w' => Says (vtext F) w e w' := by
  obtain ⟨f0, f1, f2, f3, f4⟩ := hF
  have C0 : Hd (∀ W, Pow W → Calls Tryd.prog 12 #[.int .u64 (F 0), .int .i64 1] W fun e w' => Says (d_ F 0 1) W e w') := ⟨fun W _ => scDigits (F 0) 1 (by omega) (by omega) (by omega) W⟩
  have C1 : Hd (∀ W, Pow W → Calls Tryd.prog 12 #[.int .u64 (F 1), .int .i64 2] W fun e w' => Says (d_ F 1 2) W e w') := ⟨fun W _ => scDigits (F 1) 2 (by omega) (by omega) (by omega) W⟩
  have C2 : Hd (∀ W, Pow W → Calls Tryd.prog 12 #[.int .u64 (F 2), .int .i64 3] W fun e w' => Says (d_ F 2 3) W e w') := ⟨fun W _ => scDigits (F 2) 3 (by omega) (by omega) (by omega) W⟩
  have C3 : Hd (∀ W, Pow W → Calls Tryd.prog 12 #[.int .u64 (F 3), .int .i64 2] W fun e w' => Says (d_ F 3 2) W e w') := ⟨fun W _ => scDigits (F 3) 2 (by omega) (by omega) (by omega) W⟩
  have C4 : Hd (∀ W, Pow W → Calls Tryd.prog 12 #[.int .u64 (F 4), .int .i64 1] W fun e w' => Says (d_ F 4 1) W e w') := ⟨fun W _ => scDigits (F 4) 1 (by omega) (by omega) (by omega) W⟩
  have s0 := d_size F 0 1 (by omega) (by omega)
  have s1 := d_size F 1 2 (by omega) (by omega)
  have s2 := d_size F 2 3 (by omega) (by omega)
  have s3 := d_size F 3 2 (by omega) (by omega)
  have s4 := d_size F 4 1 (by omega) (by omega)
  have HT : Hd (vtext F = ((((((d_ F 0 1 ++ [46]) ++ d_ F 1 2) ++ [46]) ++ d_ F 2 3) ++ [46]) ++ d_ F 3 2) ++ (if F 4 = 0 then [] else [46] ++ d_ F 4 1)) := ⟨rfl⟩
  have hcat := fun (a b : ByteArray) => ByteArray.size_append (a := a) (b := b)
  have hdot : (⟨#[46]⟩ : ByteArray) = S [46] := rfl
  obtain ⟨t0, ht0⟩ : ∃ t, S (d_ F 0 1) = t := ⟨_, rfl⟩
  rw [ht0] at s0
  simp only [Says, ht0] at C0
  obtain ⟨t1, ht1⟩ : ∃ t, S (d_ F 1 2) = t := ⟨_, rfl⟩
  rw [ht1] at s1
  simp only [Says, ht1] at C1
  obtain ⟨t2, ht2⟩ : ∃ t, S (d_ F 2 3) = t := ⟨_, rfl⟩
  rw [ht2] at s2
  simp only [Says, ht2] at C2
  obtain ⟨t3, ht3⟩ : ∃ t, S (d_ F 3 2) = t := ⟨_, rfl⟩
  rw [ht3] at s3
  simp only [Says, ht3] at C3
  obtain ⟨t4, ht4⟩ : ∃ t, S (d_ F 4 1) = t := ⟨_, rfl⟩
  rw [ht4] at s4
  simp only [Says, ht4] at C4
  have n1 : ¬ 9223372036854775807 < t0.size + 1 := by omega
  obtain ⟨u1, hu1⟩ : ∃ u, t0 ++ (⟨#[46]⟩ : ByteArray) = u := ⟨_, rfl⟩
  have z1 : u1.size ≤ 11 := by rw [← hu1, ByteArray.size_append]; have : (⟨#[46]⟩ : ByteArray).size = 1 := rfl; omega
  have n2 : ¬ 9223372036854775807 < u1.size + t1.size := by omega
  obtain ⟨u2, hu2⟩ : ∃ u, u1 ++ t1 = u := ⟨_, rfl⟩
  have z2 : u2.size ≤ 21 := by rw [← hu2, ByteArray.size_append]; omega
  have n3 : ¬ 9223372036854775807 < u2.size + 1 := by omega
  obtain ⟨u3, hu3⟩ : ∃ u, u2 ++ (⟨#[46]⟩ : ByteArray) = u := ⟨_, rfl⟩
  have z3 : u3.size ≤ 22 := by rw [← hu3, ByteArray.size_append]; have : (⟨#[46]⟩ : ByteArray).size = 1 := rfl; omega
  have n4 : ¬ 9223372036854775807 < u3.size + t2.size := by omega
  obtain ⟨u4, hu4⟩ : ∃ u, u3 ++ t2 = u := ⟨_, rfl⟩
  have z4 : u4.size ≤ 32 := by rw [← hu4, ByteArray.size_append]; omega
  have n5 : ¬ 9223372036854775807 < u4.size + 1 := by omega
  obtain ⟨u5, hu5⟩ : ∃ u, u4 ++ (⟨#[46]⟩ : ByteArray) = u := ⟨_, rfl⟩
  have z5 : u5.size ≤ 33 := by rw [← hu5, ByteArray.size_append]; have : (⟨#[46]⟩ : ByteArray).size = 1 := rfl; omega
  have n6 : ¬ 9223372036854775807 < u5.size + t3.size := by omega
  obtain ⟨u6, hu6⟩ : ∃ u, u5 ++ t3 = u := ⟨_, rfl⟩
  have z6 : u6.size ≤ 43 := by rw [← hu6, ByteArray.size_append]; omega
  have n7 : ¬ 9223372036854775807 < 1 + t4.size := by omega
  obtain ⟨u7, hu7⟩ : ∃ u, (⟨#[46]⟩ : ByteArray) ++ t4 = u := ⟨_, rfl⟩
  have z7 : u7.size ≤ 11 := by rw [← hu7, ByteArray.size_append]; have : (⟨#[46]⟩ : ByteArray).size = 1 := rfl; omega
  have n8 : ¬ 9223372036854775807 < u6.size + u7.size := by omega
  obtain ⟨u8, hu8⟩ : ∃ u, u6 ++ u7 = u := ⟨_, rfl⟩
  have HU6 : Hd (F 4 = 0 → u6 = S (vtext F)) := ⟨fun h => by
    rw [HT.out, if_pos h, ← hu6, ← hu5, ← hu4, ← hu3, ← hu2, ← hu1, ← ht0, ← ht1, ← ht2, ← ht3, hdot]
    simp only [S_append, List.append_nil]⟩
  have HU8 : Hd (F 4 ≠ 0 → u8 = S (vtext F)) := ⟨fun h => by
    rw [HT.out, if_neg h, ← hu8, ← hu7, ← hu6, ← hu5, ← hu4, ← hu3, ← hu2, ← hu1, ← ht0, ← ht1, ← ht2, ← ht3, ← ht4, hdot]
    simp only [S_append, List.append_assoc]⟩
  have HS := held_here hB hP
  have S0 := held_cells HS
  have HH := Hd.mk HS
  clear hB hP hcat hdot HT ht0 ht1 ht2 ht3 ht4 HS
  have hc5 : (5 : Int) ≤ c := by omega
  go_enter Tryd.func8, Tryd.ntmps8
  go_wp2_with fail
  go_region_held3 (fun W => W.cell? ⟨g, 0, none⟩ = some (.int .u64 (F 0)) ∧ W.cell? ⟨g, 1, none⟩ = some (.int .u64 (F 1)) ∧ W.cell? ⟨g, 2, none⟩ = some (.int .u64 (F 2)) ∧ W.cell? ⟨g, 3, none⟩ = some (.int .u64 (F 3)) ∧ Held g F w W)
    (first | assumption | exact held_keep (by assumption) (by assumption))
    (first
      | (go_at_call 12; with_reducible refine (C0.out _ (held_pow (g := g) (F := F) (w := w) (by assumption))).mono ?_; rintro e w2 ⟨rfl, hb⟩)
      | (go_at_call 12; with_reducible refine (C1.out _ (held_pow (g := g) (F := F) (w := w) (by assumption))).mono ?_; rintro e w2 ⟨rfl, hb⟩)
      | (go_at_call 12; with_reducible refine (C2.out _ (held_pow (g := g) (F := F) (w := w) (by assumption))).mono ?_; rintro e w2 ⟨rfl, hb⟩)
      | (go_at_call 12; with_reducible refine (C3.out _ (held_pow (g := g) (F := F) (w := w) (by assumption))).mono ?_; rintro e w2 ⟨rfl, hb⟩)
    )
  rename_i hh
  have H2 := hh.2.2.2.2
  have c4 : w2.cell? ⟨g, 4, none⟩ = some (.int .u64 (F 4)) := H2.1.cell 4 rfl
  have HE := Hd.mk H2
  have HP : Hd (Pow w2) := ⟨H2.2.2⟩
  clear hh H2 hb S0
  by_cases hz : F 4 = 0
  · have hgt : ¬ (0 : Int) < (F 4 : Int) := by omega
    have HZ := Hd.mk hz
    clear hz
    go_wp2
    go_ret
    refine ⟨?_, HE.out.2.1⟩
    rw [← HU6.out HZ.out]
    rfl
  · have hgt : (0 : Int) < (F 4 : Int) := by omega
    have HZ := Hd.mk hz
    clear hz
    go_wp2_with fail
    with_reducible refine (C4.out _ HP.out).mono ?_
    rintro e w3 ⟨rfl, hb⟩
    have HB := Hd.mk (HE.out.2.1.trans (hb.mono HE.out.2.1.size))
    clear hb
    go_wp2
    go_ret
    refine ⟨?_, HB.out⟩
    rw [← HU8.out HZ.out]
    rfl
set_option maxRecDepth 100000 in
theorem vnString (g c : Nat) (F : Nat → Nat) (hF : Fits F) (w : World) (hB : Blk w g (five F) 22) (hP : Pow w) (h5 : 5 ≤ c) (hc : c ≤ maxLen) : Calls Tryd.prog 16 #[.slice (some ⟨g, 0, none⟩) 5 c] w fun e w' => Says (vtext F) w e w' := by
  obtain ⟨f0, f1, f2, f3, f4⟩ := hF
  have one : ∀ (i : Nat), F i < 18446744073709551616 → ∀ W, Pow W → Calls Tryd.prog 22 #[.int .u64 (F i), .int .i64 10] W fun e w' => Says (d_ F i 1) W e w' := fun i h W hp => by
    refine (formatUint (F i) h W hp).mono ?_
    rintro e w' ⟨rfl, hb⟩
    exact ⟨by rw [d_, wide_one, decDigits_low], hb⟩
  have fix : ∀ (i k : Nat), 1 ≤ k → k ≤ 3 → F i < 18446744073709551616 → F i < 10 ^ k → ∀ W, Pow W → Calls Tryd.prog 23 #[.int .u64 (F i), .int .i64 k] W fun e w' => Says (d_ F i k) W e w' := fun i k h1 h3 h64 h W hp => by
    refine (formatUint64 (F i) k h64 h1 h3 h W hp).mono ?_
    rintro e w' ⟨rfl, hb⟩
    exact ⟨by rw [d_, wide_fix h1 h], hb⟩
  have C0 := Hd.mk (one 0 (by omega))
  have C1 : Hd (∀ W, Pow W → Calls Tryd.prog 23 #[.int .u64 (F 1), .int .i64 2] W fun e w' => Says (d_ F 1 2) W e w') := ⟨fix 1 2 (by omega) (by omega) (by omega) (by omega)⟩
  have C2 : Hd (∀ W, Pow W → Calls Tryd.prog 23 #[.int .u64 (F 2), .int .i64 3] W fun e w' => Says (d_ F 2 3) W e w') := ⟨fix 2 3 (by omega) (by omega) (by omega) (by omega)⟩
  have C3 : Hd (∀ W, Pow W → Calls Tryd.prog 23 #[.int .u64 (F 3), .int .i64 2] W fun e w' => Says (d_ F 3 2) W e w') := ⟨fix 3 2 (by omega) (by omega) (by omega) (by omega)⟩
  have C4 := Hd.mk (one 4 (by omega))
  clear one fix
  have s0 := d_size F 0 1 (by omega) (by omega)
  have s1 := d_size F 1 2 (by omega) (by omega)
  have s2 := d_size F 2 3 (by omega) (by omega)
  have s3 := d_size F 3 2 (by omega) (by omega)
  have s4 := d_size F 4 1 (by omega) (by omega)
  have HT : Hd (vtext F = ((((((d_ F 0 1 ++ [46]) ++ d_ F 1 2) ++ [46]) ++ d_ F 2 3) ++ [46]) ++ d_ F 3 2) ++ (if F 4 = 0 then [] else [46] ++ d_ F 4 1)) := ⟨rfl⟩
  have hcat := fun (a b : ByteArray) => ByteArray.size_append (a := a) (b := b)
  have hdot : (⟨#[46]⟩ : ByteArray) = S [46] := rfl
  obtain ⟨t0, ht0⟩ : ∃ t, S (d_ F 0 1) = t := ⟨_, rfl⟩
  rw [ht0] at s0
  simp only [Says, ht0] at C0
  obtain ⟨t1, ht1⟩ : ∃ t, S (d_ F 1 2) = t := ⟨_, rfl⟩
  rw [ht1] at s1
  simp only [Says, ht1] at C1
  obtain ⟨t2, ht2⟩ : ∃ t, S (d_ F 2 3) = t := ⟨_, rfl⟩
  rw [ht2] at s2
  simp only [Says, ht2] at C2
  obtain ⟨t3, ht3⟩ : ∃ t, S (d_ F 3 2) = t := ⟨_, rfl⟩
  rw [ht3] at s3
  simp only [Says, ht3] at C3
  obtain ⟨t4, ht4⟩ : ∃ t, S (d_ F 4 1) = t := ⟨_, rfl⟩
  rw [ht4] at s4
  simp only [Says, ht4] at C4
  have n1 : ¬ 9223372036854775807 < t0.size + 1 := by omega
  obtain ⟨u1, hu1⟩ : ∃ u, t0 ++ (⟨#[46]⟩ : ByteArray) = u := ⟨_, rfl⟩
  have z1 : u1.size ≤ 11 := by rw [← hu1, ByteArray.size_append]; have : (⟨#[46]⟩ : ByteArray).size = 1 := rfl; omega
  have n2 : ¬ 9223372036854775807 < u1.size + t1.size := by omega
  obtain ⟨u2, hu2⟩ : ∃ u, u1 ++ t1 = u := ⟨_, rfl⟩
  have z2 : u2.size ≤ 21 := by rw [← hu2, ByteArray.size_append]; omega
  have n3 : ¬ 9223372036854775807 < u2.size + 1 := by omega
  obtain ⟨u3, hu3⟩ : ∃ u, u2 ++ (⟨#[46]⟩ : ByteArray) = u := ⟨_, rfl⟩
  have z3 : u3.size ≤ 22 := by rw [← hu3, ByteArray.size_append]; have : (⟨#[46]⟩ : ByteArray).size = 1 := rfl; omega
  have n4 : ¬ 9223372036854775807 < u3.size + t2.size := by omega
  obtain ⟨u4, hu4⟩ : ∃ u, u3 ++ t2 = u := ⟨_, rfl⟩
  have z4 : u4.size ≤ 32 := by rw [← hu4, ByteArray.size_append]; omega
  have n5 : ¬ 9223372036854775807 < u4.size + 1 := by omega
  obtain ⟨u5, hu5⟩ : ∃ u, u4 ++ (⟨#[46]⟩ : ByteArray) = u := ⟨_, rfl⟩
  have z5 : u5.size ≤ 33 := by rw [← hu5, ByteArray.size_append]; have : (⟨#[46]⟩ : ByteArray).size = 1 := rfl; omega
  have n6 : ¬ 9223372036854775807 < u5.size + t3.size := by omega
  obtain ⟨u6, hu6⟩ : ∃ u, u5 ++ t3 = u := ⟨_, rfl⟩
  have z6 : u6.size ≤ 43 := by rw [← hu6, ByteArray.size_append]; omega
  have n7 : ¬ 9223372036854775807 < u6.size + 1 := by omega
  obtain ⟨u7, hu7⟩ : ∃ u, u6 ++ (⟨#[46]⟩ : ByteArray) = u := ⟨_, rfl⟩
  have z7 : u7.size ≤ 44 := by rw [← hu7, ByteArray.size_append]; have : (⟨#[46]⟩ : ByteArray).size = 1 := rfl; omega
  have n8 : ¬ 9223372036854775807 < u7.size + t4.size := by omega
  obtain ⟨u8, hu8⟩ : ∃ u, u7 ++ t4 = u := ⟨_, rfl⟩
  have HU6 : Hd (F 4 = 0 → u6 = S (vtext F)) := ⟨fun h => by
    rw [HT.out, if_pos h, ← hu6, ← hu5, ← hu4, ← hu3, ← hu2, ← hu1, ← ht0, ← ht1, ← ht2, ← ht3, hdot]
    simp only [S_append, List.append_nil]⟩
  have HU8 : Hd (F 4 ≠ 0 → u8 = S (vtext F)) := ⟨fun h => by
    rw [HT.out, if_neg h, ← hu8, ← hu7, ← hu6, ← hu5, ← hu4, ← hu3, ← hu2, ← hu1, ← ht0, ← ht1, ← ht2, ← ht3, ← ht4, hdot]
    simp only [S_append, List.append_assoc]⟩
  have HS := held_here hB hP
  have S0 := held_cells HS
  have HH := Hd.mk HS
  clear hB hP hcat hdot HT ht0 ht1 ht2 ht3 ht4 HS
  have hc5 : (5 : Int) ≤ c := by omega
  go_enter Tryd.func16, Tryd.ntmps16
  go_wp2_with fail
  go_region_held3 (fun W => W.cell? ⟨g, 0, none⟩ = some (.int .u64 (F 0)) ∧ W.cell? ⟨g, 1, none⟩ = some (.int .u64 (F 1)) ∧ W.cell? ⟨g, 2, none⟩ = some (.int .u64 (F 2)) ∧ W.cell? ⟨g, 3, none⟩ = some (.int .u64 (F 3)) ∧ Held g F w W)
    (first | assumption | exact held_keep (by assumption) (by assumption))
    (first
      | (go_at_call 22; with_reducible refine (C0.out _ (held_pow (g := g) (F := F) (w := w) (by assumption))).mono ?_; rintro e w2 ⟨rfl, hb⟩)
      | (go_at_call 23; with_reducible refine (C1.out _ (held_pow (g := g) (F := F) (w := w) (by assumption))).mono ?_; rintro e w2 ⟨rfl, hb⟩)
      | (go_at_call 23; with_reducible refine (C2.out _ (held_pow (g := g) (F := F) (w := w) (by assumption))).mono ?_; rintro e w2 ⟨rfl, hb⟩)
      | (go_at_call 23; with_reducible refine (C3.out _ (held_pow (g := g) (F := F) (w := w) (by assumption))).mono ?_; rintro e w2 ⟨rfl, hb⟩)
    )
  rename_i hh
  have H2 := hh.2.2.2.2
  have c4 : w2.cell? ⟨g, 4, none⟩ = some (.int .u64 (F 4)) := H2.1.cell 4 rfl
  have HE := Hd.mk H2
  have HP : Hd (Pow w2) := ⟨H2.2.2⟩
  clear hh H2 hb S0
  by_cases hz : F 4 = 0
  · have hgt : ((F 4 : Int) != 0) = false := by simp [hz]
    have HZ := Hd.mk hz
    clear hz
    go_wp2
    go_ret
    refine ⟨?_, HE.out.2.1⟩
    rw [← HU6.out HZ.out]
    rfl
  · have hgt : ((F 4 : Int) != 0) = true := by simp; omega
    have HZ := Hd.mk hz
    clear hz
    go_wp2_with fail
    with_reducible refine (C4.out _ HP.out).mono ?_
    rintro e w3 ⟨rfl, hb⟩
    have HB := Hd.mk (HE.out.2.1.trans (hb.mono HE.out.2.1.size))
    clear hb
    go_wp2
    go_ret
    refine ⟨?_, HB.out⟩
    rw [← HU8.out HZ.out]
    rfl
end Go.Proofs.YtagmjdhjhjlffaaDoor.Kb
