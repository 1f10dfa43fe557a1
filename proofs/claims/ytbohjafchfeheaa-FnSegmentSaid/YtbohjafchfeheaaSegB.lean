/- A segment's header as bytes. -/
import Derived.Test.YtbohjafchfeheaaSegH
import Derived.Test.YtbohjafchfeheaaPack
import Derived.BigRegion
namespace Go.Proofs.Ytbohjafchfeheaa.Kb
open Go Go.RowKit
set_option linter.unusedVariables false
set_option linter.unusedSimpArgs false
set_option maxHeartbeats 1000000

set_option maxRecDepth 100000 in
theorem zzSegment1 (eb sb wr tb : Nat) (x0 x1 x2 x3 x5 x7 x8 : Int) (y : Bool) (y6 : Int) (hy : y6 = if y = true then 1 else 0) (b0 : -2147483648 ≤ x0 ∧ x0 ≤ 2147483647) (b1 : -2147483648 ≤ x1 ∧ x1 ≤ 2147483647) (b2 : -32768 ≤ x2 ∧ x2 ≤ 32767) (b3 : -32768 ≤ x3 ∧ x3 ≤ 32767) (b5 : -128 ≤ x5 ∧ x5 ≤ 127) (b7 : -128 ≤ x7 ∧ x7 ≤ 127) (b8 : -32768 ≤ x8 ∧ x8 ≤ 32767) (w : World) (h : Enc0 w eb sb wr tb) :
    Calls Try.prog 59 #[.pointer (some ⟨eb, 0, none⟩), .agg #[.int .i64 x0, .int .i64 x1, .int .i64 x2, .int .i64 x3, .int .i64 1, .int .i64 x5, .int .i64 y6, .int .i64 x7, .int .i64 x8]] w fun e w' => e = .returned (.tuple #[]) ∧ Sent w sb wr (leB 4 x0 ++ (leB 4 x1 ++ (leB 2 x2 ++ (leB 2 x3 ++ (leB 1 1 ++ (leB 1 x5 ++ ([y6] ++ (leB 1 x7 ++ (List.replicate 8 0))))))))) w' := by
  obtain ⟨p0, q0⟩ := b0; obtain ⟨p1, q1⟩ := b1; obtain ⟨p2, q2⟩ := b2; obtain ⟨p3, q3⟩ := b3; obtain ⟨p5, q5⟩ := b5; obtain ⟨p7, q7⟩ := b7; obtain ⟨p8, q8⟩ := b8
  have hb : Below w.heap.size w ((w.alloc (.cells #[.int .i64 x0, .int .i64 x1, .int .i64 x2, .int .i64 x3, .int .i64 1, .int .i64 x5, .int .i64 y6, .int .i64 x7, .int .i64 x8] 71)).alloc (.cells #[.int .i32 x0, .int .i32 x1, .int .i16 x2, .int .i16 x3, .int .i8 1, .int .i8 x5, .bool y, .int .i8 x7, .int .i16 x8] 178)) := ((Below.refl _ _).alloc (Nat.le_refl _) _).alloc (by simp) _
  have hg : Blk ((w.alloc (.cells #[.int .i64 x0, .int .i64 x1, .int .i64 x2, .int .i64 x3, .int .i64 1, .int .i64 x5, .int .i64 y6, .int .i64 x7, .int .i64 x8] 71)).alloc (.cells #[.int .i32 x0, .int .i32 x1, .int .i16 x2, .int .i16 x3, .int .i8 1, .int .i8 x5, .bool y, .int .i8 x7, .int .i16 x8] 178)) (w.heap.size + 1) #[.int .i32 x0, .int .i32 x1, .int .i16 x2, .int .i16 x3, .int .i8 1, .int .i8 x5, .bool y, .int .i8 x7, .int .i16 x8] 178 := by
    have := Blk.new (w.alloc (.cells #[.int .i64 x0, .int .i64 x1, .int .i64 x2, .int .i64 x3, .int .i64 1, .int .i64 x5, .int .i64 y6, .int .i64 x7, .int .i64 x8] 71)) #[.int .i32 x0, .int .i32 x1, .int .i16 x2, .int .i16 x3, .int .i8 1, .int .i8 x5, .bool y, .int .i8 x7, .int .i16 x8] 178
    simpa using this
  have h2 := h.below hb
  have hE := Enc.start h2.b1 h2.b2 h2.b3 h2.n1 h2.n2 h2.n3
  have l2 := h.b2.lt; have l3 := h.b3.lt
  have C2 := enc_segment1 _ _ _ hE _ x0 x1 x2 x3 x5 x7 x8 y y6 hy hg hg.lt (by simp; omega) (by simp; omega) (by simp)
  have HB := Hd.mk hb
  clear hb hg h2 hE h l2 l3
  cases y
  all_goals
    simp only [if_true, Bool.false_eq_true, if_false] at hy
    subst hy
    have C2 := Hd.mk C2
    go_enter Try.func59, Try.ntmps59
    go_wp2_with fail
    with_reducible refine C2.out.mono ?_
    rintro e w2 ⟨rfl, hw⟩
    have HW := Hd.mk (Sent.of hw rfl rfl HB.out.size HB.out)
    clear hw C2
    go_wp2
    go_end0
    exact ⟨rfl, HW.out⟩
set_option maxRecDepth 100000 in
theorem segmentBytes1 (x0 x1 x2 x3 x5 x7 x8 : Int) (y : Bool) (y6 : Int) (hy : y6 = if y = true then 1 else 0) (b0 : -2147483648 ≤ x0 ∧ x0 ≤ 2147483647) (b1 : -2147483648 ≤ x1 ∧ x1 ≤ 2147483647) (b2 : -32768 ≤ x2 ∧ x2 ≤ 32767) (b3 : -32768 ≤ x3 ∧ x3 ≤ 32767) (b5 : -128 ≤ x5 ∧ x5 ≤ 127) (b7 : -128 ≤ x7 ∧ x7 ≤ 127) (b8 : -32768 ≤ x8 ∧ x8 ≤ 32767) (w : World) :
    Calls Try.prog 31 #[.agg #[.int .i64 x0, .int .i64 x1, .int .i64 x2, .int .i64 x3, .int .i64 1, .int .i64 x5, .int .i64 y6, .int .i64 x7, .int .i64 x8]] w fun e w' => Made w (leB 4 x0 ++ (leB 4 x1 ++ (leB 2 x2 ++ (leB 2 x3 ++ (leB 1 1 ++ (leB 1 x5 ++ ([y6] ++ (leB 1 x7 ++ (List.replicate 8 0))))))))) e w' := by
  have hA := (Blk.new w #[.int .i64 x0, .int .i64 x1, .int .i64 x2, .int .i64 x3, .int .i64 1, .int .i64 x5, .int .i64 y6, .int .i64 x7, .int .i64 x8] 71).alloc (.cells #[.slice none 0 0] 103)
  have hW := Blk.new (w.alloc (.cells #[.int .i64 x0, .int .i64 x1, .int .i64 x2, .int .i64 x3, .int .i64 1, .int .i64 x5, .int .i64 y6, .int .i64 x7, .int .i64 x8] 71)) #[.slice none 0 0] 103
  simp only [World.size_alloc] at hW
  have hB : Below w.heap.size w ((w.alloc (.cells #[.int .i64 x0, .int .i64 x1, .int .i64 x2, .int .i64 x3, .int .i64 1, .int .i64 x5, .int .i64 y6, .int .i64 x7, .int .i64 x8] 71)).alloc (.cells #[.slice none 0 0] 103)) := ((Below.refl _ _).alloc (Nat.le_refl _) _).alloc (by simp) _
  have HA := Hd.mk hA; have HW := Hd.mk hW; have HB := Hd.mk hB
  have Z := Hd.mk (fun eb sb tb w h => zzSegment1 eb sb (w : World × Nat).2 tb x0 x1 x2 x3 x5 x7 x8 y y6 hy b0 b1 b2 b3 b5 b7 b8 w.1 h)
  clear hA hW hB hy b0 b1 b2 b3 b5 b7 b8
  go_enter Try.func31, Try.ntmps31
  go_wp2_with fail
  obtain ⟨W, hWW⟩ : ∃ W, W = (w.alloc (.cells #[.int .i64 x0, .int .i64 x1, .int .i64 x2, .int .i64 x3, .int .i64 1, .int .i64 x5, .int .i64 y6, .int .i64 x7, .int .i64 x8] 71)).alloc (.cells #[.slice none 0 0] 103) := ⟨_, rfl⟩
  rw [← hWW]
  have hs : W.heap.size = w.heap.size + 1 + 1 := by rw [hWW]; simp
  rw [← hWW] at HA HW HB
  have HS := Hd.mk hs
  clear hWW hs
  have a0 : W.cell? ⟨w.heap.size, 0, none⟩ = some (.int .i64 x0) := HA.out.cell 0 rfl
  have a1 : W.cell? ⟨w.heap.size, 1, none⟩ = some (.int .i64 x1) := HA.out.cell 1 rfl
  have a2 : W.cell? ⟨w.heap.size, 2, none⟩ = some (.int .i64 x2) := HA.out.cell 2 rfl
  have a3 : W.cell? ⟨w.heap.size, 3, none⟩ = some (.int .i64 x3) := HA.out.cell 3 rfl
  have a4 : W.cell? ⟨w.heap.size, 4, none⟩ = some (.int .i64 1) := HA.out.cell 4 rfl
  have a5 : W.cell? ⟨w.heap.size, 5, none⟩ = some (.int .i64 x5) := HA.out.cell 5 rfl
  have a6 : W.cell? ⟨w.heap.size, 6, none⟩ = some (.int .i64 y6) := HA.out.cell 6 rfl
  have a7 : W.cell? ⟨w.heap.size, 7, none⟩ = some (.int .i64 x7) := HA.out.cell 7 rfl
  have a8 : W.cell? ⟨w.heap.size, 8, none⟩ = some (.int .i64 x8) := HA.out.cell 8 rfl
  go_region_with (first | (go_at_call 50; (with_reducible refine (encoder_new _ _).mono ?_); intro e w1 h1; obtain ⟨eb, sb, tb, rfl, he, k1, k2, k3, hl⟩ := Enc0.of (w := W.drew) HW.out.drew h1; have b0 : w1.cell? ⟨w.heap.size, 0, none⟩ = some (.int .i64 x0) := (HA.out.drew.below hl HA.out.lt).cell 0 rfl; have b1 : w1.cell? ⟨w.heap.size, 1, none⟩ = some (.int .i64 x1) := (HA.out.drew.below hl HA.out.lt).cell 1 rfl; have b2 : w1.cell? ⟨w.heap.size, 2, none⟩ = some (.int .i64 x2) := (HA.out.drew.below hl HA.out.lt).cell 2 rfl; have b3 : w1.cell? ⟨w.heap.size, 3, none⟩ = some (.int .i64 x3) := (HA.out.drew.below hl HA.out.lt).cell 3 rfl; have b4 : w1.cell? ⟨w.heap.size, 4, none⟩ = some (.int .i64 1) := (HA.out.drew.below hl HA.out.lt).cell 4 rfl; have b5 : w1.cell? ⟨w.heap.size, 5, none⟩ = some (.int .i64 x5) := (HA.out.drew.below hl HA.out.lt).cell 5 rfl; have b6 : w1.cell? ⟨w.heap.size, 6, none⟩ = some (.int .i64 y6) := (HA.out.drew.below hl HA.out.lt).cell 6 rfl; have b7 : w1.cell? ⟨w.heap.size, 7, none⟩ = some (.int .i64 x7) := (HA.out.drew.below hl HA.out.lt).cell 7 rfl; have b8 : w1.cell? ⟨w.heap.size, 8, none⟩ = some (.int .i64 x8) := (HA.out.drew.below hl HA.out.lt).cell 8 rfl; have HE := Hd.mk he; have HL := Hd.mk hl; have K2 := Hd.mk k2; clear h1 he hl k1 k2 k3) | (go_at_call 59; (with_reducible refine (Z.out eb sb tb (_, _) HE.out).mono ?_); rintro e w2 ⟨rfl, hsent⟩))
  all_goals
    obtain ⟨v, hv, hown, hb⟩ := hsent
    have c : w2.cell? ⟨w.heap.size + 1, 0, none⟩ = some v := hv.cell 0 rfl
    have hL : Below w.heap.size w w1 := HB.out.drew.trans (HL.out.mono (by have := HS.out; simp; omega))
    have HO := Hd.mk (own_base hown hL.size)
    have HB2 := Hd.mk (Bel.to' ((Bel.of hL).trans (hb.weak hL.size (S' := [sb, w.heap.size + 1]) (fun x hx _ => hx))) (by have := K2.out; have := HS.out; simp at *; omega))
    clear hv hown hb hL
    go_wp2
    refine bodyPost_ret (v := v) (by simp [results, Try.results31, go_sem]) rfl ⟨_, rfl, HO.out, HB2.out⟩
set_option maxRecDepth 100000 in
theorem zzSegment2 (eb sb wr tb : Nat) (x0 x1 x2 x3 x5 x7 x8 : Int) (y : Bool) (y6 : Int) (hy : y6 = if y = true then 1 else 0) (b0 : -2147483648 ≤ x0 ∧ x0 ≤ 2147483647) (b1 : -2147483648 ≤ x1 ∧ x1 ≤ 2147483647) (b2 : -32768 ≤ x2 ∧ x2 ≤ 32767) (b3 : -32768 ≤ x3 ∧ x3 ≤ 32767) (b5 : -128 ≤ x5 ∧ x5 ≤ 127) (b7 : -128 ≤ x7 ∧ x7 ≤ 127) (b8 : -32768 ≤ x8 ∧ x8 ≤ 32767) (w : World) (h : Enc0 w eb sb wr tb) :
    Calls Try.prog 59 #[.pointer (some ⟨eb, 0, none⟩), .agg #[.int .i64 x0, .int .i64 x1, .int .i64 x2, .int .i64 x3, .int .i64 2, .int .i64 x5, .int .i64 y6, .int .i64 x7, .int .i64 x8]] w fun e w' => e = .returned (.tuple #[]) ∧ Sent w sb wr (leB 4 x0 ++ (leB 4 x1 ++ (leB 2 x2 ++ (leB 2 x3 ++ (leB 1 2 ++ (List.replicate 1 0 ++ (leB 2 x8 ++ (List.replicate 8 0)))))))) w' := by
  obtain ⟨p0, q0⟩ := b0; obtain ⟨p1, q1⟩ := b1; obtain ⟨p2, q2⟩ := b2; obtain ⟨p3, q3⟩ := b3; obtain ⟨p5, q5⟩ := b5; obtain ⟨p7, q7⟩ := b7; obtain ⟨p8, q8⟩ := b8
  have hb : Below w.heap.size w ((w.alloc (.cells #[.int .i64 x0, .int .i64 x1, .int .i64 x2, .int .i64 x3, .int .i64 2, .int .i64 x5, .int .i64 y6, .int .i64 x7, .int .i64 x8] 71)).alloc (.cells #[.int .i32 x0, .int .i32 x1, .int .i16 x2, .int .i16 x3, .int .i8 2, .int .i8 x5, .bool y, .int .i8 x7, .int .i16 x8] 178)) := ((Below.refl _ _).alloc (Nat.le_refl _) _).alloc (by simp) _
  have hg : Blk ((w.alloc (.cells #[.int .i64 x0, .int .i64 x1, .int .i64 x2, .int .i64 x3, .int .i64 2, .int .i64 x5, .int .i64 y6, .int .i64 x7, .int .i64 x8] 71)).alloc (.cells #[.int .i32 x0, .int .i32 x1, .int .i16 x2, .int .i16 x3, .int .i8 2, .int .i8 x5, .bool y, .int .i8 x7, .int .i16 x8] 178)) (w.heap.size + 1) #[.int .i32 x0, .int .i32 x1, .int .i16 x2, .int .i16 x3, .int .i8 2, .int .i8 x5, .bool y, .int .i8 x7, .int .i16 x8] 178 := by
    have := Blk.new (w.alloc (.cells #[.int .i64 x0, .int .i64 x1, .int .i64 x2, .int .i64 x3, .int .i64 2, .int .i64 x5, .int .i64 y6, .int .i64 x7, .int .i64 x8] 71)) #[.int .i32 x0, .int .i32 x1, .int .i16 x2, .int .i16 x3, .int .i8 2, .int .i8 x5, .bool y, .int .i8 x7, .int .i16 x8] 178
    simpa using this
  have h2 := h.below hb
  have hE := Enc.start h2.b1 h2.b2 h2.b3 h2.n1 h2.n2 h2.n3
  have l2 := h.b2.lt; have l3 := h.b3.lt
  have C2 := enc_segment2 _ _ _ hE _ x0 x1 x2 x3 x5 x7 x8 y y6 hy hg hg.lt (by simp; omega) (by simp; omega) (by simp)
  have HB := Hd.mk hb
  clear hb hg h2 hE h l2 l3
  cases y
  all_goals
    simp only [if_true, Bool.false_eq_true, if_false] at hy
    subst hy
    have C2 := Hd.mk C2
    go_enter Try.func59, Try.ntmps59
    go_wp2_with fail
    with_reducible refine C2.out.mono ?_
    rintro e w2 ⟨rfl, hw⟩
    have HW := Hd.mk (Sent.of hw rfl rfl HB.out.size HB.out)
    clear hw C2
    go_wp2
    go_end0
    exact ⟨rfl, HW.out⟩
set_option maxRecDepth 100000 in
theorem segmentBytes2 (x0 x1 x2 x3 x5 x7 x8 : Int) (y : Bool) (y6 : Int) (hy : y6 = if y = true then 1 else 0) (b0 : -2147483648 ≤ x0 ∧ x0 ≤ 2147483647) (b1 : -2147483648 ≤ x1 ∧ x1 ≤ 2147483647) (b2 : -32768 ≤ x2 ∧ x2 ≤ 32767) (b3 : -32768 ≤ x3 ∧ x3 ≤ 32767) (b5 : -128 ≤ x5 ∧ x5 ≤ 127) (b7 : -128 ≤ x7 ∧ x7 ≤ 127) (b8 : -32768 ≤ x8 ∧ x8 ≤ 32767) (w : World) :
    Calls Try.prog 31 #[.agg #[.int .i64 x0, .int .i64 x1, .int .i64 x2, .int .i64 x3, .int .i64 2, .int .i64 x5, .int .i64 y6, .int .i64 x7, .int .i64 x8]] w fun e w' => Made w (leB 4 x0 ++ (leB 4 x1 ++ (leB 2 x2 ++ (leB 2 x3 ++ (leB 1 2 ++ (List.replicate 1 0 ++ (leB 2 x8 ++ (List.replicate 8 0)))))))) e w' := by
  have hA := (Blk.new w #[.int .i64 x0, .int .i64 x1, .int .i64 x2, .int .i64 x3, .int .i64 2, .int .i64 x5, .int .i64 y6, .int .i64 x7, .int .i64 x8] 71).alloc (.cells #[.slice none 0 0] 103)
  have hW := Blk.new (w.alloc (.cells #[.int .i64 x0, .int .i64 x1, .int .i64 x2, .int .i64 x3, .int .i64 2, .int .i64 x5, .int .i64 y6, .int .i64 x7, .int .i64 x8] 71)) #[.slice none 0 0] 103
  simp only [World.size_alloc] at hW
  have hB : Below w.heap.size w ((w.alloc (.cells #[.int .i64 x0, .int .i64 x1, .int .i64 x2, .int .i64 x3, .int .i64 2, .int .i64 x5, .int .i64 y6, .int .i64 x7, .int .i64 x8] 71)).alloc (.cells #[.slice none 0 0] 103)) := ((Below.refl _ _).alloc (Nat.le_refl _) _).alloc (by simp) _
  have HA := Hd.mk hA; have HW := Hd.mk hW; have HB := Hd.mk hB
  have Z := Hd.mk (fun eb sb tb w h => zzSegment2 eb sb (w : World × Nat).2 tb x0 x1 x2 x3 x5 x7 x8 y y6 hy b0 b1 b2 b3 b5 b7 b8 w.1 h)
  clear hA hW hB hy b0 b1 b2 b3 b5 b7 b8
  go_enter Try.func31, Try.ntmps31
  go_wp2_with fail
  obtain ⟨W, hWW⟩ : ∃ W, W = (w.alloc (.cells #[.int .i64 x0, .int .i64 x1, .int .i64 x2, .int .i64 x3, .int .i64 2, .int .i64 x5, .int .i64 y6, .int .i64 x7, .int .i64 x8] 71)).alloc (.cells #[.slice none 0 0] 103) := ⟨_, rfl⟩
  rw [← hWW]
  have hs : W.heap.size = w.heap.size + 1 + 1 := by rw [hWW]; simp
  rw [← hWW] at HA HW HB
  have HS := Hd.mk hs
  clear hWW hs
  have a0 : W.cell? ⟨w.heap.size, 0, none⟩ = some (.int .i64 x0) := HA.out.cell 0 rfl
  have a1 : W.cell? ⟨w.heap.size, 1, none⟩ = some (.int .i64 x1) := HA.out.cell 1 rfl
  have a2 : W.cell? ⟨w.heap.size, 2, none⟩ = some (.int .i64 x2) := HA.out.cell 2 rfl
  have a3 : W.cell? ⟨w.heap.size, 3, none⟩ = some (.int .i64 x3) := HA.out.cell 3 rfl
  have a4 : W.cell? ⟨w.heap.size, 4, none⟩ = some (.int .i64 2) := HA.out.cell 4 rfl
  have a5 : W.cell? ⟨w.heap.size, 5, none⟩ = some (.int .i64 x5) := HA.out.cell 5 rfl
  have a6 : W.cell? ⟨w.heap.size, 6, none⟩ = some (.int .i64 y6) := HA.out.cell 6 rfl
  have a7 : W.cell? ⟨w.heap.size, 7, none⟩ = some (.int .i64 x7) := HA.out.cell 7 rfl
  have a8 : W.cell? ⟨w.heap.size, 8, none⟩ = some (.int .i64 x8) := HA.out.cell 8 rfl
  go_region_with (first | (go_at_call 50; (with_reducible refine (encoder_new _ _).mono ?_); intro e w1 h1; obtain ⟨eb, sb, tb, rfl, he, k1, k2, k3, hl⟩ := Enc0.of (w := W.drew) HW.out.drew h1; have b0 : w1.cell? ⟨w.heap.size, 0, none⟩ = some (.int .i64 x0) := (HA.out.drew.below hl HA.out.lt).cell 0 rfl; have b1 : w1.cell? ⟨w.heap.size, 1, none⟩ = some (.int .i64 x1) := (HA.out.drew.below hl HA.out.lt).cell 1 rfl; have b2 : w1.cell? ⟨w.heap.size, 2, none⟩ = some (.int .i64 x2) := (HA.out.drew.below hl HA.out.lt).cell 2 rfl; have b3 : w1.cell? ⟨w.heap.size, 3, none⟩ = some (.int .i64 x3) := (HA.out.drew.below hl HA.out.lt).cell 3 rfl; have b4 : w1.cell? ⟨w.heap.size, 4, none⟩ = some (.int .i64 2) := (HA.out.drew.below hl HA.out.lt).cell 4 rfl; have b5 : w1.cell? ⟨w.heap.size, 5, none⟩ = some (.int .i64 x5) := (HA.out.drew.below hl HA.out.lt).cell 5 rfl; have b6 : w1.cell? ⟨w.heap.size, 6, none⟩ = some (.int .i64 y6) := (HA.out.drew.below hl HA.out.lt).cell 6 rfl; have b7 : w1.cell? ⟨w.heap.size, 7, none⟩ = some (.int .i64 x7) := (HA.out.drew.below hl HA.out.lt).cell 7 rfl; have b8 : w1.cell? ⟨w.heap.size, 8, none⟩ = some (.int .i64 x8) := (HA.out.drew.below hl HA.out.lt).cell 8 rfl; have HE := Hd.mk he; have HL := Hd.mk hl; have K2 := Hd.mk k2; clear h1 he hl k1 k2 k3) | (go_at_call 59; (with_reducible refine (Z.out eb sb tb (_, _) HE.out).mono ?_); rintro e w2 ⟨rfl, hsent⟩))
  all_goals
    obtain ⟨v, hv, hown, hb⟩ := hsent
    have c : w2.cell? ⟨w.heap.size + 1, 0, none⟩ = some v := hv.cell 0 rfl
    have hL : Below w.heap.size w w1 := HB.out.drew.trans (HL.out.mono (by have := HS.out; simp; omega))
    have HO := Hd.mk (own_base hown hL.size)
    have HB2 := Hd.mk (Bel.to' ((Bel.of hL).trans (hb.weak hL.size (S' := [sb, w.heap.size + 1]) (fun x hx _ => hx))) (by have := K2.out; have := HS.out; simp at *; omega))
    clear hv hown hb hL
    go_wp2
    refine bodyPost_ret (v := v) (by simp [results, Try.results31, go_sem]) rfl ⟨_, rfl, HO.out, HB2.out⟩
set_option maxRecDepth 100000 in
theorem zzSegment5 (eb sb wr tb : Nat) (x0 x1 x2 x3 x5 x7 x8 : Int) (y : Bool) (y6 : Int) (hy : y6 = if y = true then 1 else 0) (b0 : -2147483648 ≤ x0 ∧ x0 ≤ 2147483647) (b1 : -2147483648 ≤ x1 ∧ x1 ≤ 2147483647) (b2 : -32768 ≤ x2 ∧ x2 ≤ 32767) (b3 : -32768 ≤ x3 ∧ x3 ≤ 32767) (b5 : -128 ≤ x5 ∧ x5 ≤ 127) (b7 : -128 ≤ x7 ∧ x7 ≤ 127) (b8 : -32768 ≤ x8 ∧ x8 ≤ 32767) (w : World) (h : Enc0 w eb sb wr tb) :
    Calls Try.prog 59 #[.pointer (some ⟨eb, 0, none⟩), .agg #[.int .i64 x0, .int .i64 x1, .int .i64 x2, .int .i64 x3, .int .i64 5, .int .i64 x5, .int .i64 y6, .int .i64 x7, .int .i64 x8]] w fun e w' => e = .returned (.tuple #[]) ∧ Sent w sb wr (leB 4 x0 ++ (leB 4 x1 ++ (leB 2 x2 ++ (leB 2 x3 ++ (leB 1 5 ++ (List.replicate 11 0)))))) w' := by
  obtain ⟨p0, q0⟩ := b0; obtain ⟨p1, q1⟩ := b1; obtain ⟨p2, q2⟩ := b2; obtain ⟨p3, q3⟩ := b3; obtain ⟨p5, q5⟩ := b5; obtain ⟨p7, q7⟩ := b7; obtain ⟨p8, q8⟩ := b8
  have hb : Below w.heap.size w ((w.alloc (.cells #[.int .i64 x0, .int .i64 x1, .int .i64 x2, .int .i64 x3, .int .i64 5, .int .i64 x5, .int .i64 y6, .int .i64 x7, .int .i64 x8] 71)).alloc (.cells #[.int .i32 x0, .int .i32 x1, .int .i16 x2, .int .i16 x3, .int .i8 5, .int .i8 x5, .bool y, .int .i8 x7, .int .i16 x8] 178)) := ((Below.refl _ _).alloc (Nat.le_refl _) _).alloc (by simp) _
  have hg : Blk ((w.alloc (.cells #[.int .i64 x0, .int .i64 x1, .int .i64 x2, .int .i64 x3, .int .i64 5, .int .i64 x5, .int .i64 y6, .int .i64 x7, .int .i64 x8] 71)).alloc (.cells #[.int .i32 x0, .int .i32 x1, .int .i16 x2, .int .i16 x3, .int .i8 5, .int .i8 x5, .bool y, .int .i8 x7, .int .i16 x8] 178)) (w.heap.size + 1) #[.int .i32 x0, .int .i32 x1, .int .i16 x2, .int .i16 x3, .int .i8 5, .int .i8 x5, .bool y, .int .i8 x7, .int .i16 x8] 178 := by
    have := Blk.new (w.alloc (.cells #[.int .i64 x0, .int .i64 x1, .int .i64 x2, .int .i64 x3, .int .i64 5, .int .i64 x5, .int .i64 y6, .int .i64 x7, .int .i64 x8] 71)) #[.int .i32 x0, .int .i32 x1, .int .i16 x2, .int .i16 x3, .int .i8 5, .int .i8 x5, .bool y, .int .i8 x7, .int .i16 x8] 178
    simpa using this
  have h2 := h.below hb
  have hE := Enc.start h2.b1 h2.b2 h2.b3 h2.n1 h2.n2 h2.n3
  have l2 := h.b2.lt; have l3 := h.b3.lt
  have C2 := enc_segment5 _ _ _ hE _ x0 x1 x2 x3 x5 x7 x8 y y6 hy hg hg.lt (by simp; omega) (by simp; omega) (by simp)
  have HB := Hd.mk hb
  clear hb hg h2 hE h l2 l3
  cases y
  all_goals
    simp only [if_true, Bool.false_eq_true, if_false] at hy
    subst hy
    have C2 := Hd.mk C2
    go_enter Try.func59, Try.ntmps59
    go_wp2_with fail
    with_reducible refine C2.out.mono ?_
    rintro e w2 ⟨rfl, hw⟩
    have HW := Hd.mk (Sent.of hw rfl rfl HB.out.size HB.out)
    clear hw C2
    go_wp2
    go_end0
    exact ⟨rfl, HW.out⟩
set_option maxRecDepth 100000 in
theorem segmentBytes5 (x0 x1 x2 x3 x5 x7 x8 : Int) (y : Bool) (y6 : Int) (hy : y6 = if y = true then 1 else 0) (b0 : -2147483648 ≤ x0 ∧ x0 ≤ 2147483647) (b1 : -2147483648 ≤ x1 ∧ x1 ≤ 2147483647) (b2 : -32768 ≤ x2 ∧ x2 ≤ 32767) (b3 : -32768 ≤ x3 ∧ x3 ≤ 32767) (b5 : -128 ≤ x5 ∧ x5 ≤ 127) (b7 : -128 ≤ x7 ∧ x7 ≤ 127) (b8 : -32768 ≤ x8 ∧ x8 ≤ 32767) (w : World) :
    Calls Try.prog 31 #[.agg #[.int .i64 x0, .int .i64 x1, .int .i64 x2, .int .i64 x3, .int .i64 5, .int .i64 x5, .int .i64 y6, .int .i64 x7, .int .i64 x8]] w fun e w' => Made w (leB 4 x0 ++ (leB 4 x1 ++ (leB 2 x2 ++ (leB 2 x3 ++ (leB 1 5 ++ (List.replicate 11 0)))))) e w' := by
  have hA := (Blk.new w #[.int .i64 x0, .int .i64 x1, .int .i64 x2, .int .i64 x3, .int .i64 5, .int .i64 x5, .int .i64 y6, .int .i64 x7, .int .i64 x8] 71).alloc (.cells #[.slice none 0 0] 103)
  have hW := Blk.new (w.alloc (.cells #[.int .i64 x0, .int .i64 x1, .int .i64 x2, .int .i64 x3, .int .i64 5, .int .i64 x5, .int .i64 y6, .int .i64 x7, .int .i64 x8] 71)) #[.slice none 0 0] 103
  simp only [World.size_alloc] at hW
  have hB : Below w.heap.size w ((w.alloc (.cells #[.int .i64 x0, .int .i64 x1, .int .i64 x2, .int .i64 x3, .int .i64 5, .int .i64 x5, .int .i64 y6, .int .i64 x7, .int .i64 x8] 71)).alloc (.cells #[.slice none 0 0] 103)) := ((Below.refl _ _).alloc (Nat.le_refl _) _).alloc (by simp) _
  have HA := Hd.mk hA; have HW := Hd.mk hW; have HB := Hd.mk hB
  have Z := Hd.mk (fun eb sb tb w h => zzSegment5 eb sb (w : World × Nat).2 tb x0 x1 x2 x3 x5 x7 x8 y y6 hy b0 b1 b2 b3 b5 b7 b8 w.1 h)
  clear hA hW hB hy b0 b1 b2 b3 b5 b7 b8
  go_enter Try.func31, Try.ntmps31
  go_wp2_with fail
  obtain ⟨W, hWW⟩ : ∃ W, W = (w.alloc (.cells #[.int .i64 x0, .int .i64 x1, .int .i64 x2, .int .i64 x3, .int .i64 5, .int .i64 x5, .int .i64 y6, .int .i64 x7, .int .i64 x8] 71)).alloc (.cells #[.slice none 0 0] 103) := ⟨_, rfl⟩
  rw [← hWW]
  have hs : W.heap.size = w.heap.size + 1 + 1 := by rw [hWW]; simp
  rw [← hWW] at HA HW HB
  have HS := Hd.mk hs
  clear hWW hs
  have a0 : W.cell? ⟨w.heap.size, 0, none⟩ = some (.int .i64 x0) := HA.out.cell 0 rfl
  have a1 : W.cell? ⟨w.heap.size, 1, none⟩ = some (.int .i64 x1) := HA.out.cell 1 rfl
  have a2 : W.cell? ⟨w.heap.size, 2, none⟩ = some (.int .i64 x2) := HA.out.cell 2 rfl
  have a3 : W.cell? ⟨w.heap.size, 3, none⟩ = some (.int .i64 x3) := HA.out.cell 3 rfl
  have a4 : W.cell? ⟨w.heap.size, 4, none⟩ = some (.int .i64 5) := HA.out.cell 4 rfl
  have a5 : W.cell? ⟨w.heap.size, 5, none⟩ = some (.int .i64 x5) := HA.out.cell 5 rfl
  have a6 : W.cell? ⟨w.heap.size, 6, none⟩ = some (.int .i64 y6) := HA.out.cell 6 rfl
  have a7 : W.cell? ⟨w.heap.size, 7, none⟩ = some (.int .i64 x7) := HA.out.cell 7 rfl
  have a8 : W.cell? ⟨w.heap.size, 8, none⟩ = some (.int .i64 x8) := HA.out.cell 8 rfl
  go_region_with (first | (go_at_call 50; (with_reducible refine (encoder_new _ _).mono ?_); intro e w1 h1; obtain ⟨eb, sb, tb, rfl, he, k1, k2, k3, hl⟩ := Enc0.of (w := W.drew) HW.out.drew h1; have b0 : w1.cell? ⟨w.heap.size, 0, none⟩ = some (.int .i64 x0) := (HA.out.drew.below hl HA.out.lt).cell 0 rfl; have b1 : w1.cell? ⟨w.heap.size, 1, none⟩ = some (.int .i64 x1) := (HA.out.drew.below hl HA.out.lt).cell 1 rfl; have b2 : w1.cell? ⟨w.heap.size, 2, none⟩ = some (.int .i64 x2) := (HA.out.drew.below hl HA.out.lt).cell 2 rfl; have b3 : w1.cell? ⟨w.heap.size, 3, none⟩ = some (.int .i64 x3) := (HA.out.drew.below hl HA.out.lt).cell 3 rfl; have b4 : w1.cell? ⟨w.heap.size, 4, none⟩ = some (.int .i64 5) := (HA.out.drew.below hl HA.out.lt).cell 4 rfl; have b5 : w1.cell? ⟨w.heap.size, 5, none⟩ = some (.int .i64 x5) := (HA.out.drew.below hl HA.out.lt).cell 5 rfl; have b6 : w1.cell? ⟨w.heap.size, 6, none⟩ = some (.int .i64 y6) := (HA.out.drew.below hl HA.out.lt).cell 6 rfl; have b7 : w1.cell? ⟨w.heap.size, 7, none⟩ = some (.int .i64 x7) := (HA.out.drew.below hl HA.out.lt).cell 7 rfl; have b8 : w1.cell? ⟨w.heap.size, 8, none⟩ = some (.int .i64 x8) := (HA.out.drew.below hl HA.out.lt).cell 8 rfl; have HE := Hd.mk he; have HL := Hd.mk hl; have K2 := Hd.mk k2; clear h1 he hl k1 k2 k3) | (go_at_call 59; (with_reducible refine (Z.out eb sb tb (_, _) HE.out).mono ?_); rintro e w2 ⟨rfl, hsent⟩))
  all_goals
    obtain ⟨v, hv, hown, hb⟩ := hsent
    have c : w2.cell? ⟨w.heap.size + 1, 0, none⟩ = some v := hv.cell 0 rfl
    have hL : Below w.heap.size w w1 := HB.out.drew.trans (HL.out.mono (by have := HS.out; simp; omega))
    have HO := Hd.mk (own_base hown hL.size)
    have HB2 := Hd.mk (Bel.to' ((Bel.of hL).trans (hb.weak hL.size (S' := [sb, w.heap.size + 1]) (fun x hx _ => hx))) (by have := K2.out; have := HS.out; simp at *; omega))
    clear hv hown hb hL
    go_wp2
    refine bodyPost_ret (v := v) (by simp [results, Try.results31, go_sem]) rfl ⟨_, rfl, HO.out, HB2.out⟩
end Go.Proofs.Ytbohjafchfeheaa.Kb
