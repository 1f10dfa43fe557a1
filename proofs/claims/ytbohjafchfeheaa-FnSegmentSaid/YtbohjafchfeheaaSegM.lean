/- The walk of FnSegment: the law. -/
import Derived.Test.YtbohjafchfeheaaSegL
import Derived.Test.YtbohjafchfeheaaZero
namespace Go.Proofs.Ytbohjafchfeheaa.Kb
open Go Go.RowKit Go.Joins
set_option linter.unusedVariables false
set_option linter.unusedSimpArgs false
set_option maxHeartbeats 2000000

set_option maxRecDepth 100000 in
theorem law_segment1false (x0 x1 x2 x3 k x5 x7 x8 : Int) (b0 : -2147483648 ≤ x0 ∧ x0 ≤ 2147483647) (b1 : -2147483648 ≤ x1 ∧ x1 ≤ 2147483647) (b2 : -32768 ≤ x2 ∧ x2 ≤ 32767) (b3 : -32768 ≤ x3 ∧ x3 ≤ 32767) (b5 : -128 ≤ x5 ∧ x5 ≤ 127) (b7 : -128 ≤ x7 ∧ x7 ≤ 127) (b8 : -32768 ≤ x8 ∧ x8 ≤ 32767) (w : World) (hk : k % 256 % 3 = 0) :
    Calls Try.prog 12 #[.int .i32 x0, .int .i32 x1, .int .i16 x2, .int .i16 x3, .int .i8 k, .int .i8 x5, .bool false, .int .i8 x7, .int .i16 x8] w fun e w' => e = .returned (.bool true) ∧ Below w.heap.size w w' := by
  obtain ⟨xs, hxs⟩ : ∃ xs, xs = leB 4 x0 ++ (leB 4 x1 ++ (leB 2 x2 ++ (leB 2 x3 ++ (leB 1 1 ++ (leB 1 x5 ++ ([0] ++ (leB 1 x7 ++ (List.replicate 8 0)))))))) := ⟨_, rfl⟩
  have hlen : xs.length = 24 := by rw [hxs]; simp [leB_len]
  have hby : ∀ x ∈ xs, 0 ≤ x ∧ x < 256 := by
    rw [hxs]
    exact (bytes_append (leB_byte _ _) (bytes_append (leB_byte _ _) (bytes_append (leB_byte _ _) (bytes_append (leB_byte _ _) (bytes_append (leB_byte _ _) (bytes_append (leB_byte _ _) (bytes_append ((by simp)) (bytes_append (leB_byte _ _) (bytes_zero _)))))))))
  obtain ⟨r1, hr1⟩ : ∃ r1, rowB [(x0, 4), (x1, 4), (x2, 2), (x3, 2), (1, 1)] = r1 := ⟨_, rfl⟩
  have hl1 : r1.length = 13 := by rw [← hr1]; simp [rowB, leB_len]
  obtain ⟨r2, hr2⟩ : ∃ r2, rowB [(x5, 1), (0, 1), (x7, 1), (0, 8)] = r2 := ⟨_, rfl⟩
  have hl2 : r2.length = 11 := by rw [← hr2]; simp [rowB, leB_len]
  have hx : r1 ++ r2 = xs := by
    have z8 : leB 8 0 = List.replicate 8 0 := by decide
    have z1 : leB 1 0 = [0] := by decide
    rw [hxs, ← hr1, ← hr2]; simp only [rowB, z8, z1, List.append_assoc, List.append_nil, List.nil_append]
  have hsd : ∀ (K : DK), K.xs = xs → ∀ (W : World) (g : Nat), _ → Calls Try.prog 87 #[.pointer (some ⟨g, 0, none⟩), .pointer (some ⟨K.d, 0, none⟩)] W _ := fun K hK W g h => segDec1 x0 x1 x2 x3 x5 x7 x8 false 0 rfl b0 b1 b2 b3 b5 b7 b8 xs hxs K hK W g h
  have hsb := fun w => segmentBytes1 x0 x1 x2 x3 x5 x7 x8 false 0 rfl b0 b1 b2 b3 b5 b7 b8 w
  rw [← hxs] at hsb
  obtain ⟨i0, hi, _⟩ := info_of infoI
  obtain ⟨j0, hj0, hj1, hj2, hj3⟩ := info_of infoB
  have heq : ∀ w, (Op.equalIn 10000 71 (.agg #[.int .i64 x0, .int .i64 x1, .int .i64 x2, .int .i64 x3, .int .i64 1, .int .i64 x5, .int .i64 0, .int .i64 x7, .int .i64 0]) (.agg #[.int .i64 x0, .int .i64 x1, .int .i64 x2, .int .i64 x3, .int .i64 1, .int .i64 x5, .int .i64 0, .int .i64 x7, .int .i64 0])).run Try.prog w = .ok true w :=
    fun w => eq_ints .i64 w 9998 9 [x0, x1, x2, x3, 1, x5, 0, x7, 0] Try.underlying71 Try.underlying3 hi (by kernel_rfl) rfl
  have C1 := Hd.mk (fun w g hg => heRow3 [(x0, 4), (x1, 4), (x2, 2), (x3, 2), (1, 1)] 5 #[.int .i64 x0, .int .i64 x1, .int .i64 x2, .int .i64 x3, .int .i64 1] #[.int .i64 4, .int .i64 4, .int .i64 2, .int .i64 2, .int .i64 1] 2 3 w g hg rfl rfl rfl (by simp) (by omega) r1 hr1)
  have C2 := Hd.mk (fun w g hg => heRow3 [(x5, 1), (0, 1), (x7, 1), (0, 8)] 4 #[.int .i64 x5, .int .i64 0, .int .i64 x7, .int .i64 0] #[.int .i64 1, .int .i64 1, .int .i64 1, .int .i64 8] 2 3 w g hg rfl rfl rfl (by simp) (by omega) r2 hr2)
  have HX := Hd.mk hx; have HLEN := Hd.mk hlen; have HBY := Hd.mk hby; have HSD := Hd.mk hsd; have HSB := Hd.mk hsb; have HEQ := Hd.mk heq; have HL1 := Hd.mk hl1; have HL2 := Hd.mk hl2; have J := Hd.mk (And.intro hj0 (And.intro hj1 (And.intro hj2 hj3)))
  have BB := Hd.mk (And.intro b0 (And.intro b1 (And.intro b2 (And.intro b3 (And.intro b5 (And.intro b7 b8))))))
  obtain ⟨p0, q0⟩ := b0; obtain ⟨p1, q1⟩ := b1; obtain ⟨p2, q2⟩ := b2; obtain ⟨p3, q3⟩ := b3; obtain ⟨p5, q5⟩ := b5; obtain ⟨p7, q7⟩ := b7; obtain ⟨p8, q8⟩ := b8
  clear hx hlen hby hsd hsb heq hr1 hr2 hl1 hl2 hxs hi hj0 hj1 hj2 hj3
  go_enter Try.func12, Try.ntmps12
  go_wp2_with fail
  with_reducible refine (C1.out _ _ (by simp)).mono ?_
  intro e w1 h1
  obtain ⟨v1, rfl, own1, B1⟩ := h1
  have hA : Blk w1 (w.heap.size + 1) #[.int .i64 x0, .int .i64 x1, .int .i64 x2, .int .i64 x3, .int .i64 1, .int .i64 x5, .int .i64 0, .int .i64 x7, .int .i64 x8] 71 := by
    have := (Blk.new (w.alloc (.cells #[.int .i64 1, .int .i64 2, .int .i64 5] 3)) #[.int .i64 x0, .int .i64 x1, .int .i64 x2, .int .i64 x3, .int .i64 1, .int .i64 x5, .int .i64 0, .int .i64 x7, .int .i64 x8] 71).below B1 (by simp)
    simpa using this
  have HB := Hd.mk (((((Below.refl _ w).alloc (Nat.le_refl _) (.cells #[.int .i64 1, .int .i64 2, .int .i64 5] 3)).alloc (by simp) (.cells #[.int .i64 x0, .int .i64 x1, .int .i64 x2, .int .i64 x3, .int .i64 1, .int .i64 x5, .int .i64 0, .int .i64 x7, .int .i64 x8] 71))).trans (B1.mono (by simp; omega)))
  have O1 := Hd.mk (own_base own1 (B' := w.heap.size + 2) (by simp))
  have HA := Hd.mk hA; have S1 := Hd.mk B1.size; have HL := Hd.mk (hA.lt)
  have d0 : w1.cell? ⟨w.heap.size + 1, 0, none⟩ = some (.int .i64 x0) := hA.cell 0 rfl
  have d1 : w1.cell? ⟨w.heap.size + 1, 1, none⟩ = some (.int .i64 x1) := hA.cell 1 rfl
  have d2 : w1.cell? ⟨w.heap.size + 1, 2, none⟩ = some (.int .i64 x2) := hA.cell 2 rfl
  have d3 : w1.cell? ⟨w.heap.size + 1, 3, none⟩ = some (.int .i64 x3) := hA.cell 3 rfl
  have d4 : w1.cell? ⟨w.heap.size + 1, 4, none⟩ = some (.int .i64 1) := hA.cell 4 rfl
  have d5 : w1.cell? ⟨w.heap.size + 1, 5, none⟩ = some (.int .i64 x5) := hA.cell 5 rfl
  have d6 : w1.cell? ⟨w.heap.size + 1, 6, none⟩ = some (.int .i64 0) := hA.cell 6 rfl
  have d7 : w1.cell? ⟨w.heap.size + 1, 7, none⟩ = some (.int .i64 x7) := hA.cell 7 rfl
  have d8 : w1.cell? ⟨w.heap.size + 1, 8, none⟩ = some (.int .i64 x8) := hA.cell 8 rfl
  have NB := Hd.mk (Blk.new w1 #[.int .i64 x0, .int .i64 x1, .int .i64 x2, .int .i64 x3, .int .i64 1, .int .i64 0, .int .i64 0, .int .i64 0, .int .i64 0] 71)
  clear own1 B1 hA C1
  go_wp2_with fail
  with_reducible refine (C2.out _ _ (by simp)).mono ?_
  intro e w2 h1
  obtain ⟨v2, rfl, own2, B2⟩ := h1
  have O1b := (O1.out.alloc (.cells #[.int .i64 x0, .int .i64 x1, .int .i64 x2, .int .i64 x3, .int .i64 1, .int .i64 0, .int .i64 0, .int .i64 0, .int .i64 0] 71)).kept (row := none) (w' := w2) ⟨B2.os, B2.tape, B2.output, B2.size, fun k hk _ => B2.block k hk⟩ (by cases h : Value.ownBlock _ with | none => exact .inl rfl | some k => exact .inr (by simp))
  obtain ⟨G2, cap2, rfl⟩ := ownsRow_form own2 (by rw [HL2.out]; decide)
  have HN := Hd.mk (own2.cells (g := G2) rfl)
  have HB2 := Hd.mk ((HB.out.alloc HB.out.size (.cells #[.int .i64 x0, .int .i64 x1, .int .i64 x2, .int .i64 x3, .int .i64 1, .int .i64 0, .int .i64 0, .int .i64 0, .int .i64 0] 71)).trans (B2.mono (by have := HB.out.size; simp; omega)))
  have HA2 := Hd.mk ((HA.out.alloc (.cells #[.int .i64 x0, .int .i64 x1, .int .i64 x2, .int .i64 x3, .int .i64 1, .int .i64 0, .int .i64 0, .int .i64 0, .int .i64 0] 71)).below B2 (by have := HA.out.lt; simp; omega))
  have NB2 := Hd.mk (NB.out.below B2 (by simp))
  have S2 := Hd.mk B2.size
  clear own2 B2 C2 HA NB d0 d1 d2 d3 d4 d5 d6 d7 d8
  go_wp2_with (at_builtin; refine wpList_append_own _ rfl _ _ 23 rfl (w.heap.size + 2) 5 j0 (.int .u8 0) 1 1 Try.underlying23 J.out.1 J.out.2.1 J.out.2.2.1 J.out.2.2.2 rfl (by decide) _ _ _ rfl O1b ⟨G2, 0, none⟩ r2.length cap2 (bc r2) rfl ?c0 ?c1 ?c2 ?c3 ?c4 ?c5 ?_)
  case c0 => simp
  case c1 => exact HN.out
  case c2 =>
    intro u hu
    obtain ⟨x, _, rfl⟩ := List.mem_map.1 hu
    rfl
  case c3 => rw [HL1.out, HL2.out]; decide
  case c4 => rw [HL1.out, HL2.out]; decide
  case c5 => have h1 := S2.out; have h2 := HL.out; simp at h1; omega
  intro v3 w3 own3 G3 _
  have e3 : bc r1 ++ bc r2 = bc xs := by rw [← HX.out]; exact List.map_append.symm
  have e4 : r1.length + r2.length = xs.length := by rw [HLEN.out, HL1.out, HL2.out]
  rw [e3, e4] at own3
  have lto := O1.out.lt
  have hA3 := HA2.out.grown G3 (fun h => by have := lto _ h; omega)
  have hN3 := NB2.out.grown G3 (fun h => by have := lto _ h; omega)
  obtain ⟨A3, c3, rfl, _, _, rd3, _, _⟩ := own_rd own3 (by rw [HLEN.out]; decide)
  have hB3 := HB2.out.grown G3 HB2.out.size (fun k hk => by have := lto _ hk; omega)
  have hne := own_ne own3 hN3 (by decide)
  have HNE := Hd.mk hne; have O3 := Hd.mk own3; have HB3 := Hd.mk hB3; have HA3 := Hd.mk hA3; have HN3 := Hd.mk hN3; have SW := Hd.mk S1.out
  have a0 : w3.cell? ⟨w.heap.size + 1, 0, none⟩ = some (.int .i64 x0) := hA3.cell 0 rfl
  have a1 : w3.cell? ⟨w.heap.size + 1, 1, none⟩ = some (.int .i64 x1) := hA3.cell 1 rfl
  have a2 : w3.cell? ⟨w.heap.size + 1, 2, none⟩ = some (.int .i64 x2) := hA3.cell 2 rfl
  have a3 : w3.cell? ⟨w.heap.size + 1, 3, none⟩ = some (.int .i64 x3) := hA3.cell 3 rfl
  have a4 : w3.cell? ⟨w.heap.size + 1, 4, none⟩ = some (.int .i64 1) := hA3.cell 4 rfl
  have a5 : w3.cell? ⟨w.heap.size + 1, 5, none⟩ = some (.int .i64 x5) := hA3.cell 5 rfl
  have a6 : w3.cell? ⟨w.heap.size + 1, 6, none⟩ = some (.int .i64 0) := hA3.cell 6 rfl
  have a7 : w3.cell? ⟨w.heap.size + 1, 7, none⟩ = some (.int .i64 x7) := hA3.cell 7 rfl
  have a8 : w3.cell? ⟨w.heap.size + 1, 8, none⟩ = some (.int .i64 x8) := hA3.cell 8 rfl
  have n5 : w3.cell? ⟨w1.heap.size, 5, none⟩ = some (.int .i64 0) := hN3.cell 5 rfl; have m5 := hN3.free 5
  have n6 : w3.cell? ⟨w1.heap.size, 6, none⟩ = some (.int .i64 0) := hN3.cell 6 rfl; have m6 := hN3.free 6
  have n7 : w3.cell? ⟨w1.heap.size, 7, none⟩ = some (.int .i64 0) := hN3.cell 7 rfl; have m7 := hN3.free 7
  have hne1 : w.heap.size + 1 ≠ w1.heap.size := by have := HL.out; omega
  clear own3 G3 lto hA3 hN3 hB3 rd3 hne e3 e4 O1b HA2 HB2 O1 HB
  go_wp2_with fail
  obtain ⟨W, hW⟩ : ∃ W, W = (((w3).setCell ⟨w1.heap.size, 5, none⟩ (.int .i64 x5)).setCell ⟨w1.heap.size, 6, none⟩ (.int .i64 0)).setCell ⟨w1.heap.size, 7, none⟩ (.int .i64 x7) := ⟨_, rfl⟩
  rw [← hW]
  have hA4 : Blk W (w.heap.size + 1) #[.int .i64 x0, .int .i64 x1, .int .i64 x2, .int .i64 x3, .int .i64 1, .int .i64 x5, .int .i64 0, .int .i64 x7, .int .i64 x8] 71 := by rw [hW]; exact (((HA3.out).set_ne (p := ⟨w1.heap.size, 5, none⟩) (Ne.symm hne1) _).set_ne (p := ⟨w1.heap.size, 6, none⟩) (Ne.symm hne1) _).set_ne (p := ⟨w1.heap.size, 7, none⟩) (Ne.symm hne1) _
  have hN4 : Blk W w1.heap.size #[.int .i64 x0, .int .i64 x1, .int .i64 x2, .int .i64 x3, .int .i64 1, .int .i64 x5, .int .i64 0, .int .i64 x7, .int .i64 0] 71 := by rw [hW]; exact ((((HN3.out).set 5 (.int .i64 x5)).set 6 (.int .i64 0)).set 7 (.int .i64 x7)).cast (by simp)
  have hO4 : W.ownsRow (w.heap.size + 2) 5 1 (.slice A3 xs.length c3) xs.length (bc xs) := by rw [hW]; exact own_set (own_set (own_set (O3.out) (p := ⟨w1.heap.size, 5, none⟩) HNE.out _) (p := ⟨w1.heap.size, 6, none⟩) HNE.out _) (p := ⟨w1.heap.size, 7, none⟩) HNE.out _
  have hB4 : Below w.heap.size w W := by rw [hW]; exact (((HB3.out).setCell (p := ⟨w1.heap.size, 5, none⟩) (by have := HL.out; simp; omega) _).setCell (p := ⟨w1.heap.size, 6, none⟩) (by have := HL.out; simp; omega) _).setCell (p := ⟨w1.heap.size, 7, none⟩) (by have := HL.out; simp; omega) _
  clear hW n5 m5 n6 m6 n7 m7 a0 a1 a2 a3 a4 a5 a6 a7 a8
  have HN4 := Hd.mk hN4; have HO4 := Hd.mk hO4; have HB4 := Hd.mk hB4
  clear hA4 hN4 hO4 hB4 HA3 HN3 O3 HB3 HNE
  with_reducible refine (HSB.out _).mono ?_
  intro e w5 h1
  obtain ⟨A, c, rfl, k1, k2, k3, _, _, k4⟩ := h1.rd (by rw [HLEN.out]; omega)
  have HO5 := Hd.mk (own_below HO4.out k4); have HN5 := Hd.mk (HN4.out.below k4 HN4.out.lt); have HB5 := Hd.mk (HB4.out.trans (k4.mono HB4.out.size))
  have K3 := Hd.mk k3
  have C3 := Hd.mk (segmentOf A _ c xs w5 k3 k1 k2 HBY.out (by rw [HLEN.out]; omega) x0 x1 x2 x3 1 x5 0 x7 0 false rfl HSD.out BB.out.1 BB.out.2.1 BB.out.2.2.1 BB.out.2.2.2.1 (by decide) BB.out.2.2.2.2.1 BB.out.2.2.2.2.2.1 (by decide))
  clear h1 k1 k2 k3 k4 HSB HN4 HO4 HB4 HSD BB
  go_wp2_with fail
  with_reducible refine C3.out.mono ?_
  rintro e w6 ⟨rfl, hb⟩
  have hN6 := HN5.out.below hb HN5.out.lt
  obtain ⟨_, _, he, _, _, R2, _, _⟩ := own_rd (own_below HO5.out hb) (by rw [HLEN.out]; decide)
  cases he
  have s1 := str_run (P := Try.prog) (src := 23) (dst := 9) (c := c) Try.underlying23 Try.underlying5 Try.underlying9 ((K3.out.below hb).below ((Below.refl _ _).alloc (Nat.le_refl _) (.cells #[.int .i64 x0, .int .i64 x1, .int .i64 x2, .int .i64 x3, .int .i64 1, .int .i64 x5, .int .i64 0, .int .i64 x7, .int .i64 0] 71)))
  have s2 := str_run (P := Try.prog) (src := 23) (dst := 9) (c := c3) Try.underlying23 Try.underlying5 Try.underlying9 (R2.below ((Below.refl _ _).alloc (Nat.le_refl _) (.cells #[.int .i64 x0, .int .i64 x1, .int .i64 x2, .int .i64 x3, .int .i64 1, .int .i64 x5, .int .i64 0, .int .i64 x7, .int .i64 0] 71)))
  have B6 := Hd.mk (HB5.out.trans (hb.mono HB5.out.size))
  have n0 : w6.cell? ⟨w1.heap.size, 0, none⟩ = some (.int .i64 x0) := hN6.cell 0 rfl
  have n1 : w6.cell? ⟨w1.heap.size, 1, none⟩ = some (.int .i64 x1) := hN6.cell 1 rfl
  have n2 : w6.cell? ⟨w1.heap.size, 2, none⟩ = some (.int .i64 x2) := hN6.cell 2 rfl
  have n3 : w6.cell? ⟨w1.heap.size, 3, none⟩ = some (.int .i64 x3) := hN6.cell 3 rfl
  have n4 : w6.cell? ⟨w1.heap.size, 4, none⟩ = some (.int .i64 1) := hN6.cell 4 rfl
  have n5 : w6.cell? ⟨w1.heap.size, 5, none⟩ = some (.int .i64 x5) := hN6.cell 5 rfl
  have n6 : w6.cell? ⟨w1.heap.size, 6, none⟩ = some (.int .i64 0) := hN6.cell 6 rfl
  have n7 : w6.cell? ⟨w1.heap.size, 7, none⟩ = some (.int .i64 x7) := hN6.cell 7 rfl
  have n8 : w6.cell? ⟨w1.heap.size, 8, none⟩ = some (.int .i64 0) := hN6.cell 8 rfl
  have hlt := hN6.lt
  have heq := HEQ.out
  clear hb C3 hN6 R2 K3 HN5 HO5 HB5 HEQ
  go_wp2
  go_ret
  exact ⟨by simp, B6.out.alloc B6.out.size _⟩
set_option maxRecDepth 100000 in
theorem law_segment1true (x0 x1 x2 x3 k x5 x7 x8 : Int) (b0 : -2147483648 ≤ x0 ∧ x0 ≤ 2147483647) (b1 : -2147483648 ≤ x1 ∧ x1 ≤ 2147483647) (b2 : -32768 ≤ x2 ∧ x2 ≤ 32767) (b3 : -32768 ≤ x3 ∧ x3 ≤ 32767) (b5 : -128 ≤ x5 ∧ x5 ≤ 127) (b7 : -128 ≤ x7 ∧ x7 ≤ 127) (b8 : -32768 ≤ x8 ∧ x8 ≤ 32767) (w : World) (hk : k % 256 % 3 = 0) :
    Calls Try.prog 12 #[.int .i32 x0, .int .i32 x1, .int .i16 x2, .int .i16 x3, .int .i8 k, .int .i8 x5, .bool true, .int .i8 x7, .int .i16 x8] w fun e w' => e = .returned (.bool true) ∧ Below w.heap.size w w' := by
  obtain ⟨xs, hxs⟩ : ∃ xs, xs = leB 4 x0 ++ (leB 4 x1 ++ (leB 2 x2 ++ (leB 2 x3 ++ (leB 1 1 ++ (leB 1 x5 ++ ([1] ++ (leB 1 x7 ++ (List.replicate 8 0)))))))) := ⟨_, rfl⟩
  have hlen : xs.length = 24 := by rw [hxs]; simp [leB_len]
  have hby : ∀ x ∈ xs, 0 ≤ x ∧ x < 256 := by
    rw [hxs]
    exact (bytes_append (leB_byte _ _) (bytes_append (leB_byte _ _) (bytes_append (leB_byte _ _) (bytes_append (leB_byte _ _) (bytes_append (leB_byte _ _) (bytes_append (leB_byte _ _) (bytes_append ((by simp)) (bytes_append (leB_byte _ _) (bytes_zero _)))))))))
  obtain ⟨r1, hr1⟩ : ∃ r1, rowB [(x0, 4), (x1, 4), (x2, 2), (x3, 2), (1, 1)] = r1 := ⟨_, rfl⟩
  have hl1 : r1.length = 13 := by rw [← hr1]; simp [rowB, leB_len]
  obtain ⟨r2, hr2⟩ : ∃ r2, rowB [(x5, 1), (1, 1), (x7, 1), (0, 8)] = r2 := ⟨_, rfl⟩
  have hl2 : r2.length = 11 := by rw [← hr2]; simp [rowB, leB_len]
  have hx : r1 ++ r2 = xs := by
    have z8 : leB 8 0 = List.replicate 8 0 := by decide
    have z1 : leB 1 1 = [1] := by decide
    rw [hxs, ← hr1, ← hr2]; simp only [rowB, z8, z1, List.append_assoc, List.append_nil, List.nil_append]
  have hsd : ∀ (K : DK), K.xs = xs → ∀ (W : World) (g : Nat), _ → Calls Try.prog 87 #[.pointer (some ⟨g, 0, none⟩), .pointer (some ⟨K.d, 0, none⟩)] W _ := fun K hK W g h => segDec1 x0 x1 x2 x3 x5 x7 x8 true 1 rfl b0 b1 b2 b3 b5 b7 b8 xs hxs K hK W g h
  have hsb := fun w => segmentBytes1 x0 x1 x2 x3 x5 x7 x8 true 1 rfl b0 b1 b2 b3 b5 b7 b8 w
  rw [← hxs] at hsb
  obtain ⟨i0, hi, _⟩ := info_of infoI
  obtain ⟨j0, hj0, hj1, hj2, hj3⟩ := info_of infoB
  have heq : ∀ w, (Op.equalIn 10000 71 (.agg #[.int .i64 x0, .int .i64 x1, .int .i64 x2, .int .i64 x3, .int .i64 1, .int .i64 x5, .int .i64 1, .int .i64 x7, .int .i64 0]) (.agg #[.int .i64 x0, .int .i64 x1, .int .i64 x2, .int .i64 x3, .int .i64 1, .int .i64 x5, .int .i64 1, .int .i64 x7, .int .i64 0])).run Try.prog w = .ok true w :=
    fun w => eq_ints .i64 w 9998 9 [x0, x1, x2, x3, 1, x5, 1, x7, 0] Try.underlying71 Try.underlying3 hi (by kernel_rfl) rfl
  have C1 := Hd.mk (fun w g hg => heRow3 [(x0, 4), (x1, 4), (x2, 2), (x3, 2), (1, 1)] 5 #[.int .i64 x0, .int .i64 x1, .int .i64 x2, .int .i64 x3, .int .i64 1] #[.int .i64 4, .int .i64 4, .int .i64 2, .int .i64 2, .int .i64 1] 2 3 w g hg rfl rfl rfl (by simp) (by omega) r1 hr1)
  have C2 := Hd.mk (fun w g hg => heRow3 [(x5, 1), (1, 1), (x7, 1), (0, 8)] 4 #[.int .i64 x5, .int .i64 1, .int .i64 x7, .int .i64 0] #[.int .i64 1, .int .i64 1, .int .i64 1, .int .i64 8] 2 3 w g hg rfl rfl rfl (by simp) (by omega) r2 hr2)
  have HX := Hd.mk hx; have HLEN := Hd.mk hlen; have HBY := Hd.mk hby; have HSD := Hd.mk hsd; have HSB := Hd.mk hsb; have HEQ := Hd.mk heq; have HL1 := Hd.mk hl1; have HL2 := Hd.mk hl2; have J := Hd.mk (And.intro hj0 (And.intro hj1 (And.intro hj2 hj3)))
  have BB := Hd.mk (And.intro b0 (And.intro b1 (And.intro b2 (And.intro b3 (And.intro b5 (And.intro b7 b8))))))
  obtain ⟨p0, q0⟩ := b0; obtain ⟨p1, q1⟩ := b1; obtain ⟨p2, q2⟩ := b2; obtain ⟨p3, q3⟩ := b3; obtain ⟨p5, q5⟩ := b5; obtain ⟨p7, q7⟩ := b7; obtain ⟨p8, q8⟩ := b8
  clear hx hlen hby hsd hsb heq hr1 hr2 hl1 hl2 hxs hi hj0 hj1 hj2 hj3
  go_enter Try.func12, Try.ntmps12
  go_wp2_with fail
  with_reducible refine (C1.out _ _ (by simp)).mono ?_
  intro e w1 h1
  obtain ⟨v1, rfl, own1, B1⟩ := h1
  have hA : Blk w1 (w.heap.size + 1) #[.int .i64 x0, .int .i64 x1, .int .i64 x2, .int .i64 x3, .int .i64 1, .int .i64 x5, .int .i64 1, .int .i64 x7, .int .i64 x8] 71 := by
    have := (Blk.new (w.alloc (.cells #[.int .i64 1, .int .i64 2, .int .i64 5] 3)) #[.int .i64 x0, .int .i64 x1, .int .i64 x2, .int .i64 x3, .int .i64 1, .int .i64 x5, .int .i64 1, .int .i64 x7, .int .i64 x8] 71).below B1 (by simp)
    simpa using this
  have HB := Hd.mk (((((Below.refl _ w).alloc (Nat.le_refl _) (.cells #[.int .i64 1, .int .i64 2, .int .i64 5] 3)).alloc (by simp) (.cells #[.int .i64 x0, .int .i64 x1, .int .i64 x2, .int .i64 x3, .int .i64 1, .int .i64 x5, .int .i64 1, .int .i64 x7, .int .i64 x8] 71))).trans (B1.mono (by simp; omega)))
  have O1 := Hd.mk (own_base own1 (B' := w.heap.size + 2) (by simp))
  have HA := Hd.mk hA; have S1 := Hd.mk B1.size; have HL := Hd.mk (hA.lt)
  have d0 : w1.cell? ⟨w.heap.size + 1, 0, none⟩ = some (.int .i64 x0) := hA.cell 0 rfl
  have d1 : w1.cell? ⟨w.heap.size + 1, 1, none⟩ = some (.int .i64 x1) := hA.cell 1 rfl
  have d2 : w1.cell? ⟨w.heap.size + 1, 2, none⟩ = some (.int .i64 x2) := hA.cell 2 rfl
  have d3 : w1.cell? ⟨w.heap.size + 1, 3, none⟩ = some (.int .i64 x3) := hA.cell 3 rfl
  have d4 : w1.cell? ⟨w.heap.size + 1, 4, none⟩ = some (.int .i64 1) := hA.cell 4 rfl
  have d5 : w1.cell? ⟨w.heap.size + 1, 5, none⟩ = some (.int .i64 x5) := hA.cell 5 rfl
  have d6 : w1.cell? ⟨w.heap.size + 1, 6, none⟩ = some (.int .i64 1) := hA.cell 6 rfl
  have d7 : w1.cell? ⟨w.heap.size + 1, 7, none⟩ = some (.int .i64 x7) := hA.cell 7 rfl
  have d8 : w1.cell? ⟨w.heap.size + 1, 8, none⟩ = some (.int .i64 x8) := hA.cell 8 rfl
  have NB := Hd.mk (Blk.new w1 #[.int .i64 x0, .int .i64 x1, .int .i64 x2, .int .i64 x3, .int .i64 1, .int .i64 0, .int .i64 0, .int .i64 0, .int .i64 0] 71)
  clear own1 B1 hA C1
  go_wp2_with fail
  with_reducible refine (C2.out _ _ (by simp)).mono ?_
  intro e w2 h1
  obtain ⟨v2, rfl, own2, B2⟩ := h1
  have O1b := (O1.out.alloc (.cells #[.int .i64 x0, .int .i64 x1, .int .i64 x2, .int .i64 x3, .int .i64 1, .int .i64 0, .int .i64 0, .int .i64 0, .int .i64 0] 71)).kept (row := none) (w' := w2) ⟨B2.os, B2.tape, B2.output, B2.size, fun k hk _ => B2.block k hk⟩ (by cases h : Value.ownBlock _ with | none => exact .inl rfl | some k => exact .inr (by simp))
  obtain ⟨G2, cap2, rfl⟩ := ownsRow_form own2 (by rw [HL2.out]; decide)
  have HN := Hd.mk (own2.cells (g := G2) rfl)
  have HB2 := Hd.mk ((HB.out.alloc HB.out.size (.cells #[.int .i64 x0, .int .i64 x1, .int .i64 x2, .int .i64 x3, .int .i64 1, .int .i64 0, .int .i64 0, .int .i64 0, .int .i64 0] 71)).trans (B2.mono (by have := HB.out.size; simp; omega)))
  have HA2 := Hd.mk ((HA.out.alloc (.cells #[.int .i64 x0, .int .i64 x1, .int .i64 x2, .int .i64 x3, .int .i64 1, .int .i64 0, .int .i64 0, .int .i64 0, .int .i64 0] 71)).below B2 (by have := HA.out.lt; simp; omega))
  have NB2 := Hd.mk (NB.out.below B2 (by simp))
  have S2 := Hd.mk B2.size
  clear own2 B2 C2 HA NB d0 d1 d2 d3 d4 d5 d6 d7 d8
  go_wp2_with (at_builtin; refine wpList_append_own _ rfl _ _ 23 rfl (w.heap.size + 2) 5 j0 (.int .u8 0) 1 1 Try.underlying23 J.out.1 J.out.2.1 J.out.2.2.1 J.out.2.2.2 rfl (by decide) _ _ _ rfl O1b ⟨G2, 0, none⟩ r2.length cap2 (bc r2) rfl ?c0 ?c1 ?c2 ?c3 ?c4 ?c5 ?_)
  case c0 => simp
  case c1 => exact HN.out
  case c2 =>
    intro u hu
    obtain ⟨x, _, rfl⟩ := List.mem_map.1 hu
    rfl
  case c3 => rw [HL1.out, HL2.out]; decide
  case c4 => rw [HL1.out, HL2.out]; decide
  case c5 => have h1 := S2.out; have h2 := HL.out; simp at h1; omega
  intro v3 w3 own3 G3 _
  have e3 : bc r1 ++ bc r2 = bc xs := by rw [← HX.out]; exact List.map_append.symm
  have e4 : r1.length + r2.length = xs.length := by rw [HLEN.out, HL1.out, HL2.out]
  rw [e3, e4] at own3
  have lto := O1.out.lt
  have hA3 := HA2.out.grown G3 (fun h => by have := lto _ h; omega)
  have hN3 := NB2.out.grown G3 (fun h => by have := lto _ h; omega)
  obtain ⟨A3, c3, rfl, _, _, rd3, _, _⟩ := own_rd own3 (by rw [HLEN.out]; decide)
  have hB3 := HB2.out.grown G3 HB2.out.size (fun k hk => by have := lto _ hk; omega)
  have hne := own_ne own3 hN3 (by decide)
  have HNE := Hd.mk hne; have O3 := Hd.mk own3; have HB3 := Hd.mk hB3; have HA3 := Hd.mk hA3; have HN3 := Hd.mk hN3; have SW := Hd.mk S1.out
  have a0 : w3.cell? ⟨w.heap.size + 1, 0, none⟩ = some (.int .i64 x0) := hA3.cell 0 rfl
  have a1 : w3.cell? ⟨w.heap.size + 1, 1, none⟩ = some (.int .i64 x1) := hA3.cell 1 rfl
  have a2 : w3.cell? ⟨w.heap.size + 1, 2, none⟩ = some (.int .i64 x2) := hA3.cell 2 rfl
  have a3 : w3.cell? ⟨w.heap.size + 1, 3, none⟩ = some (.int .i64 x3) := hA3.cell 3 rfl
  have a4 : w3.cell? ⟨w.heap.size + 1, 4, none⟩ = some (.int .i64 1) := hA3.cell 4 rfl
  have a5 : w3.cell? ⟨w.heap.size + 1, 5, none⟩ = some (.int .i64 x5) := hA3.cell 5 rfl
  have a6 : w3.cell? ⟨w.heap.size + 1, 6, none⟩ = some (.int .i64 1) := hA3.cell 6 rfl
  have a7 : w3.cell? ⟨w.heap.size + 1, 7, none⟩ = some (.int .i64 x7) := hA3.cell 7 rfl
  have a8 : w3.cell? ⟨w.heap.size + 1, 8, none⟩ = some (.int .i64 x8) := hA3.cell 8 rfl
  have n5 : w3.cell? ⟨w1.heap.size, 5, none⟩ = some (.int .i64 0) := hN3.cell 5 rfl; have m5 := hN3.free 5
  have n6 : w3.cell? ⟨w1.heap.size, 6, none⟩ = some (.int .i64 0) := hN3.cell 6 rfl; have m6 := hN3.free 6
  have n7 : w3.cell? ⟨w1.heap.size, 7, none⟩ = some (.int .i64 0) := hN3.cell 7 rfl; have m7 := hN3.free 7
  have hne1 : w.heap.size + 1 ≠ w1.heap.size := by have := HL.out; omega
  clear own3 G3 lto hA3 hN3 hB3 rd3 hne e3 e4 O1b HA2 HB2 O1 HB
  go_wp2_with fail
  obtain ⟨W, hW⟩ : ∃ W, W = (((w3).setCell ⟨w1.heap.size, 5, none⟩ (.int .i64 x5)).setCell ⟨w1.heap.size, 6, none⟩ (.int .i64 1)).setCell ⟨w1.heap.size, 7, none⟩ (.int .i64 x7) := ⟨_, rfl⟩
  rw [← hW]
  have hA4 : Blk W (w.heap.size + 1) #[.int .i64 x0, .int .i64 x1, .int .i64 x2, .int .i64 x3, .int .i64 1, .int .i64 x5, .int .i64 1, .int .i64 x7, .int .i64 x8] 71 := by rw [hW]; exact (((HA3.out).set_ne (p := ⟨w1.heap.size, 5, none⟩) (Ne.symm hne1) _).set_ne (p := ⟨w1.heap.size, 6, none⟩) (Ne.symm hne1) _).set_ne (p := ⟨w1.heap.size, 7, none⟩) (Ne.symm hne1) _
  have hN4 : Blk W w1.heap.size #[.int .i64 x0, .int .i64 x1, .int .i64 x2, .int .i64 x3, .int .i64 1, .int .i64 x5, .int .i64 1, .int .i64 x7, .int .i64 0] 71 := by rw [hW]; exact ((((HN3.out).set 5 (.int .i64 x5)).set 6 (.int .i64 1)).set 7 (.int .i64 x7)).cast (by simp)
  have hO4 : W.ownsRow (w.heap.size + 2) 5 1 (.slice A3 xs.length c3) xs.length (bc xs) := by rw [hW]; exact own_set (own_set (own_set (O3.out) (p := ⟨w1.heap.size, 5, none⟩) HNE.out _) (p := ⟨w1.heap.size, 6, none⟩) HNE.out _) (p := ⟨w1.heap.size, 7, none⟩) HNE.out _
  have hB4 : Below w.heap.size w W := by rw [hW]; exact (((HB3.out).setCell (p := ⟨w1.heap.size, 5, none⟩) (by have := HL.out; simp; omega) _).setCell (p := ⟨w1.heap.size, 6, none⟩) (by have := HL.out; simp; omega) _).setCell (p := ⟨w1.heap.size, 7, none⟩) (by have := HL.out; simp; omega) _
  clear hW n5 m5 n6 m6 n7 m7 a0 a1 a2 a3 a4 a5 a6 a7 a8
  have HN4 := Hd.mk hN4; have HO4 := Hd.mk hO4; have HB4 := Hd.mk hB4
  clear hA4 hN4 hO4 hB4 HA3 HN3 O3 HB3 HNE
  with_reducible refine (HSB.out _).mono ?_
  intro e w5 h1
  obtain ⟨A, c, rfl, k1, k2, k3, _, _, k4⟩ := h1.rd (by rw [HLEN.out]; omega)
  have HO5 := Hd.mk (own_below HO4.out k4); have HN5 := Hd.mk (HN4.out.below k4 HN4.out.lt); have HB5 := Hd.mk (HB4.out.trans (k4.mono HB4.out.size))
  have K3 := Hd.mk k3
  have C3 := Hd.mk (segmentOf A _ c xs w5 k3 k1 k2 HBY.out (by rw [HLEN.out]; omega) x0 x1 x2 x3 1 x5 1 x7 0 true rfl HSD.out BB.out.1 BB.out.2.1 BB.out.2.2.1 BB.out.2.2.2.1 (by decide) BB.out.2.2.2.2.1 BB.out.2.2.2.2.2.1 (by decide))
  clear h1 k1 k2 k3 k4 HSB HN4 HO4 HB4 HSD BB
  go_wp2_with fail
  with_reducible refine C3.out.mono ?_
  rintro e w6 ⟨rfl, hb⟩
  have hN6 := HN5.out.below hb HN5.out.lt
  obtain ⟨_, _, he, _, _, R2, _, _⟩ := own_rd (own_below HO5.out hb) (by rw [HLEN.out]; decide)
  cases he
  have s1 := str_run (P := Try.prog) (src := 23) (dst := 9) (c := c) Try.underlying23 Try.underlying5 Try.underlying9 ((K3.out.below hb).below ((Below.refl _ _).alloc (Nat.le_refl _) (.cells #[.int .i64 x0, .int .i64 x1, .int .i64 x2, .int .i64 x3, .int .i64 1, .int .i64 x5, .int .i64 1, .int .i64 x7, .int .i64 0] 71)))
  have s2 := str_run (P := Try.prog) (src := 23) (dst := 9) (c := c3) Try.underlying23 Try.underlying5 Try.underlying9 (R2.below ((Below.refl _ _).alloc (Nat.le_refl _) (.cells #[.int .i64 x0, .int .i64 x1, .int .i64 x2, .int .i64 x3, .int .i64 1, .int .i64 x5, .int .i64 1, .int .i64 x7, .int .i64 0] 71)))
  have B6 := Hd.mk (HB5.out.trans (hb.mono HB5.out.size))
  have n0 : w6.cell? ⟨w1.heap.size, 0, none⟩ = some (.int .i64 x0) := hN6.cell 0 rfl
  have n1 : w6.cell? ⟨w1.heap.size, 1, none⟩ = some (.int .i64 x1) := hN6.cell 1 rfl
  have n2 : w6.cell? ⟨w1.heap.size, 2, none⟩ = some (.int .i64 x2) := hN6.cell 2 rfl
  have n3 : w6.cell? ⟨w1.heap.size, 3, none⟩ = some (.int .i64 x3) := hN6.cell 3 rfl
  have n4 : w6.cell? ⟨w1.heap.size, 4, none⟩ = some (.int .i64 1) := hN6.cell 4 rfl
  have n5 : w6.cell? ⟨w1.heap.size, 5, none⟩ = some (.int .i64 x5) := hN6.cell 5 rfl
  have n6 : w6.cell? ⟨w1.heap.size, 6, none⟩ = some (.int .i64 1) := hN6.cell 6 rfl
  have n7 : w6.cell? ⟨w1.heap.size, 7, none⟩ = some (.int .i64 x7) := hN6.cell 7 rfl
  have n8 : w6.cell? ⟨w1.heap.size, 8, none⟩ = some (.int .i64 0) := hN6.cell 8 rfl
  have hlt := hN6.lt
  have heq := HEQ.out
  clear hb C3 hN6 R2 K3 HN5 HO5 HB5 HEQ
  go_wp2
  go_ret
  exact ⟨by simp, B6.out.alloc B6.out.size _⟩
set_option maxRecDepth 100000 in
theorem law_segment2false (x0 x1 x2 x3 k x5 x7 x8 : Int) (b0 : -2147483648 ≤ x0 ∧ x0 ≤ 2147483647) (b1 : -2147483648 ≤ x1 ∧ x1 ≤ 2147483647) (b2 : -32768 ≤ x2 ∧ x2 ≤ 32767) (b3 : -32768 ≤ x3 ∧ x3 ≤ 32767) (b5 : -128 ≤ x5 ∧ x5 ≤ 127) (b7 : -128 ≤ x7 ∧ x7 ≤ 127) (b8 : -32768 ≤ x8 ∧ x8 ≤ 32767) (w : World) (hk : k % 256 % 3 = 1) :
    Calls Try.prog 12 #[.int .i32 x0, .int .i32 x1, .int .i16 x2, .int .i16 x3, .int .i8 k, .int .i8 x5, .bool false, .int .i8 x7, .int .i16 x8] w fun e w' => e = .returned (.bool true) ∧ Below w.heap.size w w' := by
  obtain ⟨xs, hxs⟩ : ∃ xs, xs = leB 4 x0 ++ (leB 4 x1 ++ (leB 2 x2 ++ (leB 2 x3 ++ (leB 1 2 ++ (List.replicate 1 0 ++ (leB 2 x8 ++ (List.replicate 8 0))))))) := ⟨_, rfl⟩
  have hlen : xs.length = 24 := by rw [hxs]; simp [leB_len]
  have hby : ∀ x ∈ xs, 0 ≤ x ∧ x < 256 := by
    rw [hxs]
    exact (bytes_append (leB_byte _ _) (bytes_append (leB_byte _ _) (bytes_append (leB_byte _ _) (bytes_append (leB_byte _ _) (bytes_append (leB_byte _ _) (bytes_append (bytes_zero _) (bytes_append (leB_byte _ _) (bytes_zero _))))))))
  obtain ⟨r1, hr1⟩ : ∃ r1, rowB [(x0, 4), (x1, 4), (x2, 2), (x3, 2), (2, 1)] = r1 := ⟨_, rfl⟩
  have hl1 : r1.length = 13 := by rw [← hr1]; simp [rowB, leB_len]
  obtain ⟨r2, hr2⟩ : ∃ r2, rowB [(0, 1), (x8, 2), (0, 8)] = r2 := ⟨_, rfl⟩
  have hl2 : r2.length = 11 := by rw [← hr2]; simp [rowB, leB_len]
  have hx : r1 ++ r2 = xs := by
    have z8 : leB 8 0 = List.replicate 8 0 := by decide
    have z1 : leB 1 0 = List.replicate 1 0 := by decide
    rw [hxs, ← hr1, ← hr2]; simp only [rowB, z8, z1, List.append_assoc, List.append_nil, List.nil_append]
  have hsd : ∀ (K : DK), K.xs = xs → ∀ (W : World) (g : Nat), _ → Calls Try.prog 87 #[.pointer (some ⟨g, 0, none⟩), .pointer (some ⟨K.d, 0, none⟩)] W _ := fun K hK W g h => segDec2 x0 x1 x2 x3 x5 x7 x8 false 0 rfl b0 b1 b2 b3 b5 b7 b8 xs hxs K hK W g h
  have hsb := fun w => segmentBytes2 x0 x1 x2 x3 x5 x7 x8 false 0 rfl b0 b1 b2 b3 b5 b7 b8 w
  rw [← hxs] at hsb
  obtain ⟨i0, hi, _⟩ := info_of infoI
  obtain ⟨j0, hj0, hj1, hj2, hj3⟩ := info_of infoB
  have heq : ∀ w, (Op.equalIn 10000 71 (.agg #[.int .i64 x0, .int .i64 x1, .int .i64 x2, .int .i64 x3, .int .i64 2, .int .i64 0, .int .i64 0, .int .i64 0, .int .i64 x8]) (.agg #[.int .i64 x0, .int .i64 x1, .int .i64 x2, .int .i64 x3, .int .i64 2, .int .i64 0, .int .i64 0, .int .i64 0, .int .i64 x8])).run Try.prog w = .ok true w :=
    fun w => eq_ints .i64 w 9998 9 [x0, x1, x2, x3, 2, 0, 0, 0, x8] Try.underlying71 Try.underlying3 hi (by kernel_rfl) rfl
  have C1 := Hd.mk (fun w g hg => heRow3 [(x0, 4), (x1, 4), (x2, 2), (x3, 2), (2, 1)] 5 #[.int .i64 x0, .int .i64 x1, .int .i64 x2, .int .i64 x3, .int .i64 2] #[.int .i64 4, .int .i64 4, .int .i64 2, .int .i64 2, .int .i64 1] 2 3 w g hg rfl rfl rfl (by simp) (by omega) r1 hr1)
  have C2 := Hd.mk (fun w g hg => heRow3 [(0, 1), (x8, 2), (0, 8)] 3 #[.int .i64 0, .int .i64 x8, .int .i64 0] #[.int .i64 1, .int .i64 2, .int .i64 8] 2 3 w g hg rfl rfl rfl (by simp) (by omega) r2 hr2)
  have HX := Hd.mk hx; have HLEN := Hd.mk hlen; have HBY := Hd.mk hby; have HSD := Hd.mk hsd; have HSB := Hd.mk hsb; have HEQ := Hd.mk heq; have HL1 := Hd.mk hl1; have HL2 := Hd.mk hl2; have J := Hd.mk (And.intro hj0 (And.intro hj1 (And.intro hj2 hj3)))
  have BB := Hd.mk (And.intro b0 (And.intro b1 (And.intro b2 (And.intro b3 (And.intro b5 (And.intro b7 b8))))))
  obtain ⟨p0, q0⟩ := b0; obtain ⟨p1, q1⟩ := b1; obtain ⟨p2, q2⟩ := b2; obtain ⟨p3, q3⟩ := b3; obtain ⟨p5, q5⟩ := b5; obtain ⟨p7, q7⟩ := b7; obtain ⟨p8, q8⟩ := b8
  clear hx hlen hby hsd hsb heq hr1 hr2 hl1 hl2 hxs hi hj0 hj1 hj2 hj3
  go_enter Try.func12, Try.ntmps12
  go_wp2_with fail
  with_reducible refine (C1.out _ _ (by simp)).mono ?_
  intro e w1 h1
  obtain ⟨v1, rfl, own1, B1⟩ := h1
  have hA : Blk w1 (w.heap.size + 1) #[.int .i64 x0, .int .i64 x1, .int .i64 x2, .int .i64 x3, .int .i64 2, .int .i64 x5, .int .i64 0, .int .i64 x7, .int .i64 x8] 71 := by
    have := (Blk.new (w.alloc (.cells #[.int .i64 1, .int .i64 2, .int .i64 5] 3)) #[.int .i64 x0, .int .i64 x1, .int .i64 x2, .int .i64 x3, .int .i64 2, .int .i64 x5, .int .i64 0, .int .i64 x7, .int .i64 x8] 71).below B1 (by simp)
    simpa using this
  have HB := Hd.mk (((((Below.refl _ w).alloc (Nat.le_refl _) (.cells #[.int .i64 1, .int .i64 2, .int .i64 5] 3)).alloc (by simp) (.cells #[.int .i64 x0, .int .i64 x1, .int .i64 x2, .int .i64 x3, .int .i64 2, .int .i64 x5, .int .i64 0, .int .i64 x7, .int .i64 x8] 71))).trans (B1.mono (by simp; omega)))
  have O1 := Hd.mk (own_base own1 (B' := w.heap.size + 2) (by simp))
  have HA := Hd.mk hA; have S1 := Hd.mk B1.size; have HL := Hd.mk (hA.lt)
  have d0 : w1.cell? ⟨w.heap.size + 1, 0, none⟩ = some (.int .i64 x0) := hA.cell 0 rfl
  have d1 : w1.cell? ⟨w.heap.size + 1, 1, none⟩ = some (.int .i64 x1) := hA.cell 1 rfl
  have d2 : w1.cell? ⟨w.heap.size + 1, 2, none⟩ = some (.int .i64 x2) := hA.cell 2 rfl
  have d3 : w1.cell? ⟨w.heap.size + 1, 3, none⟩ = some (.int .i64 x3) := hA.cell 3 rfl
  have d4 : w1.cell? ⟨w.heap.size + 1, 4, none⟩ = some (.int .i64 2) := hA.cell 4 rfl
  have d5 : w1.cell? ⟨w.heap.size + 1, 5, none⟩ = some (.int .i64 x5) := hA.cell 5 rfl
  have d6 : w1.cell? ⟨w.heap.size + 1, 6, none⟩ = some (.int .i64 0) := hA.cell 6 rfl
  have d7 : w1.cell? ⟨w.heap.size + 1, 7, none⟩ = some (.int .i64 x7) := hA.cell 7 rfl
  have d8 : w1.cell? ⟨w.heap.size + 1, 8, none⟩ = some (.int .i64 x8) := hA.cell 8 rfl
  have NB := Hd.mk (Blk.new w1 #[.int .i64 x0, .int .i64 x1, .int .i64 x2, .int .i64 x3, .int .i64 2, .int .i64 0, .int .i64 0, .int .i64 0, .int .i64 0] 71)
  clear own1 B1 hA C1
  go_wp2_with fail
  with_reducible refine (C2.out _ _ (by simp)).mono ?_
  intro e w2 h1
  obtain ⟨v2, rfl, own2, B2⟩ := h1
  have O1b := (O1.out.alloc (.cells #[.int .i64 x0, .int .i64 x1, .int .i64 x2, .int .i64 x3, .int .i64 2, .int .i64 0, .int .i64 0, .int .i64 0, .int .i64 0] 71)).kept (row := none) (w' := w2) ⟨B2.os, B2.tape, B2.output, B2.size, fun k hk _ => B2.block k hk⟩ (by cases h : Value.ownBlock _ with | none => exact .inl rfl | some k => exact .inr (by simp))
  obtain ⟨G2, cap2, rfl⟩ := ownsRow_form own2 (by rw [HL2.out]; decide)
  have HN := Hd.mk (own2.cells (g := G2) rfl)
  have HB2 := Hd.mk ((HB.out.alloc HB.out.size (.cells #[.int .i64 x0, .int .i64 x1, .int .i64 x2, .int .i64 x3, .int .i64 2, .int .i64 0, .int .i64 0, .int .i64 0, .int .i64 0] 71)).trans (B2.mono (by have := HB.out.size; simp; omega)))
  have HA2 := Hd.mk ((HA.out.alloc (.cells #[.int .i64 x0, .int .i64 x1, .int .i64 x2, .int .i64 x3, .int .i64 2, .int .i64 0, .int .i64 0, .int .i64 0, .int .i64 0] 71)).below B2 (by have := HA.out.lt; simp; omega))
  have NB2 := Hd.mk (NB.out.below B2 (by simp))
  have S2 := Hd.mk B2.size
  clear own2 B2 C2 HA NB d0 d1 d2 d3 d4 d5 d6 d7 d8
  go_wp2_with (at_builtin; refine wpList_append_own _ rfl _ _ 23 rfl (w.heap.size + 2) 5 j0 (.int .u8 0) 1 1 Try.underlying23 J.out.1 J.out.2.1 J.out.2.2.1 J.out.2.2.2 rfl (by decide) _ _ _ rfl O1b ⟨G2, 0, none⟩ r2.length cap2 (bc r2) rfl ?c0 ?c1 ?c2 ?c3 ?c4 ?c5 ?_)
  case c0 => simp
  case c1 => exact HN.out
  case c2 =>
    intro u hu
    obtain ⟨x, _, rfl⟩ := List.mem_map.1 hu
    rfl
  case c3 => rw [HL1.out, HL2.out]; decide
  case c4 => rw [HL1.out, HL2.out]; decide
  case c5 => have h1 := S2.out; have h2 := HL.out; simp at h1; omega
  intro v3 w3 own3 G3 _
  have e3 : bc r1 ++ bc r2 = bc xs := by rw [← HX.out]; exact List.map_append.symm
  have e4 : r1.length + r2.length = xs.length := by rw [HLEN.out, HL1.out, HL2.out]
  rw [e3, e4] at own3
  have lto := O1.out.lt
  have hA3 := HA2.out.grown G3 (fun h => by have := lto _ h; omega)
  have hN3 := NB2.out.grown G3 (fun h => by have := lto _ h; omega)
  obtain ⟨A3, c3, rfl, _, _, rd3, _, _⟩ := own_rd own3 (by rw [HLEN.out]; decide)
  have hB3 := HB2.out.grown G3 HB2.out.size (fun k hk => by have := lto _ hk; omega)
  have hne := own_ne own3 hN3 (by decide)
  have HNE := Hd.mk hne; have O3 := Hd.mk own3; have HB3 := Hd.mk hB3; have HA3 := Hd.mk hA3; have HN3 := Hd.mk hN3; have SW := Hd.mk S1.out
  have a0 : w3.cell? ⟨w.heap.size + 1, 0, none⟩ = some (.int .i64 x0) := hA3.cell 0 rfl
  have a1 : w3.cell? ⟨w.heap.size + 1, 1, none⟩ = some (.int .i64 x1) := hA3.cell 1 rfl
  have a2 : w3.cell? ⟨w.heap.size + 1, 2, none⟩ = some (.int .i64 x2) := hA3.cell 2 rfl
  have a3 : w3.cell? ⟨w.heap.size + 1, 3, none⟩ = some (.int .i64 x3) := hA3.cell 3 rfl
  have a4 : w3.cell? ⟨w.heap.size + 1, 4, none⟩ = some (.int .i64 2) := hA3.cell 4 rfl
  have a5 : w3.cell? ⟨w.heap.size + 1, 5, none⟩ = some (.int .i64 x5) := hA3.cell 5 rfl
  have a6 : w3.cell? ⟨w.heap.size + 1, 6, none⟩ = some (.int .i64 0) := hA3.cell 6 rfl
  have a7 : w3.cell? ⟨w.heap.size + 1, 7, none⟩ = some (.int .i64 x7) := hA3.cell 7 rfl
  have a8 : w3.cell? ⟨w.heap.size + 1, 8, none⟩ = some (.int .i64 x8) := hA3.cell 8 rfl
  have n8 : w3.cell? ⟨w1.heap.size, 8, none⟩ = some (.int .i64 0) := hN3.cell 8 rfl; have m8 := hN3.free 8
  have hne1 : w.heap.size + 1 ≠ w1.heap.size := by have := HL.out; omega
  clear own3 G3 lto hA3 hN3 hB3 rd3 hne e3 e4 O1b HA2 HB2 O1 HB
  go_wp2_with fail
  obtain ⟨W, hW⟩ : ∃ W, W = (w3).setCell ⟨w1.heap.size, 8, none⟩ (.int .i64 x8) := ⟨_, rfl⟩
  rw [← hW]
  have hA4 : Blk W (w.heap.size + 1) #[.int .i64 x0, .int .i64 x1, .int .i64 x2, .int .i64 x3, .int .i64 2, .int .i64 x5, .int .i64 0, .int .i64 x7, .int .i64 x8] 71 := by rw [hW]; exact (HA3.out).set_ne (p := ⟨w1.heap.size, 8, none⟩) (Ne.symm hne1) _
  have hN4 : Blk W w1.heap.size #[.int .i64 x0, .int .i64 x1, .int .i64 x2, .int .i64 x3, .int .i64 2, .int .i64 0, .int .i64 0, .int .i64 0, .int .i64 x8] 71 := by rw [hW]; exact ((HN3.out).set 8 (.int .i64 x8)).cast (by simp)
  have hO4 : W.ownsRow (w.heap.size + 2) 5 1 (.slice A3 xs.length c3) xs.length (bc xs) := by rw [hW]; exact own_set (O3.out) (p := ⟨w1.heap.size, 8, none⟩) HNE.out _
  have hB4 : Below w.heap.size w W := by rw [hW]; exact (HB3.out).setCell (p := ⟨w1.heap.size, 8, none⟩) (by have := HL.out; simp; omega) _
  clear hW n8 m8 a0 a1 a2 a3 a4 a5 a6 a7 a8
  have HN4 := Hd.mk hN4; have HO4 := Hd.mk hO4; have HB4 := Hd.mk hB4
  clear hA4 hN4 hO4 hB4 HA3 HN3 O3 HB3 HNE
  with_reducible refine (HSB.out _).mono ?_
  intro e w5 h1
  obtain ⟨A, c, rfl, k1, k2, k3, _, _, k4⟩ := h1.rd (by rw [HLEN.out]; omega)
  have HO5 := Hd.mk (own_below HO4.out k4); have HN5 := Hd.mk (HN4.out.below k4 HN4.out.lt); have HB5 := Hd.mk (HB4.out.trans (k4.mono HB4.out.size))
  have K3 := Hd.mk k3
  have C3 := Hd.mk (segmentOf A _ c xs w5 k3 k1 k2 HBY.out (by rw [HLEN.out]; omega) x0 x1 x2 x3 2 0 0 0 x8 false rfl HSD.out BB.out.1 BB.out.2.1 BB.out.2.2.1 BB.out.2.2.2.1 (by decide) (by decide) (by decide) BB.out.2.2.2.2.2.2)
  clear h1 k1 k2 k3 k4 HSB HN4 HO4 HB4 HSD BB
  go_wp2_with fail
  with_reducible refine C3.out.mono ?_
  rintro e w6 ⟨rfl, hb⟩
  have hN6 := HN5.out.below hb HN5.out.lt
  obtain ⟨_, _, he, _, _, R2, _, _⟩ := own_rd (own_below HO5.out hb) (by rw [HLEN.out]; decide)
  cases he
  have s1 := str_run (P := Try.prog) (src := 23) (dst := 9) (c := c) Try.underlying23 Try.underlying5 Try.underlying9 ((K3.out.below hb).below ((Below.refl _ _).alloc (Nat.le_refl _) (.cells #[.int .i64 x0, .int .i64 x1, .int .i64 x2, .int .i64 x3, .int .i64 2, .int .i64 0, .int .i64 0, .int .i64 0, .int .i64 x8] 71)))
  have s2 := str_run (P := Try.prog) (src := 23) (dst := 9) (c := c3) Try.underlying23 Try.underlying5 Try.underlying9 (R2.below ((Below.refl _ _).alloc (Nat.le_refl _) (.cells #[.int .i64 x0, .int .i64 x1, .int .i64 x2, .int .i64 x3, .int .i64 2, .int .i64 0, .int .i64 0, .int .i64 0, .int .i64 x8] 71)))
  have B6 := Hd.mk (HB5.out.trans (hb.mono HB5.out.size))
  have n0 : w6.cell? ⟨w1.heap.size, 0, none⟩ = some (.int .i64 x0) := hN6.cell 0 rfl
  have n1 : w6.cell? ⟨w1.heap.size, 1, none⟩ = some (.int .i64 x1) := hN6.cell 1 rfl
  have n2 : w6.cell? ⟨w1.heap.size, 2, none⟩ = some (.int .i64 x2) := hN6.cell 2 rfl
  have n3 : w6.cell? ⟨w1.heap.size, 3, none⟩ = some (.int .i64 x3) := hN6.cell 3 rfl
  have n4 : w6.cell? ⟨w1.heap.size, 4, none⟩ = some (.int .i64 2) := hN6.cell 4 rfl
  have n5 : w6.cell? ⟨w1.heap.size, 5, none⟩ = some (.int .i64 0) := hN6.cell 5 rfl
  have n6 : w6.cell? ⟨w1.heap.size, 6, none⟩ = some (.int .i64 0) := hN6.cell 6 rfl
  have n7 : w6.cell? ⟨w1.heap.size, 7, none⟩ = some (.int .i64 0) := hN6.cell 7 rfl
  have n8 : w6.cell? ⟨w1.heap.size, 8, none⟩ = some (.int .i64 x8) := hN6.cell 8 rfl
  have hlt := hN6.lt
  have heq := HEQ.out
  clear hb C3 hN6 R2 K3 HN5 HO5 HB5 HEQ
  go_wp2
  go_ret
  exact ⟨by simp, B6.out.alloc B6.out.size _⟩
set_option maxRecDepth 100000 in
theorem law_segment2true (x0 x1 x2 x3 k x5 x7 x8 : Int) (b0 : -2147483648 ≤ x0 ∧ x0 ≤ 2147483647) (b1 : -2147483648 ≤ x1 ∧ x1 ≤ 2147483647) (b2 : -32768 ≤ x2 ∧ x2 ≤ 32767) (b3 : -32768 ≤ x3 ∧ x3 ≤ 32767) (b5 : -128 ≤ x5 ∧ x5 ≤ 127) (b7 : -128 ≤ x7 ∧ x7 ≤ 127) (b8 : -32768 ≤ x8 ∧ x8 ≤ 32767) (w : World) (hk : k % 256 % 3 = 1) :
    Calls Try.prog 12 #[.int .i32 x0, .int .i32 x1, .int .i16 x2, .int .i16 x3, .int .i8 k, .int .i8 x5, .bool true, .int .i8 x7, .int .i16 x8] w fun e w' => e = .returned (.bool true) ∧ Below w.heap.size w w' := by
  obtain ⟨xs, hxs⟩ : ∃ xs, xs = leB 4 x0 ++ (leB 4 x1 ++ (leB 2 x2 ++ (leB 2 x3 ++ (leB 1 2 ++ (List.replicate 1 0 ++ (leB 2 x8 ++ (List.replicate 8 0))))))) := ⟨_, rfl⟩
  have hlen : xs.length = 24 := by rw [hxs]; simp [leB_len]
  have hby : ∀ x ∈ xs, 0 ≤ x ∧ x < 256 := by
    rw [hxs]
    exact (bytes_append (leB_byte _ _) (bytes_append (leB_byte _ _) (bytes_append (leB_byte _ _) (bytes_append (leB_byte _ _) (bytes_append (leB_byte _ _) (bytes_append (bytes_zero _) (bytes_append (leB_byte _ _) (bytes_zero _))))))))
  obtain ⟨r1, hr1⟩ : ∃ r1, rowB [(x0, 4), (x1, 4), (x2, 2), (x3, 2), (2, 1)] = r1 := ⟨_, rfl⟩
  have hl1 : r1.length = 13 := by rw [← hr1]; simp [rowB, leB_len]
  obtain ⟨r2, hr2⟩ : ∃ r2, rowB [(0, 1), (x8, 2), (0, 8)] = r2 := ⟨_, rfl⟩
  have hl2 : r2.length = 11 := by rw [← hr2]; simp [rowB, leB_len]
  have hx : r1 ++ r2 = xs := by
    have z8 : leB 8 0 = List.replicate 8 0 := by decide
    have z1 : leB 1 0 = List.replicate 1 0 := by decide
    rw [hxs, ← hr1, ← hr2]; simp only [rowB, z8, z1, List.append_assoc, List.append_nil, List.nil_append]
  have hsd : ∀ (K : DK), K.xs = xs → ∀ (W : World) (g : Nat), _ → Calls Try.prog 87 #[.pointer (some ⟨g, 0, none⟩), .pointer (some ⟨K.d, 0, none⟩)] W _ := fun K hK W g h => segDec2 x0 x1 x2 x3 x5 x7 x8 true 1 rfl b0 b1 b2 b3 b5 b7 b8 xs hxs K hK W g h
  have hsb := fun w => segmentBytes2 x0 x1 x2 x3 x5 x7 x8 true 1 rfl b0 b1 b2 b3 b5 b7 b8 w
  rw [← hxs] at hsb
  obtain ⟨i0, hi, _⟩ := info_of infoI
  obtain ⟨j0, hj0, hj1, hj2, hj3⟩ := info_of infoB
  have heq : ∀ w, (Op.equalIn 10000 71 (.agg #[.int .i64 x0, .int .i64 x1, .int .i64 x2, .int .i64 x3, .int .i64 2, .int .i64 0, .int .i64 0, .int .i64 0, .int .i64 x8]) (.agg #[.int .i64 x0, .int .i64 x1, .int .i64 x2, .int .i64 x3, .int .i64 2, .int .i64 0, .int .i64 0, .int .i64 0, .int .i64 x8])).run Try.prog w = .ok true w :=
    fun w => eq_ints .i64 w 9998 9 [x0, x1, x2, x3, 2, 0, 0, 0, x8] Try.underlying71 Try.underlying3 hi (by kernel_rfl) rfl
  have C1 := Hd.mk (fun w g hg => heRow3 [(x0, 4), (x1, 4), (x2, 2), (x3, 2), (2, 1)] 5 #[.int .i64 x0, .int .i64 x1, .int .i64 x2, .int .i64 x3, .int .i64 2] #[.int .i64 4, .int .i64 4, .int .i64 2, .int .i64 2, .int .i64 1] 2 3 w g hg rfl rfl rfl (by simp) (by omega) r1 hr1)
  have C2 := Hd.mk (fun w g hg => heRow3 [(0, 1), (x8, 2), (0, 8)] 3 #[.int .i64 0, .int .i64 x8, .int .i64 0] #[.int .i64 1, .int .i64 2, .int .i64 8] 2 3 w g hg rfl rfl rfl (by simp) (by omega) r2 hr2)
  have HX := Hd.mk hx; have HLEN := Hd.mk hlen; have HBY := Hd.mk hby; have HSD := Hd.mk hsd; have HSB := Hd.mk hsb; have HEQ := Hd.mk heq; have HL1 := Hd.mk hl1; have HL2 := Hd.mk hl2; have J := Hd.mk (And.intro hj0 (And.intro hj1 (And.intro hj2 hj3)))
  have BB := Hd.mk (And.intro b0 (And.intro b1 (And.intro b2 (And.intro b3 (And.intro b5 (And.intro b7 b8))))))
  obtain ⟨p0, q0⟩ := b0; obtain ⟨p1, q1⟩ := b1; obtain ⟨p2, q2⟩ := b2; obtain ⟨p3, q3⟩ := b3; obtain ⟨p5, q5⟩ := b5; obtain ⟨p7, q7⟩ := b7; obtain ⟨p8, q8⟩ := b8
  clear hx hlen hby hsd hsb heq hr1 hr2 hl1 hl2 hxs hi hj0 hj1 hj2 hj3
  go_enter Try.func12, Try.ntmps12
  go_wp2_with fail
  with_reducible refine (C1.out _ _ (by simp)).mono ?_
  intro e w1 h1
  obtain ⟨v1, rfl, own1, B1⟩ := h1
  have hA : Blk w1 (w.heap.size + 1) #[.int .i64 x0, .int .i64 x1, .int .i64 x2, .int .i64 x3, .int .i64 2, .int .i64 x5, .int .i64 1, .int .i64 x7, .int .i64 x8] 71 := by
    have := (Blk.new (w.alloc (.cells #[.int .i64 1, .int .i64 2, .int .i64 5] 3)) #[.int .i64 x0, .int .i64 x1, .int .i64 x2, .int .i64 x3, .int .i64 2, .int .i64 x5, .int .i64 1, .int .i64 x7, .int .i64 x8] 71).below B1 (by simp)
    simpa using this
  have HB := Hd.mk (((((Below.refl _ w).alloc (Nat.le_refl _) (.cells #[.int .i64 1, .int .i64 2, .int .i64 5] 3)).alloc (by simp) (.cells #[.int .i64 x0, .int .i64 x1, .int .i64 x2, .int .i64 x3, .int .i64 2, .int .i64 x5, .int .i64 1, .int .i64 x7, .int .i64 x8] 71))).trans (B1.mono (by simp; omega)))
  have O1 := Hd.mk (own_base own1 (B' := w.heap.size + 2) (by simp))
  have HA := Hd.mk hA; have S1 := Hd.mk B1.size; have HL := Hd.mk (hA.lt)
  have d0 : w1.cell? ⟨w.heap.size + 1, 0, none⟩ = some (.int .i64 x0) := hA.cell 0 rfl
  have d1 : w1.cell? ⟨w.heap.size + 1, 1, none⟩ = some (.int .i64 x1) := hA.cell 1 rfl
  have d2 : w1.cell? ⟨w.heap.size + 1, 2, none⟩ = some (.int .i64 x2) := hA.cell 2 rfl
  have d3 : w1.cell? ⟨w.heap.size + 1, 3, none⟩ = some (.int .i64 x3) := hA.cell 3 rfl
  have d4 : w1.cell? ⟨w.heap.size + 1, 4, none⟩ = some (.int .i64 2) := hA.cell 4 rfl
  have d5 : w1.cell? ⟨w.heap.size + 1, 5, none⟩ = some (.int .i64 x5) := hA.cell 5 rfl
  have d6 : w1.cell? ⟨w.heap.size + 1, 6, none⟩ = some (.int .i64 1) := hA.cell 6 rfl
  have d7 : w1.cell? ⟨w.heap.size + 1, 7, none⟩ = some (.int .i64 x7) := hA.cell 7 rfl
  have d8 : w1.cell? ⟨w.heap.size + 1, 8, none⟩ = some (.int .i64 x8) := hA.cell 8 rfl
  have NB := Hd.mk (Blk.new w1 #[.int .i64 x0, .int .i64 x1, .int .i64 x2, .int .i64 x3, .int .i64 2, .int .i64 0, .int .i64 0, .int .i64 0, .int .i64 0] 71)
  clear own1 B1 hA C1
  go_wp2_with fail
  with_reducible refine (C2.out _ _ (by simp)).mono ?_
  intro e w2 h1
  obtain ⟨v2, rfl, own2, B2⟩ := h1
  have O1b := (O1.out.alloc (.cells #[.int .i64 x0, .int .i64 x1, .int .i64 x2, .int .i64 x3, .int .i64 2, .int .i64 0, .int .i64 0, .int .i64 0, .int .i64 0] 71)).kept (row := none) (w' := w2) ⟨B2.os, B2.tape, B2.output, B2.size, fun k hk _ => B2.block k hk⟩ (by cases h : Value.ownBlock _ with | none => exact .inl rfl | some k => exact .inr (by simp))
  obtain ⟨G2, cap2, rfl⟩ := ownsRow_form own2 (by rw [HL2.out]; decide)
  have HN := Hd.mk (own2.cells (g := G2) rfl)
  have HB2 := Hd.mk ((HB.out.alloc HB.out.size (.cells #[.int .i64 x0, .int .i64 x1, .int .i64 x2, .int .i64 x3, .int .i64 2, .int .i64 0, .int .i64 0, .int .i64 0, .int .i64 0] 71)).trans (B2.mono (by have := HB.out.size; simp; omega)))
  have HA2 := Hd.mk ((HA.out.alloc (.cells #[.int .i64 x0, .int .i64 x1, .int .i64 x2, .int .i64 x3, .int .i64 2, .int .i64 0, .int .i64 0, .int .i64 0, .int .i64 0] 71)).below B2 (by have := HA.out.lt; simp; omega))
  have NB2 := Hd.mk (NB.out.below B2 (by simp))
  have S2 := Hd.mk B2.size
  clear own2 B2 C2 HA NB d0 d1 d2 d3 d4 d5 d6 d7 d8
  go_wp2_with (at_builtin; refine wpList_append_own _ rfl _ _ 23 rfl (w.heap.size + 2) 5 j0 (.int .u8 0) 1 1 Try.underlying23 J.out.1 J.out.2.1 J.out.2.2.1 J.out.2.2.2 rfl (by decide) _ _ _ rfl O1b ⟨G2, 0, none⟩ r2.length cap2 (bc r2) rfl ?c0 ?c1 ?c2 ?c3 ?c4 ?c5 ?_)
  case c0 => simp
  case c1 => exact HN.out
  case c2 =>
    intro u hu
    obtain ⟨x, _, rfl⟩ := List.mem_map.1 hu
    rfl
  case c3 => rw [HL1.out, HL2.out]; decide
  case c4 => rw [HL1.out, HL2.out]; decide
  case c5 => have h1 := S2.out; have h2 := HL.out; simp at h1; omega
  intro v3 w3 own3 G3 _
  have e3 : bc r1 ++ bc r2 = bc xs := by rw [← HX.out]; exact List.map_append.symm
  have e4 : r1.length + r2.length = xs.length := by rw [HLEN.out, HL1.out, HL2.out]
  rw [e3, e4] at own3
  have lto := O1.out.lt
  have hA3 := HA2.out.grown G3 (fun h => by have := lto _ h; omega)
  have hN3 := NB2.out.grown G3 (fun h => by have := lto _ h; omega)
  obtain ⟨A3, c3, rfl, _, _, rd3, _, _⟩ := own_rd own3 (by rw [HLEN.out]; decide)
  have hB3 := HB2.out.grown G3 HB2.out.size (fun k hk => by have := lto _ hk; omega)
  have hne := own_ne own3 hN3 (by decide)
  have HNE := Hd.mk hne; have O3 := Hd.mk own3; have HB3 := Hd.mk hB3; have HA3 := Hd.mk hA3; have HN3 := Hd.mk hN3; have SW := Hd.mk S1.out
  have a0 : w3.cell? ⟨w.heap.size + 1, 0, none⟩ = some (.int .i64 x0) := hA3.cell 0 rfl
  have a1 : w3.cell? ⟨w.heap.size + 1, 1, none⟩ = some (.int .i64 x1) := hA3.cell 1 rfl
  have a2 : w3.cell? ⟨w.heap.size + 1, 2, none⟩ = some (.int .i64 x2) := hA3.cell 2 rfl
  have a3 : w3.cell? ⟨w.heap.size + 1, 3, none⟩ = some (.int .i64 x3) := hA3.cell 3 rfl
  have a4 : w3.cell? ⟨w.heap.size + 1, 4, none⟩ = some (.int .i64 2) := hA3.cell 4 rfl
  have a5 : w3.cell? ⟨w.heap.size + 1, 5, none⟩ = some (.int .i64 x5) := hA3.cell 5 rfl
  have a6 : w3.cell? ⟨w.heap.size + 1, 6, none⟩ = some (.int .i64 1) := hA3.cell 6 rfl
  have a7 : w3.cell? ⟨w.heap.size + 1, 7, none⟩ = some (.int .i64 x7) := hA3.cell 7 rfl
  have a8 : w3.cell? ⟨w.heap.size + 1, 8, none⟩ = some (.int .i64 x8) := hA3.cell 8 rfl
  have n8 : w3.cell? ⟨w1.heap.size, 8, none⟩ = some (.int .i64 0) := hN3.cell 8 rfl; have m8 := hN3.free 8
  have hne1 : w.heap.size + 1 ≠ w1.heap.size := by have := HL.out; omega
  clear own3 G3 lto hA3 hN3 hB3 rd3 hne e3 e4 O1b HA2 HB2 O1 HB
  go_wp2_with fail
  obtain ⟨W, hW⟩ : ∃ W, W = (w3).setCell ⟨w1.heap.size, 8, none⟩ (.int .i64 x8) := ⟨_, rfl⟩
  rw [← hW]
  have hA4 : Blk W (w.heap.size + 1) #[.int .i64 x0, .int .i64 x1, .int .i64 x2, .int .i64 x3, .int .i64 2, .int .i64 x5, .int .i64 1, .int .i64 x7, .int .i64 x8] 71 := by rw [hW]; exact (HA3.out).set_ne (p := ⟨w1.heap.size, 8, none⟩) (Ne.symm hne1) _
  have hN4 : Blk W w1.heap.size #[.int .i64 x0, .int .i64 x1, .int .i64 x2, .int .i64 x3, .int .i64 2, .int .i64 0, .int .i64 0, .int .i64 0, .int .i64 x8] 71 := by rw [hW]; exact ((HN3.out).set 8 (.int .i64 x8)).cast (by simp)
  have hO4 : W.ownsRow (w.heap.size + 2) 5 1 (.slice A3 xs.length c3) xs.length (bc xs) := by rw [hW]; exact own_set (O3.out) (p := ⟨w1.heap.size, 8, none⟩) HNE.out _
  have hB4 : Below w.heap.size w W := by rw [hW]; exact (HB3.out).setCell (p := ⟨w1.heap.size, 8, none⟩) (by have := HL.out; simp; omega) _
  clear hW n8 m8 a0 a1 a2 a3 a4 a5 a6 a7 a8
  have HN4 := Hd.mk hN4; have HO4 := Hd.mk hO4; have HB4 := Hd.mk hB4
  clear hA4 hN4 hO4 hB4 HA3 HN3 O3 HB3 HNE
  with_reducible refine (HSB.out _).mono ?_
  intro e w5 h1
  obtain ⟨A, c, rfl, k1, k2, k3, _, _, k4⟩ := h1.rd (by rw [HLEN.out]; omega)
  have HO5 := Hd.mk (own_below HO4.out k4); have HN5 := Hd.mk (HN4.out.below k4 HN4.out.lt); have HB5 := Hd.mk (HB4.out.trans (k4.mono HB4.out.size))
  have K3 := Hd.mk k3
  have C3 := Hd.mk (segmentOf A _ c xs w5 k3 k1 k2 HBY.out (by rw [HLEN.out]; omega) x0 x1 x2 x3 2 0 0 0 x8 false rfl HSD.out BB.out.1 BB.out.2.1 BB.out.2.2.1 BB.out.2.2.2.1 (by decide) (by decide) (by decide) BB.out.2.2.2.2.2.2)
  clear h1 k1 k2 k3 k4 HSB HN4 HO4 HB4 HSD BB
  go_wp2_with fail
  with_reducible refine C3.out.mono ?_
  rintro e w6 ⟨rfl, hb⟩
  have hN6 := HN5.out.below hb HN5.out.lt
  obtain ⟨_, _, he, _, _, R2, _, _⟩ := own_rd (own_below HO5.out hb) (by rw [HLEN.out]; decide)
  cases he
  have s1 := str_run (P := Try.prog) (src := 23) (dst := 9) (c := c) Try.underlying23 Try.underlying5 Try.underlying9 ((K3.out.below hb).below ((Below.refl _ _).alloc (Nat.le_refl _) (.cells #[.int .i64 x0, .int .i64 x1, .int .i64 x2, .int .i64 x3, .int .i64 2, .int .i64 0, .int .i64 0, .int .i64 0, .int .i64 x8] 71)))
  have s2 := str_run (P := Try.prog) (src := 23) (dst := 9) (c := c3) Try.underlying23 Try.underlying5 Try.underlying9 (R2.below ((Below.refl _ _).alloc (Nat.le_refl _) (.cells #[.int .i64 x0, .int .i64 x1, .int .i64 x2, .int .i64 x3, .int .i64 2, .int .i64 0, .int .i64 0, .int .i64 0, .int .i64 x8] 71)))
  have B6 := Hd.mk (HB5.out.trans (hb.mono HB5.out.size))
  have n0 : w6.cell? ⟨w1.heap.size, 0, none⟩ = some (.int .i64 x0) := hN6.cell 0 rfl
  have n1 : w6.cell? ⟨w1.heap.size, 1, none⟩ = some (.int .i64 x1) := hN6.cell 1 rfl
  have n2 : w6.cell? ⟨w1.heap.size, 2, none⟩ = some (.int .i64 x2) := hN6.cell 2 rfl
  have n3 : w6.cell? ⟨w1.heap.size, 3, none⟩ = some (.int .i64 x3) := hN6.cell 3 rfl
  have n4 : w6.cell? ⟨w1.heap.size, 4, none⟩ = some (.int .i64 2) := hN6.cell 4 rfl
  have n5 : w6.cell? ⟨w1.heap.size, 5, none⟩ = some (.int .i64 0) := hN6.cell 5 rfl
  have n6 : w6.cell? ⟨w1.heap.size, 6, none⟩ = some (.int .i64 0) := hN6.cell 6 rfl
  have n7 : w6.cell? ⟨w1.heap.size, 7, none⟩ = some (.int .i64 0) := hN6.cell 7 rfl
  have n8 : w6.cell? ⟨w1.heap.size, 8, none⟩ = some (.int .i64 x8) := hN6.cell 8 rfl
  have hlt := hN6.lt
  have heq := HEQ.out
  clear hb C3 hN6 R2 K3 HN5 HO5 HB5 HEQ
  go_wp2
  go_ret
  exact ⟨by simp, B6.out.alloc B6.out.size _⟩
set_option maxRecDepth 100000 in
theorem law_segment5false (x0 x1 x2 x3 k x5 x7 x8 : Int) (b0 : -2147483648 ≤ x0 ∧ x0 ≤ 2147483647) (b1 : -2147483648 ≤ x1 ∧ x1 ≤ 2147483647) (b2 : -32768 ≤ x2 ∧ x2 ≤ 32767) (b3 : -32768 ≤ x3 ∧ x3 ≤ 32767) (b5 : -128 ≤ x5 ∧ x5 ≤ 127) (b7 : -128 ≤ x7 ∧ x7 ≤ 127) (b8 : -32768 ≤ x8 ∧ x8 ≤ 32767) (w : World) (hk : k % 256 % 3 = 2) :
    Calls Try.prog 12 #[.int .i32 x0, .int .i32 x1, .int .i16 x2, .int .i16 x3, .int .i8 k, .int .i8 x5, .bool false, .int .i8 x7, .int .i16 x8] w fun e w' => e = .returned (.bool true) ∧ Below w.heap.size w w' := by
  obtain ⟨xs, hxs⟩ : ∃ xs, xs = leB 4 x0 ++ (leB 4 x1 ++ (leB 2 x2 ++ (leB 2 x3 ++ (leB 1 5 ++ (List.replicate 11 0))))) := ⟨_, rfl⟩
  have hlen : xs.length = 24 := by rw [hxs]; simp [leB_len]
  have hby : ∀ x ∈ xs, 0 ≤ x ∧ x < 256 := by
    rw [hxs]
    exact (bytes_append (leB_byte _ _) (bytes_append (leB_byte _ _) (bytes_append (leB_byte _ _) (bytes_append (leB_byte _ _) (bytes_append (leB_byte _ _) (bytes_zero _))))))
  obtain ⟨r1, hr1⟩ : ∃ r1, rowB [(x0, 4), (x1, 4), (x2, 2), (x3, 2), (5, 1)] = r1 := ⟨_, rfl⟩
  have hl1 : r1.length = 13 := by rw [← hr1]; simp [rowB, leB_len]
  have hx : r1 ++ List.replicate 11 0 = xs := by rw [hxs, ← hr1]; simp only [rowB, List.append_assoc, List.append_nil, List.nil_append]
  have hsd : ∀ (K : DK), K.xs = xs → ∀ (W : World) (g : Nat), _ → Calls Try.prog 87 #[.pointer (some ⟨g, 0, none⟩), .pointer (some ⟨K.d, 0, none⟩)] W _ := fun K hK W g h => segDec5 x0 x1 x2 x3 x5 x7 x8 false 0 rfl b0 b1 b2 b3 b5 b7 b8 xs hxs K hK W g h
  have hsb := fun w => segmentBytes5 x0 x1 x2 x3 x5 x7 x8 false 0 rfl b0 b1 b2 b3 b5 b7 b8 w
  rw [← hxs] at hsb
  obtain ⟨i0, hi, _⟩ := info_of infoI
  obtain ⟨j0, hj0, hj1, hj2, hj3⟩ := info_of infoB
  have heq : ∀ w, (Op.equalIn 10000 71 (.agg #[.int .i64 x0, .int .i64 x1, .int .i64 x2, .int .i64 x3, .int .i64 5, .int .i64 0, .int .i64 0, .int .i64 0, .int .i64 0]) (.agg #[.int .i64 x0, .int .i64 x1, .int .i64 x2, .int .i64 x3, .int .i64 5, .int .i64 0, .int .i64 0, .int .i64 0, .int .i64 0])).run Try.prog w = .ok true w :=
    fun w => eq_ints .i64 w 9998 9 [x0, x1, x2, x3, 5, 0, 0, 0, 0] Try.underlying71 Try.underlying3 hi (by kernel_rfl) rfl
  have C1 := Hd.mk (fun w g hg => heRow3 [(x0, 4), (x1, 4), (x2, 2), (x3, 2), (5, 1)] 5 #[.int .i64 x0, .int .i64 x1, .int .i64 x2, .int .i64 x3, .int .i64 5] #[.int .i64 4, .int .i64 4, .int .i64 2, .int .i64 2, .int .i64 1] 2 3 w g hg rfl rfl rfl (by simp) (by omega) r1 hr1)
  have HX := Hd.mk hx; have HLEN := Hd.mk hlen; have HBY := Hd.mk hby; have HSD := Hd.mk hsd; have HSB := Hd.mk hsb; have HEQ := Hd.mk heq; have HL1 := Hd.mk hl1; have J := Hd.mk (And.intro hj0 (And.intro hj1 (And.intro hj2 hj3)))
  have BB := Hd.mk (And.intro b0 (And.intro b1 (And.intro b2 (And.intro b3 (And.intro b5 (And.intro b7 b8))))))
  obtain ⟨p0, q0⟩ := b0; obtain ⟨p1, q1⟩ := b1; obtain ⟨p2, q2⟩ := b2; obtain ⟨p3, q3⟩ := b3; obtain ⟨p5, q5⟩ := b5; obtain ⟨p7, q7⟩ := b7; obtain ⟨p8, q8⟩ := b8
  clear hx hlen hby hsd hsb heq hr1 hl1 hxs hi hj0 hj1 hj2 hj3
  go_enter Try.func12, Try.ntmps12
  go_wp2_with fail
  with_reducible refine (C1.out _ _ (by simp)).mono ?_
  intro e w1 h1
  obtain ⟨v1, rfl, own1, B1⟩ := h1
  have hA : Blk w1 (w.heap.size + 1) #[.int .i64 x0, .int .i64 x1, .int .i64 x2, .int .i64 x3, .int .i64 5, .int .i64 x5, .int .i64 0, .int .i64 x7, .int .i64 x8] 71 := by
    have := (Blk.new (w.alloc (.cells #[.int .i64 1, .int .i64 2, .int .i64 5] 3)) #[.int .i64 x0, .int .i64 x1, .int .i64 x2, .int .i64 x3, .int .i64 5, .int .i64 x5, .int .i64 0, .int .i64 x7, .int .i64 x8] 71).below B1 (by simp)
    simpa using this
  have HB := Hd.mk (((((Below.refl _ w).alloc (Nat.le_refl _) (.cells #[.int .i64 1, .int .i64 2, .int .i64 5] 3)).alloc (by simp) (.cells #[.int .i64 x0, .int .i64 x1, .int .i64 x2, .int .i64 x3, .int .i64 5, .int .i64 x5, .int .i64 0, .int .i64 x7, .int .i64 x8] 71))).trans (B1.mono (by simp; omega)))
  have O1 := Hd.mk (own_base own1 (B' := w.heap.size + 2) (by simp))
  have HA := Hd.mk hA; have S1 := Hd.mk B1.size; have HL := Hd.mk (hA.lt)
  have d0 : w1.cell? ⟨w.heap.size + 1, 0, none⟩ = some (.int .i64 x0) := hA.cell 0 rfl
  have d1 : w1.cell? ⟨w.heap.size + 1, 1, none⟩ = some (.int .i64 x1) := hA.cell 1 rfl
  have d2 : w1.cell? ⟨w.heap.size + 1, 2, none⟩ = some (.int .i64 x2) := hA.cell 2 rfl
  have d3 : w1.cell? ⟨w.heap.size + 1, 3, none⟩ = some (.int .i64 x3) := hA.cell 3 rfl
  have d4 : w1.cell? ⟨w.heap.size + 1, 4, none⟩ = some (.int .i64 5) := hA.cell 4 rfl
  have d5 : w1.cell? ⟨w.heap.size + 1, 5, none⟩ = some (.int .i64 x5) := hA.cell 5 rfl
  have d6 : w1.cell? ⟨w.heap.size + 1, 6, none⟩ = some (.int .i64 0) := hA.cell 6 rfl
  have d7 : w1.cell? ⟨w.heap.size + 1, 7, none⟩ = some (.int .i64 x7) := hA.cell 7 rfl
  have d8 : w1.cell? ⟨w.heap.size + 1, 8, none⟩ = some (.int .i64 x8) := hA.cell 8 rfl
  have NB := Hd.mk (Blk.new w1 #[.int .i64 x0, .int .i64 x1, .int .i64 x2, .int .i64 x3, .int .i64 5, .int .i64 0, .int .i64 0, .int .i64 0, .int .i64 0] 71)
  clear own1 B1 hA C1
  have O1b := O1.out.alloc (.cells #[.int .i64 x0, .int .i64 x1, .int .i64 x2, .int .i64 x3, .int .i64 5, .int .i64 0, .int .i64 0, .int .i64 0, .int .i64 0] 71)
  have HB2 := Hd.mk (HB.out.alloc HB.out.size (.cells #[.int .i64 x0, .int .i64 x1, .int .i64 x2, .int .i64 x3, .int .i64 5, .int .i64 0, .int .i64 0, .int .i64 0, .int .i64 0] 71))
  have HA2 := Hd.mk (HA.out.alloc (.cells #[.int .i64 x0, .int .i64 x1, .int .i64 x2, .int .i64 x3, .int .i64 5, .int .i64 0, .int .i64 0, .int .i64 0, .int .i64 0] 71))
  have NB2 := NB
  go_wp2_with (at_builtin; refine wpList_append_own_zeros rfl _ _ 23 3 rfl (w.heap.size + 2) 5 j0 (.int .u8 0) .i64 .i64 Try.underlying23 Try.underlying3 J.out.1 J.out.2.1 J.out.2.2.1 rfl rfl _ _ _ rfl O1b 11 11 rfl rfl (by decide) ?c3 ?c4 ?c5 ?_)
  case c3 => rw [HL1.out]; decide
  case c4 => rw [HL1.out, J.out.2.2.2]; decide
  case c5 => have h2 := HL.out; simp; omega
  intro v3 w3 own3 G3
  have e3 : bc r1 ++ List.replicate 11 (.int .u8 0) = bc xs := by rw [← HX.out]; simp only [bc, List.map_append, List.map_replicate]
  have e4 : r1.length + 11 = xs.length := by rw [HLEN.out, HL1.out]
  change w3.ownsRow _ _ _ _ _ (bc r1 ++ List.replicate 11 (.int .u8 0)) at own3
  rw [e3, e4] at own3
  have lto := O1.out.lt
  have hA3 := HA2.out.grown G3 (fun h => by have := lto _ h; omega)
  have hN3 := NB2.out.grown G3 (fun h => by have := lto _ h; omega)
  obtain ⟨A3, c3, rfl, _, _, rd3, _, _⟩ := own_rd own3 (by rw [HLEN.out]; decide)
  have hB3 := HB2.out.grown G3 HB2.out.size (fun k hk => by have := lto _ hk; omega)
  have hne := own_ne own3 hN3 (by decide)
  have HNE := Hd.mk hne; have O3 := Hd.mk own3; have HB3 := Hd.mk hB3; have HA3 := Hd.mk hA3; have HN3 := Hd.mk hN3; have SW := Hd.mk S1.out
  have a0 : w3.cell? ⟨w.heap.size + 1, 0, none⟩ = some (.int .i64 x0) := hA3.cell 0 rfl
  have a1 : w3.cell? ⟨w.heap.size + 1, 1, none⟩ = some (.int .i64 x1) := hA3.cell 1 rfl
  have a2 : w3.cell? ⟨w.heap.size + 1, 2, none⟩ = some (.int .i64 x2) := hA3.cell 2 rfl
  have a3 : w3.cell? ⟨w.heap.size + 1, 3, none⟩ = some (.int .i64 x3) := hA3.cell 3 rfl
  have a4 : w3.cell? ⟨w.heap.size + 1, 4, none⟩ = some (.int .i64 5) := hA3.cell 4 rfl
  have a5 : w3.cell? ⟨w.heap.size + 1, 5, none⟩ = some (.int .i64 x5) := hA3.cell 5 rfl
  have a6 : w3.cell? ⟨w.heap.size + 1, 6, none⟩ = some (.int .i64 0) := hA3.cell 6 rfl
  have a7 : w3.cell? ⟨w.heap.size + 1, 7, none⟩ = some (.int .i64 x7) := hA3.cell 7 rfl
  have a8 : w3.cell? ⟨w.heap.size + 1, 8, none⟩ = some (.int .i64 x8) := hA3.cell 8 rfl
  have hne1 : w.heap.size + 1 ≠ w1.heap.size := by have := HA.out.lt; omega
  clear own3 G3 lto hA3 hN3 hB3 rd3 hne e3 e4 O1b HA2 HB2 O1 HB HA
  go_wp2_with fail
  obtain ⟨W, hW⟩ : ∃ W, W = w3 := ⟨_, rfl⟩
  subst hW
  have hA4 := HA3.out; have hN4 := HN3.out; have hO4 := O3.out; have hB4 := HB3.out
  clear a0 a1 a2 a3 a4 a5 a6 a7 a8
  have HN4 := Hd.mk hN4; have HO4 := Hd.mk hO4; have HB4 := Hd.mk hB4
  clear hA4 hN4 hO4 hB4 HA3 HN3 O3 HB3 HNE
  with_reducible refine (HSB.out _).mono ?_
  intro e w5 h1
  obtain ⟨A, c, rfl, k1, k2, k3, _, _, k4⟩ := h1.rd (by rw [HLEN.out]; omega)
  have HO5 := Hd.mk (own_below HO4.out k4); have HN5 := Hd.mk (HN4.out.below k4 HN4.out.lt); have HB5 := Hd.mk (HB4.out.trans (k4.mono HB4.out.size))
  have K3 := Hd.mk k3
  have C3 := Hd.mk (segmentOf A _ c xs w5 k3 k1 k2 HBY.out (by rw [HLEN.out]; omega) x0 x1 x2 x3 5 0 0 0 0 false rfl HSD.out BB.out.1 BB.out.2.1 BB.out.2.2.1 BB.out.2.2.2.1 (by decide) (by decide) (by decide) (by decide))
  clear h1 k1 k2 k3 k4 HSB HN4 HO4 HB4 HSD BB
  go_wp2_with fail
  with_reducible refine C3.out.mono ?_
  rintro e w6 ⟨rfl, hb⟩
  have hN6 := HN5.out.below hb HN5.out.lt
  obtain ⟨_, _, he, _, _, R2, _, _⟩ := own_rd (own_below HO5.out hb) (by rw [HLEN.out]; decide)
  cases he
  have s1 := str_run (P := Try.prog) (src := 23) (dst := 9) (c := c) Try.underlying23 Try.underlying5 Try.underlying9 ((K3.out.below hb).below ((Below.refl _ _).alloc (Nat.le_refl _) (.cells #[.int .i64 x0, .int .i64 x1, .int .i64 x2, .int .i64 x3, .int .i64 5, .int .i64 0, .int .i64 0, .int .i64 0, .int .i64 0] 71)))
  have s2 := str_run (P := Try.prog) (src := 23) (dst := 9) (c := c3) Try.underlying23 Try.underlying5 Try.underlying9 (R2.below ((Below.refl _ _).alloc (Nat.le_refl _) (.cells #[.int .i64 x0, .int .i64 x1, .int .i64 x2, .int .i64 x3, .int .i64 5, .int .i64 0, .int .i64 0, .int .i64 0, .int .i64 0] 71)))
  have B6 := Hd.mk (HB5.out.trans (hb.mono HB5.out.size))
  have n0 : w6.cell? ⟨w1.heap.size, 0, none⟩ = some (.int .i64 x0) := hN6.cell 0 rfl
  have n1 : w6.cell? ⟨w1.heap.size, 1, none⟩ = some (.int .i64 x1) := hN6.cell 1 rfl
  have n2 : w6.cell? ⟨w1.heap.size, 2, none⟩ = some (.int .i64 x2) := hN6.cell 2 rfl
  have n3 : w6.cell? ⟨w1.heap.size, 3, none⟩ = some (.int .i64 x3) := hN6.cell 3 rfl
  have n4 : w6.cell? ⟨w1.heap.size, 4, none⟩ = some (.int .i64 5) := hN6.cell 4 rfl
  have n5 : w6.cell? ⟨w1.heap.size, 5, none⟩ = some (.int .i64 0) := hN6.cell 5 rfl
  have n6 : w6.cell? ⟨w1.heap.size, 6, none⟩ = some (.int .i64 0) := hN6.cell 6 rfl
  have n7 : w6.cell? ⟨w1.heap.size, 7, none⟩ = some (.int .i64 0) := hN6.cell 7 rfl
  have n8 : w6.cell? ⟨w1.heap.size, 8, none⟩ = some (.int .i64 0) := hN6.cell 8 rfl
  have hlt := hN6.lt
  have heq := HEQ.out
  clear hb C3 hN6 R2 K3 HN5 HO5 HB5 HEQ
  go_wp2
  go_ret
  exact ⟨by simp, B6.out.alloc B6.out.size _⟩
set_option maxRecDepth 100000 in
theorem law_segment5true (x0 x1 x2 x3 k x5 x7 x8 : Int) (b0 : -2147483648 ≤ x0 ∧ x0 ≤ 2147483647) (b1 : -2147483648 ≤ x1 ∧ x1 ≤ 2147483647) (b2 : -32768 ≤ x2 ∧ x2 ≤ 32767) (b3 : -32768 ≤ x3 ∧ x3 ≤ 32767) (b5 : -128 ≤ x5 ∧ x5 ≤ 127) (b7 : -128 ≤ x7 ∧ x7 ≤ 127) (b8 : -32768 ≤ x8 ∧ x8 ≤ 32767) (w : World) (hk : k % 256 % 3 = 2) :
    Calls Try.prog 12 #[.int .i32 x0, .int .i32 x1, .int .i16 x2, .int .i16 x3, .int .i8 k, .int .i8 x5, .bool true, .int .i8 x7, .int .i16 x8] w fun e w' => e = .returned (.bool true) ∧ Below w.heap.size w w' := by
  obtain ⟨xs, hxs⟩ : ∃ xs, xs = leB 4 x0 ++ (leB 4 x1 ++ (leB 2 x2 ++ (leB 2 x3 ++ (leB 1 5 ++ (List.replicate 11 0))))) := ⟨_, rfl⟩
  have hlen : xs.length = 24 := by rw [hxs]; simp [leB_len]
  have hby : ∀ x ∈ xs, 0 ≤ x ∧ x < 256 := by
    rw [hxs]
    exact (bytes_append (leB_byte _ _) (bytes_append (leB_byte _ _) (bytes_append (leB_byte _ _) (bytes_append (leB_byte _ _) (bytes_append (leB_byte _ _) (bytes_zero _))))))
  obtain ⟨r1, hr1⟩ : ∃ r1, rowB [(x0, 4), (x1, 4), (x2, 2), (x3, 2), (5, 1)] = r1 := ⟨_, rfl⟩
  have hl1 : r1.length = 13 := by rw [← hr1]; simp [rowB, leB_len]
  have hx : r1 ++ List.replicate 11 0 = xs := by rw [hxs, ← hr1]; simp only [rowB, List.append_assoc, List.append_nil, List.nil_append]
  have hsd : ∀ (K : DK), K.xs = xs → ∀ (W : World) (g : Nat), _ → Calls Try.prog 87 #[.pointer (some ⟨g, 0, none⟩), .pointer (some ⟨K.d, 0, none⟩)] W _ := fun K hK W g h => segDec5 x0 x1 x2 x3 x5 x7 x8 true 1 rfl b0 b1 b2 b3 b5 b7 b8 xs hxs K hK W g h
  have hsb := fun w => segmentBytes5 x0 x1 x2 x3 x5 x7 x8 true 1 rfl b0 b1 b2 b3 b5 b7 b8 w
  rw [← hxs] at hsb
  obtain ⟨i0, hi, _⟩ := info_of infoI
  obtain ⟨j0, hj0, hj1, hj2, hj3⟩ := info_of infoB
  have heq : ∀ w, (Op.equalIn 10000 71 (.agg #[.int .i64 x0, .int .i64 x1, .int .i64 x2, .int .i64 x3, .int .i64 5, .int .i64 0, .int .i64 0, .int .i64 0, .int .i64 0]) (.agg #[.int .i64 x0, .int .i64 x1, .int .i64 x2, .int .i64 x3, .int .i64 5, .int .i64 0, .int .i64 0, .int .i64 0, .int .i64 0])).run Try.prog w = .ok true w :=
    fun w => eq_ints .i64 w 9998 9 [x0, x1, x2, x3, 5, 0, 0, 0, 0] Try.underlying71 Try.underlying3 hi (by kernel_rfl) rfl
  have C1 := Hd.mk (fun w g hg => heRow3 [(x0, 4), (x1, 4), (x2, 2), (x3, 2), (5, 1)] 5 #[.int .i64 x0, .int .i64 x1, .int .i64 x2, .int .i64 x3, .int .i64 5] #[.int .i64 4, .int .i64 4, .int .i64 2, .int .i64 2, .int .i64 1] 2 3 w g hg rfl rfl rfl (by simp) (by omega) r1 hr1)
  have HX := Hd.mk hx; have HLEN := Hd.mk hlen; have HBY := Hd.mk hby; have HSD := Hd.mk hsd; have HSB := Hd.mk hsb; have HEQ := Hd.mk heq; have HL1 := Hd.mk hl1; have J := Hd.mk (And.intro hj0 (And.intro hj1 (And.intro hj2 hj3)))
  have BB := Hd.mk (And.intro b0 (And.intro b1 (And.intro b2 (And.intro b3 (And.intro b5 (And.intro b7 b8))))))
  obtain ⟨p0, q0⟩ := b0; obtain ⟨p1, q1⟩ := b1; obtain ⟨p2, q2⟩ := b2; obtain ⟨p3, q3⟩ := b3; obtain ⟨p5, q5⟩ := b5; obtain ⟨p7, q7⟩ := b7; obtain ⟨p8, q8⟩ := b8
  clear hx hlen hby hsd hsb heq hr1 hl1 hxs hi hj0 hj1 hj2 hj3
  go_enter Try.func12, Try.ntmps12
  go_wp2_with fail
  with_reducible refine (C1.out _ _ (by simp)).mono ?_
  intro e w1 h1
  obtain ⟨v1, rfl, own1, B1⟩ := h1
  have hA : Blk w1 (w.heap.size + 1) #[.int .i64 x0, .int .i64 x1, .int .i64 x2, .int .i64 x3, .int .i64 5, .int .i64 x5, .int .i64 1, .int .i64 x7, .int .i64 x8] 71 := by
    have := (Blk.new (w.alloc (.cells #[.int .i64 1, .int .i64 2, .int .i64 5] 3)) #[.int .i64 x0, .int .i64 x1, .int .i64 x2, .int .i64 x3, .int .i64 5, .int .i64 x5, .int .i64 1, .int .i64 x7, .int .i64 x8] 71).below B1 (by simp)
    simpa using this
  have HB := Hd.mk (((((Below.refl _ w).alloc (Nat.le_refl _) (.cells #[.int .i64 1, .int .i64 2, .int .i64 5] 3)).alloc (by simp) (.cells #[.int .i64 x0, .int .i64 x1, .int .i64 x2, .int .i64 x3, .int .i64 5, .int .i64 x5, .int .i64 1, .int .i64 x7, .int .i64 x8] 71))).trans (B1.mono (by simp; omega)))
  have O1 := Hd.mk (own_base own1 (B' := w.heap.size + 2) (by simp))
  have HA := Hd.mk hA; have S1 := Hd.mk B1.size; have HL := Hd.mk (hA.lt)
  have d0 : w1.cell? ⟨w.heap.size + 1, 0, none⟩ = some (.int .i64 x0) := hA.cell 0 rfl
  have d1 : w1.cell? ⟨w.heap.size + 1, 1, none⟩ = some (.int .i64 x1) := hA.cell 1 rfl
  have d2 : w1.cell? ⟨w.heap.size + 1, 2, none⟩ = some (.int .i64 x2) := hA.cell 2 rfl
  have d3 : w1.cell? ⟨w.heap.size + 1, 3, none⟩ = some (.int .i64 x3) := hA.cell 3 rfl
  have d4 : w1.cell? ⟨w.heap.size + 1, 4, none⟩ = some (.int .i64 5) := hA.cell 4 rfl
  have d5 : w1.cell? ⟨w.heap.size + 1, 5, none⟩ = some (.int .i64 x5) := hA.cell 5 rfl
  have d6 : w1.cell? ⟨w.heap.size + 1, 6, none⟩ = some (.int .i64 1) := hA.cell 6 rfl
  have d7 : w1.cell? ⟨w.heap.size + 1, 7, none⟩ = some (.int .i64 x7) := hA.cell 7 rfl
  have d8 : w1.cell? ⟨w.heap.size + 1, 8, none⟩ = some (.int .i64 x8) := hA.cell 8 rfl
  have NB := Hd.mk (Blk.new w1 #[.int .i64 x0, .int .i64 x1, .int .i64 x2, .int .i64 x3, .int .i64 5, .int .i64 0, .int .i64 0, .int .i64 0, .int .i64 0] 71)
  clear own1 B1 hA C1
  have O1b := O1.out.alloc (.cells #[.int .i64 x0, .int .i64 x1, .int .i64 x2, .int .i64 x3, .int .i64 5, .int .i64 0, .int .i64 0, .int .i64 0, .int .i64 0] 71)
  have HB2 := Hd.mk (HB.out.alloc HB.out.size (.cells #[.int .i64 x0, .int .i64 x1, .int .i64 x2, .int .i64 x3, .int .i64 5, .int .i64 0, .int .i64 0, .int .i64 0, .int .i64 0] 71))
  have HA2 := Hd.mk (HA.out.alloc (.cells #[.int .i64 x0, .int .i64 x1, .int .i64 x2, .int .i64 x3, .int .i64 5, .int .i64 0, .int .i64 0, .int .i64 0, .int .i64 0] 71))
  have NB2 := NB
  go_wp2_with (at_builtin; refine wpList_append_own_zeros rfl _ _ 23 3 rfl (w.heap.size + 2) 5 j0 (.int .u8 0) .i64 .i64 Try.underlying23 Try.underlying3 J.out.1 J.out.2.1 J.out.2.2.1 rfl rfl _ _ _ rfl O1b 11 11 rfl rfl (by decide) ?c3 ?c4 ?c5 ?_)
  case c3 => rw [HL1.out]; decide
  case c4 => rw [HL1.out, J.out.2.2.2]; decide
  case c5 => have h2 := HL.out; simp; omega
  intro v3 w3 own3 G3
  have e3 : bc r1 ++ List.replicate 11 (.int .u8 0) = bc xs := by rw [← HX.out]; simp only [bc, List.map_append, List.map_replicate]
  have e4 : r1.length + 11 = xs.length := by rw [HLEN.out, HL1.out]
  change w3.ownsRow _ _ _ _ _ (bc r1 ++ List.replicate 11 (.int .u8 0)) at own3
  rw [e3, e4] at own3
  have lto := O1.out.lt
  have hA3 := HA2.out.grown G3 (fun h => by have := lto _ h; omega)
  have hN3 := NB2.out.grown G3 (fun h => by have := lto _ h; omega)
  obtain ⟨A3, c3, rfl, _, _, rd3, _, _⟩ := own_rd own3 (by rw [HLEN.out]; decide)
  have hB3 := HB2.out.grown G3 HB2.out.size (fun k hk => by have := lto _ hk; omega)
  have hne := own_ne own3 hN3 (by decide)
  have HNE := Hd.mk hne; have O3 := Hd.mk own3; have HB3 := Hd.mk hB3; have HA3 := Hd.mk hA3; have HN3 := Hd.mk hN3; have SW := Hd.mk S1.out
  have a0 : w3.cell? ⟨w.heap.size + 1, 0, none⟩ = some (.int .i64 x0) := hA3.cell 0 rfl
  have a1 : w3.cell? ⟨w.heap.size + 1, 1, none⟩ = some (.int .i64 x1) := hA3.cell 1 rfl
  have a2 : w3.cell? ⟨w.heap.size + 1, 2, none⟩ = some (.int .i64 x2) := hA3.cell 2 rfl
  have a3 : w3.cell? ⟨w.heap.size + 1, 3, none⟩ = some (.int .i64 x3) := hA3.cell 3 rfl
  have a4 : w3.cell? ⟨w.heap.size + 1, 4, none⟩ = some (.int .i64 5) := hA3.cell 4 rfl
  have a5 : w3.cell? ⟨w.heap.size + 1, 5, none⟩ = some (.int .i64 x5) := hA3.cell 5 rfl
  have a6 : w3.cell? ⟨w.heap.size + 1, 6, none⟩ = some (.int .i64 1) := hA3.cell 6 rfl
  have a7 : w3.cell? ⟨w.heap.size + 1, 7, none⟩ = some (.int .i64 x7) := hA3.cell 7 rfl
  have a8 : w3.cell? ⟨w.heap.size + 1, 8, none⟩ = some (.int .i64 x8) := hA3.cell 8 rfl
  have hne1 : w.heap.size + 1 ≠ w1.heap.size := by have := HA.out.lt; omega
  clear own3 G3 lto hA3 hN3 hB3 rd3 hne e3 e4 O1b HA2 HB2 O1 HB HA
  go_wp2_with fail
  obtain ⟨W, hW⟩ : ∃ W, W = w3 := ⟨_, rfl⟩
  subst hW
  have hA4 := HA3.out; have hN4 := HN3.out; have hO4 := O3.out; have hB4 := HB3.out
  clear a0 a1 a2 a3 a4 a5 a6 a7 a8
  have HN4 := Hd.mk hN4; have HO4 := Hd.mk hO4; have HB4 := Hd.mk hB4
  clear hA4 hN4 hO4 hB4 HA3 HN3 O3 HB3 HNE
  with_reducible refine (HSB.out _).mono ?_
  intro e w5 h1
  obtain ⟨A, c, rfl, k1, k2, k3, _, _, k4⟩ := h1.rd (by rw [HLEN.out]; omega)
  have HO5 := Hd.mk (own_below HO4.out k4); have HN5 := Hd.mk (HN4.out.below k4 HN4.out.lt); have HB5 := Hd.mk (HB4.out.trans (k4.mono HB4.out.size))
  have K3 := Hd.mk k3
  have C3 := Hd.mk (segmentOf A _ c xs w5 k3 k1 k2 HBY.out (by rw [HLEN.out]; omega) x0 x1 x2 x3 5 0 0 0 0 false rfl HSD.out BB.out.1 BB.out.2.1 BB.out.2.2.1 BB.out.2.2.2.1 (by decide) (by decide) (by decide) (by decide))
  clear h1 k1 k2 k3 k4 HSB HN4 HO4 HB4 HSD BB
  go_wp2_with fail
  with_reducible refine C3.out.mono ?_
  rintro e w6 ⟨rfl, hb⟩
  have hN6 := HN5.out.below hb HN5.out.lt
  obtain ⟨_, _, he, _, _, R2, _, _⟩ := own_rd (own_below HO5.out hb) (by rw [HLEN.out]; decide)
  cases he
  have s1 := str_run (P := Try.prog) (src := 23) (dst := 9) (c := c) Try.underlying23 Try.underlying5 Try.underlying9 ((K3.out.below hb).below ((Below.refl _ _).alloc (Nat.le_refl _) (.cells #[.int .i64 x0, .int .i64 x1, .int .i64 x2, .int .i64 x3, .int .i64 5, .int .i64 0, .int .i64 0, .int .i64 0, .int .i64 0] 71)))
  have s2 := str_run (P := Try.prog) (src := 23) (dst := 9) (c := c3) Try.underlying23 Try.underlying5 Try.underlying9 (R2.below ((Below.refl _ _).alloc (Nat.le_refl _) (.cells #[.int .i64 x0, .int .i64 x1, .int .i64 x2, .int .i64 x3, .int .i64 5, .int .i64 0, .int .i64 0, .int .i64 0, .int .i64 0] 71)))
  have B6 := Hd.mk (HB5.out.trans (hb.mono HB5.out.size))
  have n0 : w6.cell? ⟨w1.heap.size, 0, none⟩ = some (.int .i64 x0) := hN6.cell 0 rfl
  have n1 : w6.cell? ⟨w1.heap.size, 1, none⟩ = some (.int .i64 x1) := hN6.cell 1 rfl
  have n2 : w6.cell? ⟨w1.heap.size, 2, none⟩ = some (.int .i64 x2) := hN6.cell 2 rfl
  have n3 : w6.cell? ⟨w1.heap.size, 3, none⟩ = some (.int .i64 x3) := hN6.cell 3 rfl
  have n4 : w6.cell? ⟨w1.heap.size, 4, none⟩ = some (.int .i64 5) := hN6.cell 4 rfl
  have n5 : w6.cell? ⟨w1.heap.size, 5, none⟩ = some (.int .i64 0) := hN6.cell 5 rfl
  have n6 : w6.cell? ⟨w1.heap.size, 6, none⟩ = some (.int .i64 0) := hN6.cell 6 rfl
  have n7 : w6.cell? ⟨w1.heap.size, 7, none⟩ = some (.int .i64 0) := hN6.cell 7 rfl
  have n8 : w6.cell? ⟨w1.heap.size, 8, none⟩ = some (.int .i64 0) := hN6.cell 8 rfl
  have hlt := hN6.lt
  have heq := HEQ.out
  clear hb C3 hN6 R2 K3 HN5 HO5 HB5 HEQ
  go_wp2
  go_ret
  exact ⟨by simp, B6.out.alloc B6.out.size _⟩
theorem FnSegment (a0 a1 a2 a3 a4 a5 : Int) (a6 : Bool) (a7 a8 : Int) (w : World) (h0 : (Lit.int .i32 a0).wf = true) (h1 : (Lit.int .i32 a1).wf = true) (h2 : (Lit.int .i16 a2).wf = true) (h3 : (Lit.int .i16 a3).wf = true) (h4 : (Lit.int .i8 a4).wf = true) (h5 : (Lit.int .i8 a5).wf = true) (h7 : (Lit.int .i8 a7).wf = true) (h8 : (Lit.int .i16 a8).wf = true) :
    Calls Try.prog 12 #[.int .i32 a0, .int .i32 a1, .int .i16 a2, .int .i16 a3, .int .i8 a4, .int .i8 a5, .bool a6, .int .i8 a7, .int .i16 a8] w fun e w' => e = .returned (.bool true) ∧ Below w.heap.size w w' := by
  have b := And.intro (bounds_i32 h0) (And.intro (bounds_i32 h1) (And.intro (bounds_i16 h2) (And.intro (bounds_i16 h3) (And.intro (bounds_i8 h5) (And.intro (bounds_i8 h7) (bounds_i16 h8))))))
  rcases (by omega : a4 % 256 % 3 = 0 ∨ a4 % 256 % 3 = 1 ∨ a4 % 256 % 3 = 2) with hk | hk | hk <;> cases a6
  · exact law_segment1false a0 a1 a2 a3 a4 a5 a7 a8 b.1 b.2.1 b.2.2.1 b.2.2.2.1 b.2.2.2.2.1 b.2.2.2.2.2.1 b.2.2.2.2.2.2 w hk
  · exact law_segment1true a0 a1 a2 a3 a4 a5 a7 a8 b.1 b.2.1 b.2.2.1 b.2.2.2.1 b.2.2.2.2.1 b.2.2.2.2.2.1 b.2.2.2.2.2.2 w hk
  · exact law_segment2false a0 a1 a2 a3 a4 a5 a7 a8 b.1 b.2.1 b.2.2.1 b.2.2.2.1 b.2.2.2.2.1 b.2.2.2.2.2.1 b.2.2.2.2.2.2 w hk
  · exact law_segment2true a0 a1 a2 a3 a4 a5 a7 a8 b.1 b.2.1 b.2.2.1 b.2.2.2.1 b.2.2.2.2.1 b.2.2.2.2.2.1 b.2.2.2.2.2.2 w hk
  · exact law_segment5false a0 a1 a2 a3 a4 a5 a7 a8 b.1 b.2.1 b.2.2.1 b.2.2.2.1 b.2.2.2.2.1 b.2.2.2.2.2.1 b.2.2.2.2.2.2 w hk
  · exact law_segment5true a0 a1 a2 a3 a4 a5 a7 a8 b.1 b.2.1 b.2.2.1 b.2.2.2.1 b.2.2.2.2.1 b.2.2.2.2.2.1 b.2.2.2.2.2.2 w hk
end Go.Proofs.Ytbohjafchfeheaa.Kb
