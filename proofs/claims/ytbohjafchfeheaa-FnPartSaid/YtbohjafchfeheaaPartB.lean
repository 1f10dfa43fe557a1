/- The walk of FnPart: the header of a part as bytes, and read back. -/
import Derived.Test.YtbohjafchfeheaaPartA
import Derived.Test.YtbohjafchfeheaaArrs
namespace Go.Proofs.Ytbohjafchfeheaa.Kb
open Go Go.RowKit
set_option linter.unusedVariables false
set_option linter.unusedSimpArgs false
set_option maxHeartbeats 1000000
set_option maxRecDepth 100000 in
theorem zzPart_new (x0 x1 x2 x3 x4 x5 : Int) (b0 : -128 ≤ x0 ∧ x0 ≤ 127) (b1 : -128 ≤ x1 ∧ x1 ≤ 127) (b2 : -32768 ≤ x2 ∧ x2 ≤ 32767) (b3 : -2147483648 ≤ x3 ∧ x3 ≤ 2147483647) (b4 : -2147483648 ≤ x4 ∧ x4 ≤ 2147483647) (b5 : -2147483648 ≤ x5 ∧ x5 ≤ 2147483647) (w : World) :
    Calls Try.prog 75 #[.agg #[.int .i64 x0, .int .i64 x1, .int .i64 x2, .int .i64 x3, .int .i64 x4, .int .i64 x5]] w fun e w' => e = .returned (.pointer (some ⟨w.heap.size + 1, 0, none⟩)) ∧
      Blk w' (w.heap.size + 1) #[.int .i8 x0, .int .i8 x1, .int .i16 x2, .int .i32 x3, .int .i32 x4, .int .i32 x5] 164 ∧ Below w.heap.size w w' := by
  obtain ⟨p0, q0⟩ := b0; obtain ⟨p1, q1⟩ := b1; obtain ⟨p2, q2⟩ := b2; obtain ⟨p3, q3⟩ := b3; obtain ⟨p4, q4⟩ := b4; obtain ⟨p5, q5⟩ := b5
  go_enter Try.func75, Try.ntmps75
  go_wp2
  go_ret
  exact ⟨rfl, by have := Blk.new (w.alloc (.cells #[.int .i64 x0, .int .i64 x1, .int .i64 x2, .int .i64 x3, .int .i64 x4, .int .i64 x5] 51)) #[.int .i8 x0, .int .i8 x1, .int .i16 x2, .int .i32 x3, .int .i32 x4, .int .i32 x5] 164; simpa using this, ((Below.refl _ _).alloc (Nat.le_refl _) _).alloc (by simp) _⟩
set_option maxRecDepth 100000 in
theorem zzPart (eb sb wr tb : Nat) (x0 x1 x2 x3 x4 x5 : Int) (b0 : -128 ≤ x0 ∧ x0 ≤ 127) (b1 : -128 ≤ x1 ∧ x1 ≤ 127) (b2 : -32768 ≤ x2 ∧ x2 ≤ 32767) (b3 : -2147483648 ≤ x3 ∧ x3 ≤ 2147483647) (b4 : -2147483648 ≤ x4 ∧ x4 ≤ 2147483647) (b5 : -2147483648 ≤ x5 ∧ x5 ≤ 2147483647) (w : World) (h : Enc0 w eb sb wr tb) :
    Calls Try.prog 49 #[.pointer (some ⟨eb, 0, none⟩), .agg #[.int .i64 x0, .int .i64 x1, .int .i64 x2, .int .i64 x3, .int .i64 x4, .int .i64 x5]] w fun e w' => e = .returned (.tuple #[]) ∧ Sent w sb wr (leB 1 x0 ++ (leB 1 x1 ++ (leB 2 x2 ++ (leB 4 x3 ++ (leB 4 x4 ++ (leB 4 x5)))))) w' := by
  have hb : Below w.heap.size w (w.alloc (.cells #[.int .i64 x0, .int .i64 x1, .int .i64 x2, .int .i64 x3, .int .i64 x4, .int .i64 x5] 51)) := (Below.refl _ _).alloc (Nat.le_refl _) _
  have C := Hd.mk (zzPart_new x0 x1 x2 x3 x4 x5 b0 b1 b2 b3 b4 b5 (w.alloc (.cells #[.int .i64 x0, .int .i64 x1, .int .i64 x2, .int .i64 x3, .int .i64 x4, .int .i64 x5] 51)))
  have HB := Hd.mk hb; have H1 := Hd.mk (h.below hb); have L2 := Hd.mk h.b2.lt; have L3 := Hd.mk h.b3.lt
  clear hb h b0 b1 b2 b3 b4 b5
  go_enter Try.func49, Try.ntmps49
  go_wp2_with fail
  with_reducible refine C.out.mono ?_
  rintro e w1 ⟨rfl, hg, hl⟩
  simp only [World.size_alloc] at hg
  have h2 := H1.out.below hl
  have hE := Enc.start h2.b1 h2.b2 h2.b3 h2.n1 h2.n2 h2.n3
  have C2 := Hd.mk (enc_partHeader _ _ _ hE _ x0 x1 x2 x3 x4 x5 hg hg.lt (by have := L2.out; simp; omega) (by have := L3.out; simp; omega) (by simp))
  have HL := Hd.mk (HB.out.trans (hl.mono (by simp)))
  clear hg hl h2 hE C
  go_wp2_with fail
  with_reducible refine C2.out.mono ?_
  rintro e w2 ⟨rfl, hw⟩
  have HW := Hd.mk (Sent.of hw rfl rfl HL.out.size HL.out)
  clear hw C2
  go_wp2
  go_end0
  exact ⟨rfl, HW.out⟩
set_option maxRecDepth 100000 in
theorem partBytes (x0 x1 x2 x3 x4 x5 : Int) (b0 : -128 ≤ x0 ∧ x0 ≤ 127) (b1 : -128 ≤ x1 ∧ x1 ≤ 127) (b2 : -32768 ≤ x2 ∧ x2 ≤ 32767) (b3 : -2147483648 ≤ x3 ∧ x3 ≤ 2147483647) (b4 : -2147483648 ≤ x4 ∧ x4 ≤ 2147483647) (b5 : -2147483648 ≤ x5 ∧ x5 ≤ 2147483647) (w : World) :
    Calls Try.prog 22 #[.agg #[.int .i64 x0, .int .i64 x1, .int .i64 x2, .int .i64 x3, .int .i64 x4, .int .i64 x5]] w fun e w' => Made w (leB 1 x0 ++ (leB 1 x1 ++ (leB 2 x2 ++ (leB 4 x3 ++ (leB 4 x4 ++ (leB 4 x5)))))) e w' := by
  have hA := (Blk.new w #[.int .i64 x0, .int .i64 x1, .int .i64 x2, .int .i64 x3, .int .i64 x4, .int .i64 x5] 51).alloc (.cells #[.slice none 0 0] 103)
  have hW := Blk.new (w.alloc (.cells #[.int .i64 x0, .int .i64 x1, .int .i64 x2, .int .i64 x3, .int .i64 x4, .int .i64 x5] 51)) #[.slice none 0 0] 103
  simp only [World.size_alloc] at hW
  have hB : Below w.heap.size w ((w.alloc (.cells #[.int .i64 x0, .int .i64 x1, .int .i64 x2, .int .i64 x3, .int .i64 x4, .int .i64 x5] 51)).alloc (.cells #[.slice none 0 0] 103)) := ((Below.refl _ _).alloc (Nat.le_refl _) _).alloc (by simp) _
  have HA := Hd.mk hA; have HW := Hd.mk hW; have HB := Hd.mk hB
  have D0 := Hd.mk b0; have D1 := Hd.mk b1; have D2 := Hd.mk b2; have D3 := Hd.mk b3; have D4 := Hd.mk b4; have D5 := Hd.mk b5
  clear hA hW hB b0 b1 b2 b3 b4 b5
  go_enter Try.func22, Try.ntmps22
  go_wp2_with fail
  obtain ⟨W, hWW⟩ : ∃ W, W = (w.alloc (.cells #[.int .i64 x0, .int .i64 x1, .int .i64 x2, .int .i64 x3, .int .i64 x4, .int .i64 x5] 51)).alloc (.cells #[.slice none 0 0] 103) := ⟨_, rfl⟩
  rw [← hWW]
  have hs : W.heap.size = w.heap.size + 1 + 1 := by rw [hWW]; simp
  rw [← hWW] at HA HW HB
  have HS := Hd.mk hs
  clear hWW hs
  have a0 : W.cell? ⟨w.heap.size, 0, none⟩ = some (.int .i64 x0) := HA.out.cell 0 rfl
  have a1 : W.cell? ⟨w.heap.size, 1, none⟩ = some (.int .i64 x1) := HA.out.cell 1 rfl
  have a2 : W.cell? ⟨w.heap.size, 2, none⟩ = some (.int .i64 x2) := HA.out.cell 2 rfl
  have a3 : W.cell? ⟨w.heap.size, 3, none⟩ = some (.int .i64 x3) := HA.out.cell 3 rfl
  have a4 : W.cell? ⟨w.heap.size, 4, none⟩ = some (.int .i64 x4) := HA.out.cell 4 rfl
  have a5 : W.cell? ⟨w.heap.size, 5, none⟩ = some (.int .i64 x5) := HA.out.cell 5 rfl
  go_region_with (first | (go_at_call 50; (with_reducible refine (encoder_new _ _).mono ?_); intro e w1 h1; obtain ⟨eb, sb, tb, rfl, he, k1, k2, k3, hl⟩ := Enc0.of (w := W.drew) HW.out.drew h1; have b0 : w1.cell? ⟨w.heap.size, 0, none⟩ = some (.int .i64 x0) := (HA.out.drew.below hl HA.out.lt).cell 0 rfl; have b1 : w1.cell? ⟨w.heap.size, 1, none⟩ = some (.int .i64 x1) := (HA.out.drew.below hl HA.out.lt).cell 1 rfl; have b2 : w1.cell? ⟨w.heap.size, 2, none⟩ = some (.int .i64 x2) := (HA.out.drew.below hl HA.out.lt).cell 2 rfl; have b3 : w1.cell? ⟨w.heap.size, 3, none⟩ = some (.int .i64 x3) := (HA.out.drew.below hl HA.out.lt).cell 3 rfl; have b4 : w1.cell? ⟨w.heap.size, 4, none⟩ = some (.int .i64 x4) := (HA.out.drew.below hl HA.out.lt).cell 4 rfl; have b5 : w1.cell? ⟨w.heap.size, 5, none⟩ = some (.int .i64 x5) := (HA.out.drew.below hl HA.out.lt).cell 5 rfl; have HE := Hd.mk he; have HL := Hd.mk hl; have K2 := Hd.mk k2; clear h1 he hl k1 k2 k3) | (go_at_call 49; (with_reducible refine (zzPart eb sb _ tb x0 x1 x2 x3 x4 x5 D0.out D1.out D2.out D3.out D4.out D5.out _ HE.out).mono ?_); rintro e w2 ⟨rfl, hsent⟩))
  all_goals
    obtain ⟨v, hv, hown, hb⟩ := hsent
    have c : w2.cell? ⟨w.heap.size + 1, 0, none⟩ = some v := hv.cell 0 rfl
    have hL : Below w.heap.size w w1 := HB.out.drew.trans (HL.out.mono (by have := HS.out; simp; omega))
    have HO := Hd.mk (own_base hown hL.size)
    have HB2 := Hd.mk (Bel.to' ((Bel.of hL).trans (hb.weak hL.size (S' := [sb, w.heap.size + 1]) (fun x hx _ => hx))) (by have := K2.out; have := HS.out; simp at *; omega))
    clear hv hown hb hL
    go_wp2
    refine bodyPost_ret (v := v) (by simp [results, Try.results22, go_sem]) rfl ⟨_, rfl, HO.out, HB2.out⟩
set_option maxRecDepth 100000 in
theorem law_part (a0 a1 a2 a3 a4 a5 : Int) (w : World) (b0 : -128 ≤ a0 ∧ a0 ≤ 127) (b1 : -128 ≤ a1 ∧ a1 ≤ 127) (b2 : -32768 ≤ a2 ∧ a2 ≤ 32767) (b3 : -2147483648 ≤ a3 ∧ a3 ≤ 2147483647) (b4 : -2147483648 ≤ a4 ∧ a4 ≤ 2147483647) (b5 : -2147483648 ≤ a5 ∧ a5 ≤ 2147483647) :
    Calls Try.prog 8 #[.int .i8 a0, .int .i8 a1, .int .i16 a2, .int .i32 a3, .int .i32 a4, .int .i32 a5] w fun e w' => e = .returned (.bool true) ∧ Below w.heap.size w w' := by
  obtain ⟨xs, hxs⟩ : ∃ xs, xs = leB 1 a0 ++ (leB 1 a1 ++ (leB 2 a2 ++ (leB 4 a3 ++ (leB 4 a4 ++ (leB 4 a5))))) := ⟨_, rfl⟩
  have hlen : xs.length = 16 := by rw [hxs]; simp [leB_len]
  have hby : ∀ x ∈ xs, 0 ≤ x ∧ x < 256 := by
    rw [hxs]
    exact bytes_append (leB_byte _ _) (bytes_append (leB_byte _ _) (bytes_append (leB_byte _ _) (bytes_append (leB_byte _ _) (bytes_append (leB_byte _ _) (leB_byte _ _)))))
  have hrow : rowB [(a0, 1), (a1, 1), (a2, 2), (a3, 4), (a4, 4), (a5, 4)] = xs := by rw [hxs]; simp [rowB]
  have hx2 : xs = leB 1 a0 ++ (leB 1 a1 ++ (leB 2 a2 ++ (leB 4 a3 ++ (leB 4 a4 ++ (leB 4 a5 ++ []))))) := by rw [hxs]; simp
  have e0 : IntKind.i8.wrap (numL xs 0 1) = a0 := by rw [hx2, num_here]; simp [IntKind.wrap, IntKind.bits, IntKind.signed]; omega
  have e1 : IntKind.i8.wrap (numL xs 1 1) = a1 := by rw [hx2, num_next 1 1 0, num_here]; simp [IntKind.wrap, IntKind.bits, IntKind.signed]; omega
  have e2 : IntKind.i16.wrap (numL xs 2 2) = a2 := by rw [hx2, num_next 1 2 1, num_next 1 2 0, num_here]; simp [IntKind.wrap, IntKind.bits, IntKind.signed]; omega
  have e3 : wrap32 (numL xs 4 4) = a3 := by rw [hx2, num_next 1 4 3, num_next 1 4 2, num_next 2 4 0, num_here]; unfold wrap32; omega
  have e4 : wrap32 (numL xs 8 4) = a4 := by rw [hx2, num_next 1 4 7, num_next 1 4 6, num_next 2 4 4, num_next 4 4 0, num_here]; unfold wrap32; omega
  have e5 : wrap32 (numL xs 12 4) = a5 := by rw [hx2, num_next 1 4 11, num_next 1 4 10, num_next 2 4 8, num_next 4 4 4, num_next 4 4 0, num_here]; unfold wrap32; omega
  have C1 := Hd.mk (fun w => partBytes a0 a1 a2 a3 a4 a5 b0 b1 b2 b3 b4 b5 w)
  rw [← hxs] at C1
  have HLEN := Hd.mk hlen; have HBY := Hd.mk hby; have HROW := Hd.mk hrow; have E0 := Hd.mk e0; have E1 := Hd.mk e1; have E2 := Hd.mk e2; have E3 := Hd.mk e3; have E4 := Hd.mk e4; have E5 := Hd.mk e5
  have D0 := Hd.mk b0; have D1 := Hd.mk b1; have D2 := Hd.mk b2; have D3 := Hd.mk b3; have D4 := Hd.mk b4; have D5 := Hd.mk b5
  obtain ⟨p0, q0⟩ := b0; obtain ⟨p1, q1⟩ := b1; obtain ⟨p2, q2⟩ := b2; obtain ⟨p3, q3⟩ := b3; obtain ⟨p4, q4⟩ := b4; obtain ⟨p5, q5⟩ := b5
  obtain ⟨i0, hi, _⟩ := info_of infoI
  have heq : ∀ w, (Op.equalIn 10000 51 (.agg #[.int .i64 a0, .int .i64 a1, .int .i64 a2, .int .i64 a3, .int .i64 a4, .int .i64 a5]) (.agg #[.int .i64 a0, .int .i64 a1, .int .i64 a2, .int .i64 a3, .int .i64 a4, .int .i64 a5])).run Try.prog w = .ok true w :=
    fun w => eq_ints .i64 w 9998 6 [a0, a1, a2, a3, a4, a5] Try.underlying51 Try.underlying3 hi (by kernel_rfl) rfl
  clear hlen hby hrow e0 e1 e2 e3 e4 e5 hx2 hxs hi
  have HEQ := Hd.mk heq
  clear heq
  go_enter Try.func8, Try.ntmps8
  go_wp2_with fail
  with_reducible refine (C1.out _).mono ?_
  intro e w1 h1
  obtain ⟨A, c, rfl, k1, k2, k3, _, _, k4⟩ := h1.rd (by rw [HLEN.out]; omega)
  have hA : Blk w1 w.heap.size #[.int .i64 a0, .int .i64 a1, .int .i64 a2, .int .i64 a3, .int .i64 a4, .int .i64 a5] 51 := (Blk.new w _ _).below k4 (by simp)
  have HA := Hd.mk hA; have K1 := Hd.mk k1; have K2 := Hd.mk k2; have K3 := Hd.mk k3
  have K4 := Hd.mk (((Below.refl _ w).alloc (Nat.le_refl _) (.cells #[.int .i64 a0, .int .i64 a1, .int .i64 a2, .int .i64 a3, .int .i64 a4, .int .i64 a5] 51)).trans (k4.mono (by simp)))
  clear h1 k1 k2 k3 k4 C1 hA
  go_wp2_with fail
  have C2 := heRow2 [(a0, 1), (a1, 1), (a2, 2), (a3, 4), (a4, 4), (a5, 4)] 6 #[.int .i64 a0, .int .i64 a1, .int .i64 a2, .int .i64 a3, .int .i64 a4, .int .i64 a5] #[.int .i64 1, .int .i64 1, .int .i64 2, .int .i64 4, .int .i64 4, .int .i64 4] 2 3 w1 rfl rfl rfl (by simp) (by omega) xs HROW.out
  with_reducible refine C2.mono ?_
  intro e w2 h1
  obtain ⟨A2, c2, rfl, _, _, k3, _, _, k4⟩ := h1.rd (by rw [HLEN.out]; omega)
  have R1 := Hd.mk (K3.out.below k4); have R2 := Hd.mk k3; have B2 := Hd.mk (K4.out.trans (k4.mono K4.out.size)); have HA2 := Hd.mk (HA.out.below k4 HA.out.lt)
  clear h1 k3 k4 C2 K3 K4 HA
  go_wp2_with fail
  have C3 := partOf A _ c xs w2 R1.out K1.out K2.out HBY.out (by rw [HLEN.out]; omega) a0 a1 a2 a3 a4 a5 E0.out E1.out E2.out E3.out E4.out E5.out D0.out D1.out D2.out D3.out D4.out D5.out
  with_reducible refine C3.mono ?_
  rintro e w3 ⟨rfl, hb⟩
  have hA3 := HA2.out.below hb HA2.out.lt
  have s1 := str_run (P := Try.prog) (src := 23) (dst := 9) (c := c) Try.underlying23 Try.underlying5 Try.underlying9 ((R1.out.below hb).below ((Below.refl _ _).alloc (Nat.le_refl _) (.cells #[.int .i64 a0, .int .i64 a1, .int .i64 a2, .int .i64 a3, .int .i64 a4, .int .i64 a5] 51)))
  have s2 := str_run (P := Try.prog) (src := 23) (dst := 9) (c := c2) Try.underlying23 Try.underlying5 Try.underlying9 ((R2.out.below hb).below ((Below.refl _ _).alloc (Nat.le_refl _) (.cells #[.int .i64 a0, .int .i64 a1, .int .i64 a2, .int .i64 a3, .int .i64 a4, .int .i64 a5] 51)))
  have B3 := Hd.mk (B2.out.trans (hb.mono B2.out.size))
  have c0 : w3.cell? ⟨w.heap.size, 0, none⟩ = some (.int .i64 a0) := hA3.cell 0 rfl
  have c1 : w3.cell? ⟨w.heap.size, 1, none⟩ = some (.int .i64 a1) := hA3.cell 1 rfl
  have c2' : w3.cell? ⟨w.heap.size, 2, none⟩ = some (.int .i64 a2) := hA3.cell 2 rfl
  have c3 : w3.cell? ⟨w.heap.size, 3, none⟩ = some (.int .i64 a3) := hA3.cell 3 rfl
  have c4 : w3.cell? ⟨w.heap.size, 4, none⟩ = some (.int .i64 a4) := hA3.cell 4 rfl
  have c5 : w3.cell? ⟨w.heap.size, 5, none⟩ = some (.int .i64 a5) := hA3.cell 5 rfl
  have hlt := hA3.lt
  have heq := HEQ.out
  clear hb C3 hA3 R1 R2 HA2 E0 E1 E2 E3 E4 E5 D0 D1 D2 D3 D4 D5 HEQ
  go_wp2
  go_ret
  exact ⟨by simp, B3.out.alloc B3.out.size _⟩
theorem FnPart (a0 a1 a2 a3 a4 a5 : Int) (w : World) (h0 : (Lit.int .i8 a0).wf = true) (h1 : (Lit.int .i8 a1).wf = true) (h2 : (Lit.int .i16 a2).wf = true) (h3 : (Lit.int .i32 a3).wf = true) (h4 : (Lit.int .i32 a4).wf = true) (h5 : (Lit.int .i32 a5).wf = true) :
    Calls Try.prog 8 #[.int .i8 a0, .int .i8 a1, .int .i16 a2, .int .i32 a3, .int .i32 a4, .int .i32 a5] w fun e w' => e = .returned (.bool true) ∧ Below w.heap.size w w' :=
  law_part a0 a1 a2 a3 a4 a5 w (bounds_i8 h0) (bounds_i8 h1) (bounds_i16 h2) (bounds_i32 h3) (bounds_i32 h4) (bounds_i32 h5)
end Go.Proofs.Ytbohjafchfeheaa.Kb
