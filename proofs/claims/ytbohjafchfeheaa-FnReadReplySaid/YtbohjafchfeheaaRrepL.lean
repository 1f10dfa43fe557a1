/- The walk of FnReadReply: the law. -/
import Derived.Test.YtbohjafchfeheaaRrepB
import Derived.Test.YtbohjafchfeheaaLenOf
namespace Go.Proofs.Ytbohjafchfeheaa.Kb
open Go Go.RowKit Go.Joins
set_option linter.unusedVariables false
set_option linter.unusedSimpArgs false
set_option maxHeartbeats 1000000
abbrev known17 : Array Value := #[.int .u8 1, .int .u8 0, .int .u8 0, .int .u8 0, .int .u8 0, .int .u8 0, .int .u8 0, .int .u8 0, .int .u8 2, .int .u8 1, .int .u8 0, .int .u8 0, .int .u8 0, .int .u8 0, .int .u8 0, .int .u8 0, .int .u8 9]
theorem rd_known (w : World) : Rd (w.alloc (.cells known17 5)) [] (some ⟨w.heap.size, 0, none⟩) 17 [1, 0, 0, 0, 0, 0, 0, 0, 2, 1, 0, 0, 0, 0, 0, 0, 9] :=
  by
  refine rd_row (Blk.new w known17 5) [1, 0, 0, 0, 0, 0, 0, 0, 2, 1, 0, 0, 0, 0, 0, 0, 9] (fun j hj => ?_) (by decide)
  simp at hj
  rcases (by omega : j = 0 ∨ j = 1 ∨ j = 2 ∨ j = 3 ∨ j = 4 ∨ j = 5 ∨ j = 6 ∨ j = 7 ∨ j = 8 ∨ j = 9 ∨ j = 10 ∨ j = 11 ∨ j = 12 ∨ j = 13 ∨ j = 14 ∨ j = 15 ∨ j = 16) with rfl | rfl | rfl | rfl | rfl | rfl | rfl | rfl | rfl | rfl | rfl | rfl | rfl | rfl | rfl | rfl | rfl <;> rfl
theorem rd_three (w : World) (g : Nat) (q0 q1 q2 : Int) (h : Blk w g #[.int .u8 q0, .int .u8 q1, .int .u8 q2] 47) : Rd w [] (some ⟨g, 0, none⟩) 3 [q0, q1, q2] := by
  refine rd_row h [q0, q1, q2] (fun j hj => ?_) (by simp)
  simp at hj
  rcases (by omega : j = 0 ∨ j = 1 ∨ j = 2) with rfl | rfl | rfl <;> rfl
set_option maxRecDepth 100000 in
theorem law_readReply (id o q0 q1 q2 : Int) (A : Option Addr) (n c m : Nat) (xs : List Int) (w : World) (hm : n ≤ 200 ∧ m = n ∨ 200 < n ∧ m = 200) (hbig : n ≤ 2147483647) (hmc : m ≤ c) (hcc : c ≤ 9223372036854775807) (hr : Rd w [] A m xs) (hby : ∀ x ∈ xs, 0 ≤ x ∧ x < 256)
    (b0 : 0 ≤ id ∧ id < 18446744073709551616) (b1 : 0 ≤ o ∧ o < 256) (b2 : 0 ≤ q0 ∧ q0 < 256) (b3 : 0 ≤ q1 ∧ q1 < 256) (b4 : 0 ≤ q2 ∧ q2 < 256) :
    Calls Try.prog 7 #[.int .u64 id, .int .u8 o, .slice A n c, .agg #[.int .u8 q0, .int .u8 q1, .int .u8 q2]] w fun e w' => e = .returned (.bool true) ∧ Below w.heap.size w w' := by
  have hm2 : m ≤ 200 := by omega
  have hxl : xs.length = m := hr.len
  obtain ⟨r1, hr1⟩ : ∃ r1, rowB [(IntKind.i64.wrap id, 8), (o, 1), ((m : Int), 4)] = r1 := ⟨_, rfl⟩
  obtain ⟨B, hB⟩ : ∃ B, B = r1 ++ [q0, q1, q2] ++ xs := ⟨_, rfl⟩
  have hB2 : B = leB 8 (IntKind.i64.wrap id) ++ (leB 1 o ++ (leB 4 (m : Int) ++ (q0 :: q1 :: q2 :: xs))) := by rw [hB, ← hr1]; simp [rowB]
  have hl1 : r1.length = 13 := by rw [← hr1]; simp [rowB, leB_len]
  have hlen : B.length = 16 + xs.length := by rw [hB]; simp [hl1]; omega
  have hbyB : ∀ x ∈ B, 0 ≤ x ∧ x < 256 := by
    rw [hB2]
    refine bytes_append (leB_byte _ _) (bytes_append (leB_byte _ _) (bytes_append (leB_byte _ _) ?_))
    intro x hx
    simp at hx
    rcases hx with rfl | rfl | rfl | hx
    · exact b2
    · exact b3
    · exact b4
    · exact hby x hx
  have p64 : ((256 ^ 8 : Nat) : Int) = 18446744073709551616 := by decide
  have p32 : ((256 ^ 4 : Nat) : Int) = 4294967296 := by decide
  have e0 : numL B 0 8 = id := by rw [hB2, num_here, p64, IntKind.wrap_i64]; omega
  obtain ⟨oo, hoo⟩ : ∃ oo, IntKind.i8.wrap o = oo := ⟨_, rfl⟩
  have e1 : IntKind.i8.wrap (numL B 8 1) = oo := by rw [← hoo, hB2, num_next 8 1 0, num_here]; simp [IntKind.wrap, IntKind.bits, IntKind.signed]
  have e2 : wrap32 (numL B 9 4) = xs.length := by rw [hB2, num_next 8 4 1, num_next 1 4 0, num_here, p32, hxl]; unfold wrap32; omega
  have hdr : B.drop 16 = xs := by
    rw [hB, List.drop_append_of_le_length (by simp [hl1]), List.drop_eq_nil_of_le (by simp [hl1]), List.nil_append]
  have o0 : -128 ≤ oo ∧ oo ≤ 127 := by rw [← hoo]; simp [IntKind.wrap, IntKind.bits, IntKind.signed]; omega
  obtain ⟨j0, hj0, hj1, hj2, hj3⟩ := info_of infoB
  have C1 := Hd.mk (fun w g hg => heRow3d [(IntKind.i64.wrap id, 8), (o, 1), ((m : Int), 4)] 3 #[.int .i64 (IntKind.i64.wrap id), .int .i64 o, .int .i64 (m : Int)] #[.int .i64 8, .int .i64 1, .int .i64 4] 2 3 w g hg rfl rfl rfl (by simp) (by omega) r1 hr1)
  have C2 := Hd.mk (fun w g hg => heRow3bd [(IntKind.i64.wrap id, 8), (o, 1), ((m : Int), 4)] 3 #[.int .i64 (IntKind.i64.wrap id), .int .i64 o, .int .i64 (m : Int)] #[.int .i64 8, .int .i64 1, .int .i64 4] 2 3 w g hg rfl rfl rfl (by simp) (by omega) r1 hr1)
  have NA := Hd.mk (Blk.new w #[.int .u8 q0, .int .u8 q1, .int .u8 q2] 47)
  have HB0 := Hd.mk ((Below.refl w.heap.size w).alloc (Nat.le_refl _) (.cells #[.int .u8 q0, .int .u8 q1, .int .u8 q2] 47))
  have HR := Hd.mk hr; have HXL := Hd.mk hxl; have HLEN := Hd.mk hlen; have HBY := Hd.mk hbyB; have E0 := Hd.mk e0; have E1 := Hd.mk e1; have E2 := Hd.mk e2; have HDR := Hd.mk hdr; have O0 := Hd.mk o0; have HL1 := Hd.mk hl1; have HOO := Hd.mk hoo; have HBB := Hd.mk hB; have J := Hd.mk (And.intro hj0 (And.intro hj1 (And.intro hj2 hj3)))
  obtain ⟨l0, u0⟩ := b0; obtain ⟨l1, u1⟩ := b1
  have hwo : IntKind.i64.wrap o = o := by rw [IntKind.wrap_i64]; omega
  have hnb : ¬ (2147483647 : Int) < n := by omega
  clear hoo hr hxl hlen hbyB e0 e1 e2 hdr o0 hl1 hB hB2 hr1 hby hj0 hj1 hj2 hj3 b2 b3 b4 p64 p32 u0
  rcases hm with ⟨hm, rfl⟩ | ⟨hm, rfl⟩
  · have hmi : min (m : Int) 200 = m := by omega
    go_enter Try.func7, Try.ntmps7
    go_wp2
    go_region_law (first | (refine step_append_rd rfl (.tmp 32) (.tmp 33) 23 rfl (w.heap.size + 1) 5 j0 (.int .u8 0) Try.underlying23 J.out.1 J.out.2.1 J.out.2.2.1 J.out.2.2.2 rfl v1 r1.length (bc r1) (by simp [Act.eval, Act.put]) O1.out (some ⟨w.heap.size, 0, none⟩) 3 3 [q0, q1, q2] (by simp [Act.eval, Act.put]) R1.out (by rw [HL1.out]; decide) S1.out ?_; intro v2 w2 own2 G2) | (go_simp; go_at_call 18; (first | (with_reducible refine (C1.out _ _ (by simp)).mono ?_) | (with_reducible refine (C2.out _ _ (by simp)).mono ?_)); intro e w1 h1; obtain ⟨v1, rfl, own1, B1⟩ := h1; have O1 := Hd.mk (own_base own1 (B' := w.heap.size + 1) (by simp)); have R1 := Hd.mk (rd_three w1 w.heap.size q0 q1 q2 (NA.out.drew.below B1 (by simp))); have HB1 := Hd.mk (HB0.out.drew.trans (B1.mono (by simp))); have S1 := Hd.mk (show w.heap.size + 1 ≤ w1.heap.size by have := B1.size; simpa using this); clear own1 B1))
    all_goals
      have lt1 := O1.out.lt
      have hB2 := HB1.out.grown G2 HB1.out.size (fun k hk => by have := lt1 k hk; omega)
      have R2 := Hd.mk (HR.out.below hB2); have O2 := Hd.mk own2; have HB2 := Hd.mk hB2
      have S2 := Hd.mk (Nat.le_trans S1.out G2.size)
      clear own2 G2 lt1 hB2 O1 R1 HB1 S1 C1 C2
      go_wp2_with (at_builtin; refine wpList_append_rd rfl _ _ 23 rfl (w.heap.size + 1) 5 j0 (.int .u8 0) Try.underlying23 J.out.1 J.out.2.1 J.out.2.2.1 J.out.2.2.2 rfl _ _ _ rfl O2.out A _ c xs rfl R2.out ?c0 ?c1 ?_)
      case c0 => rw [HL1.out]; omega
      case c1 => exact S2.out
      intro v3 w3 own3 G3
      have e3 : bc r1 ++ (Value.int .u8 q0 :: Value.int .u8 q1 :: Value.int .u8 q2 :: bc xs) = bc B := by rw [HBB.out]; simp [bc]
      have e4 : r1.length + 3 + m = B.length := by have h1 := HLEN.out; have h2 := HXL.out; have h3 := HL1.out; omega
      rw [e3, e4] at own3
      obtain ⟨A3, c3, rfl, k1, k2, R3, _, _⟩ := own_rd own3 (by rw [HLEN.out, HXL.out]; omega)
      have C3 := Hd.mk (readReplyOf A3 _ c3 B id oo xs w3 R3 k1 k2 HBY.out HLEN.out (by rw [HXL.out]; omega) E0.out E1.out E2.out HDR.out O0.out)
      have hB3 := HB2.out.grown G3 HB2.out.size (fun k hk => by have := O2.out.lt k hk; omega)
      have HB3 := Hd.mk hB3; have HR3 := Hd.mk (HR.out.below hB3)
      clear own3 G3 e3 e4 k1 k2 R3 hB3 O2 R2 HB2 S2
      go_wp2_with fail
      with_reducible refine C3.out.mono ?_
      intro e w4 h4
      obtain ⟨A4, c4, rfl, R5, hb⟩ := h4
      have C4 := Hd.mk (readReplyOf (some ⟨w4.heap.size, 0, none⟩) 17 17 [1, 0, 0, 0, 0, 0, 0, 0, 2, 1, 0, 0, 0, 0, 0, 0, 9] 1 2 [9] (w4.alloc (.cells known17 5)) (rd_known w4) (by omega) (by decide) (by decide) rfl (by decide) (by decide +kernel) (by decide +kernel) (by decide +kernel) rfl (by decide))
      have HB4 := Hd.mk ((HB3.out.trans (hb.mono HB3.out.size)).alloc (Nat.le_trans HB3.out.size hb.size) (.cells known17 5))
      have HR4 := Hd.mk (HR3.out.below hb); have HR5 := Hd.mk R5
      clear R5 hb C3 HB3 HR3
      go_wp2_with fail
      with_reducible refine C4.out.mono ?_
      intro e w6 h6
      obtain ⟨A6, c6, rfl, _, hb⟩ := h6
      have s1 := str_run (P := Try.prog) (src := 23) (dst := 9) (c := c4) Try.underlying23 Try.underlying5 Try.underlying9 ((HR5.out.below ((Below.refl _ _).alloc (Nat.le_refl _) (.cells known17 5))).below hb)
      have s2 := str_run (P := Try.prog) (src := 23) (dst := 9) (c := c) Try.underlying23 Try.underlying5 Try.underlying9 ((HR4.out.below ((Below.refl _ _).alloc (Nat.le_refl _) (.cells known17 5))).below hb)
      have HB6 := Hd.mk (HB4.out.trans (hb.mono HB4.out.size))
      have hoo := HOO.out
      obtain ⟨o1, o2⟩ := O0.out
      clear hb C4 HB4 HR4 HR5
      go_wp2
      go_ret
      exact ⟨by simp, HB6.out⟩
  · have hmi : min (n : Int) 200 = 200 := by omega
    have hC1 := C1.out
    have hC2 := C2.out
    rw [show ((200 : Nat) : Int) = 200 from rfl] at hC1 hC2
    have C1 := Hd.mk hC1
    have C2 := Hd.mk hC2
    clear hC1 hC2
    go_enter Try.func7, Try.ntmps7
    go_wp2
    go_region_law (first | (refine step_append_rd rfl (.tmp 32) (.tmp 33) 23 rfl (w.heap.size + 1) 5 j0 (.int .u8 0) Try.underlying23 J.out.1 J.out.2.1 J.out.2.2.1 J.out.2.2.2 rfl v1 r1.length (bc r1) (by simp [Act.eval, Act.put]) O1.out (some ⟨w.heap.size, 0, none⟩) 3 3 [q0, q1, q2] (by simp [Act.eval, Act.put]) R1.out (by rw [HL1.out]; decide) S1.out ?_; intro v2 w2 own2 G2) | (go_simp; go_at_call 18; (first | (with_reducible refine (C1.out _ _ (by simp)).mono ?_) | (with_reducible refine (C2.out _ _ (by simp)).mono ?_)); intro e w1 h1; obtain ⟨v1, rfl, own1, B1⟩ := h1; have O1 := Hd.mk (own_base own1 (B' := w.heap.size + 1) (by simp)); have R1 := Hd.mk (rd_three w1 w.heap.size q0 q1 q2 (NA.out.drew.below B1 (by simp))); have HB1 := Hd.mk (HB0.out.drew.trans (B1.mono (by simp))); have S1 := Hd.mk (show w.heap.size + 1 ≤ w1.heap.size by have := B1.size; simpa using this); clear own1 B1))
    all_goals
      have lt1 := O1.out.lt
      have hB2 := HB1.out.grown G2 HB1.out.size (fun k hk => by have := lt1 k hk; omega)
      have R2 := Hd.mk (HR.out.below hB2); have O2 := Hd.mk own2; have HB2 := Hd.mk hB2
      have S2 := Hd.mk (Nat.le_trans S1.out G2.size)
      clear own2 G2 lt1 hB2 O1 R1 HB1 S1 C1 C2
      go_wp2_with (at_builtin; refine wpList_append_rd rfl _ _ 23 rfl (w.heap.size + 1) 5 j0 (.int .u8 0) Try.underlying23 J.out.1 J.out.2.1 J.out.2.2.1 J.out.2.2.2 rfl _ _ _ rfl O2.out A _ c xs rfl R2.out ?c0 ?c1 ?_)
      case c0 => rw [HL1.out]; omega
      case c1 => exact S2.out
      intro v3 w3 own3 G3
      have e3 : bc r1 ++ (Value.int .u8 q0 :: Value.int .u8 q1 :: Value.int .u8 q2 :: bc xs) = bc B := by rw [HBB.out]; simp [bc]
      have e4 : r1.length + 3 + 200 = B.length := by have h1 := HLEN.out; have h2 := HXL.out; have h3 := HL1.out; omega
      rw [e3, e4] at own3
      obtain ⟨A3, c3, rfl, k1, k2, R3, _, _⟩ := own_rd own3 (by rw [HLEN.out, HXL.out]; omega)
      have C3 := Hd.mk (readReplyOf A3 _ c3 B id oo xs w3 R3 k1 k2 HBY.out HLEN.out (by rw [HXL.out]; omega) E0.out E1.out E2.out HDR.out O0.out)
      have hB3 := HB2.out.grown G3 HB2.out.size (fun k hk => by have := O2.out.lt k hk; omega)
      have HB3 := Hd.mk hB3; have HR3 := Hd.mk (HR.out.below hB3)
      clear own3 G3 e3 e4 k1 k2 R3 hB3 O2 R2 HB2 S2
      go_wp2_with fail
      with_reducible refine C3.out.mono ?_
      intro e w4 h4
      obtain ⟨A4, c4, rfl, R5, hb⟩ := h4
      have C4 := Hd.mk (readReplyOf (some ⟨w4.heap.size, 0, none⟩) 17 17 [1, 0, 0, 0, 0, 0, 0, 0, 2, 1, 0, 0, 0, 0, 0, 0, 9] 1 2 [9] (w4.alloc (.cells known17 5)) (rd_known w4) (by omega) (by decide) (by decide) rfl (by decide) (by decide +kernel) (by decide +kernel) (by decide +kernel) rfl (by decide))
      have HB4 := Hd.mk ((HB3.out.trans (hb.mono HB3.out.size)).alloc (Nat.le_trans HB3.out.size hb.size) (.cells known17 5))
      have HR4 := Hd.mk (HR3.out.below hb); have HR5 := Hd.mk R5
      clear R5 hb C3 HB3 HR3
      go_wp2_with fail
      with_reducible refine C4.out.mono ?_
      intro e w6 h6
      obtain ⟨A6, c6, rfl, _, hb⟩ := h6
      have s1 := str_run (P := Try.prog) (src := 23) (dst := 9) (c := c4) Try.underlying23 Try.underlying5 Try.underlying9 ((HR5.out.below ((Below.refl _ _).alloc (Nat.le_refl _) (.cells known17 5))).below hb)
      have s2 := str_run (P := Try.prog) (src := 23) (dst := 9) (c := c) Try.underlying23 Try.underlying5 Try.underlying9 ((HR4.out.below ((Below.refl _ _).alloc (Nat.le_refl _) (.cells known17 5))).below hb)
      have HB6 := Hd.mk (HB4.out.trans (hb.mono HB4.out.size))
      have hoo := HOO.out
      obtain ⟨o1, o2⟩ := O0.out
      clear hb C4 HB4 HR4 HR5
      go_wp2
      go_ret
      exact ⟨by simp, HB6.out⟩
theorem FnReadReply (id o : Int) (a : Option Addr) (len cap : Nat) (zs : List Int) (q0 q1 q2 : Int) (w : World) (h0 : (Lit.int .u64 id).wf = true) (h1 : (Lit.int .u8 o).wf = true) (h : (a = none ∧ len = 0 ∧ cap = 0 ∧ zs = []) ∨ ∃ x, a = some x ∧ len ≤ cap ∧ cap ≤ maxLen ∧ zs.length = cap ∧ (∀ i, i < zs.length → w.cell? (x.add i) = some (.int .u8 (zs.getD i 0))) ∧ ∀ n ∈ zs, (Lit.int .u8 n).wf = true) (hs : len * 1 ≤ 140737488351232)
    (h2 : (Lit.int .u8 q0).wf = true) (h3 : (Lit.int .u8 q1).wf = true) (h4 : (Lit.int .u8 q2).wf = true) :
    Calls Try.prog 7 #[.int .u64 id, .int .u8 o, .slice a len cap, .agg #[.int .u8 q0, .int .u8 q1, .int .u8 q2]] w fun e w' => e = .returned (.bool true) ∧ Below w.heap.size w w' := by
  by_cases hbig : len > 2147483647
  · have hbig' : (2147483647 : Int) < len := by omega
    clear h hs
    go_enter Try.func7, Try.ntmps7
    go_wp2
    go_ret
    exact ⟨rfl, (Below.refl _ _).alloc (Nat.le_refl _) _⟩
  obtain ⟨k1, k2, k3, k4⟩ := rd_row_in h hs
  unfold maxLen at k2
  obtain ⟨m, hm⟩ : ∃ m : Nat, len ≤ 200 ∧ m = len ∨ 200 < len ∧ m = 200 := by
    by_cases h : len ≤ 200
    · exact ⟨len, .inl ⟨h, rfl⟩⟩
    · exact ⟨200, .inr ⟨by omega, rfl⟩⟩
  have hr := k3.first m (by omega)
  have b0 := bounds_u64 h0
  have b1 := bounds_u8 h1; have b2 := bounds_u8 h2; have b3 := bounds_u8 h3; have b4 := bounds_u8 h4
  exact law_readReply id o q0 q1 q2 a len cap m _ w hm (by omega) (by omega) k2 hr (fun x hx => k4 x (List.mem_of_mem_take hx)) (by omega) (by omega) (by omega) (by omega) (by omega)
end Go.Proofs.Ytbohjafchfeheaa.Kb
