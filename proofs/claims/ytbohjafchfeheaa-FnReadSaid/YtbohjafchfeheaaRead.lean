/- The walk of FnRead: a request for a piece of a lob as bytes, and read back. -/
import Derived.Test.YtbohjafchfeheaaHdr
import Derived.Test.YtbohjafchfeheaaPack
import Derived.OpenShut
namespace Go.Proofs.Ytbohjafchfeheaa.Kb
open Go Go.RowKit
set_option linter.unusedVariables false
set_option linter.unusedSimpArgs false
set_option maxHeartbeats 1000000
set_option maxRecDepth 100000 in
theorem zzRead (eb sb wr tb : Nat) (x0 x1 x2 : Int) (w : World) (h : Enc0 w eb sb wr tb) (l0 : 0 ≤ x0) (u0 : x0 < 18446744073709551616) (m1 : -9223372036854775808 ≤ x1) (m2 : x1 < 9223372036854775807) :
    Calls Try.prog 55 #[.pointer (some ⟨eb, 0, none⟩), .int .u64 x0, .int .i64 x1, .int .i64 x2] w fun e w' => e = .returned (.tuple #[]) ∧ Sent w sb wr (leB 8 x0 ++ (leB 8 (x1 + 1) ++ (leB 4 (wrap32 x2) ++ (List.replicate 4 0)))) w' := by
  have hb : Below w.heap.size w (w.alloc (.cells #[.int .u64 x0, .int .i64 x1, .int .i64 x2] 168)) := (Below.refl _ _).alloc (Nat.le_refl _) _
  have h1 := h.below hb
  have hE := Enc.start h1.b1 h1.b2 h1.b3 h1.n1 h1.n2 h1.n3
  have C := Hd.mk (enc_readLob _ _ _ hE w.heap.size x0 x1 x2 (Blk.new _ _ _) (by simp) (Nat.ne_of_gt h.b2.lt) (Nat.ne_of_gt h.b3.lt) l0 u0 (by simp) m1 m2)
  have HB := Hd.mk hb
  clear hb h1 hE h
  go_enter Try.func55, Try.ntmps55
  go_wp2_with fail
  with_reducible refine C.out.mono ?_
  rintro e w1 ⟨rfl, hw⟩
  have HW := Hd.mk (Sent.of hw rfl rfl (by simp) HB.out)
  clear hw C
  go_wp2
  go_end0
  exact ⟨rfl, HW.out⟩
set_option maxRecDepth 100000 in
theorem readBytes (x0 x1 x2 : Int) (w : World) (l0 : 0 ≤ x0) (u0 : x0 < 18446744073709551616) (m1 : -9223372036854775808 ≤ x1) (m2 : x1 < 9223372036854775807) :
    Calls Try.prog 27 #[.int .u64 x0, .int .i64 x1, .int .i64 x2] w fun e w' => Made w (leB 8 x0 ++ (leB 8 (x1 + 1) ++ (leB 4 (wrap32 x2) ++ (List.replicate 4 0)))) e w' := by
  have hW := Blk.new w #[.slice none 0 0] 103
  have hB : Below w.heap.size w (w.alloc (.cells #[.slice none 0 0] 103)) := (Below.refl _ _).alloc (Nat.le_refl _) _
  have HW := Hd.mk hW; have HB := Hd.mk hB
  clear hW hB
  go_enter Try.func27, Try.ntmps27
  go_wp2_with fail
  with_reducible refine (encoder_new _ _).mono ?_
  intro e w1 h1
  obtain ⟨eb, sb, tb, rfl, he, k1, k2, k3, hl⟩ := Enc0.of HW.out h1
  have HE := Hd.mk he; have HL := Hd.mk (HB.out.trans (hl.mono (by simp))); have K2 := Hd.mk k2
  clear h1 he k1 k2 k3 hl HW HB
  go_wp2_with fail
  with_reducible refine (zzRead eb sb _ tb x0 x1 x2 _ HE.out l0 u0 m1 m2).mono ?_
  rintro e w2 ⟨rfl, v, hv, hown, hb⟩
  have c : w2.cell? ⟨w.heap.size, 0, none⟩ = some v := hv.cell 0 rfl
  have HO := Hd.mk (own_base hown HL.out.size)
  have HB := Hd.mk (Bel.to' ((Bel.of HL.out).trans (hb.weak HL.out.size (S' := [sb, w.heap.size]) (fun x hx _ => hx))) (by have := K2.out; simp at this ⊢; omega))
  clear hv hown hb
  go_wp2
  refine bodyPost_ret (v := v) (by simp [results, Try.results27, go_sem]) rfl ⟨_, rfl, HO.out, HB.out⟩
set_option maxRecDepth 100000 in
theorem zzReadOf (K : DK) (w : World) (h : Dec K w 0 .nilIface) (fit : 24 ≤ K.xs.length) (x0 x1 x2 : Int) (e0 : K.num 0 8 = x0) (e1 : wrap64 (K.num 8 8) = x1) (e2 : wrap32 (K.num 16 4) = x2) :
    Calls Try.prog 56 #[.pointer (some ⟨K.d, 0, none⟩)] w fun e w' => e = .returned (.tuple #[.int .u64 x0, .int .i64 x1, .int .i64 x2]) ∧ Dec K w' 24 .nilIface ∧ Bel w.heap.size [K.d, K.sb] w w' := by
  have C := Hd.mk (dec_readLob K 0 w.heap.size _ (DecG.new h #[.int .u64 0, .int .i64 0, .int .i64 0] 168) (by omega))
  have HB := Hd.mk (show Below w.heap.size w (w.alloc (.cells #[.int .u64 0, .int .i64 0, .int .i64 0] 168)) from (Below.refl _ _).alloc (Nat.le_refl _) _)
  have E0 := Hd.mk e0; have E1 := Hd.mk e1; have E2 := Hd.mk e2
  clear h e0 e1 e2
  go_enter Try.func56, Try.ntmps56
  go_wp2_with fail
  with_reducible refine C.out.mono ?_
  rintro e w1 ⟨rfl, hg, hb⟩
  simp only [Nat.zero_add] at hg
  rw [E0.out, E1.out, E2.out] at hg
  have c0 : w1.cell? ⟨w.heap.size, 0, none⟩ = some (.int .u64 x0) := hg.blk.cell 0 rfl
  have c1 : w1.cell? ⟨w.heap.size, 1, none⟩ = some (.int .i64 x1) := hg.blk.cell 1 rfl
  have c2 : w1.cell? ⟨w.heap.size, 2, none⟩ = some (.int .i64 x2) := hg.blk.cell 2 rfl
  have HD := Hd.mk hg.d
  have HL := Hd.mk ((Bel.of (S := [K.d, K.sb]) HB.out).then hb (by simp) (by simp))
  clear hg hb C HB E0 E1 E2
  go_wp2
  go_quiet (fail)
  go_wp2
  refine bodyPost_ret (v := .tuple #[.int .u64 x0, .int .i64 x1, .int .i64 x2]) (by simp [results, Try.results56, go_sem]) rfl ⟨rfl, HD.out.below ⟨rfl, rfl, rfl, Nat.le_refl _, fun _ _ => rfl⟩, HL.out.trans ⟨rfl, rfl, rfl, Nat.le_refl _, fun _ _ _ => rfl⟩⟩
set_option maxRecDepth 100000 in
theorem readOf (A : Option Addr) (n c : Nat) (xs : List Int) (w : World) (hr : Rd w [] A n xs) (hn : n ≤ c) (hc : c ≤ maxLen) (hby : ∀ x ∈ xs, 0 ≤ x ∧ x < 256) (fit : 24 ≤ xs.length)
    (x0 x1 x2 : Int) (e0 : numL xs 0 8 = x0) (e1 : wrap64 (numL xs 8 8) = x1) (e2 : wrap32 (numL xs 16 4) = x2) :
    Calls Try.prog 28 #[.slice A n c] w fun e w' => e = .returned (.tuple #[.int .u64 x0, .int .i64 x1, .int .i64 x2, .int .i64 0]) ∧ Below w.heap.size w w' := by
  have C := Hd.mk (decoder_new A n c xs false false w hr hn hc hby)
  have E0 := Hd.mk e0; have E1 := Hd.mk e1; have E2 := Hd.mk e2; have HF := Hd.mk fit
  clear hr hn hc hby fit e0 e1 e2
  go_enter Try.func28, Try.ntmps28
  go_wp2_with fail
  with_reducible refine C.out.mono ?_
  intro e w1 h1
  obtain ⟨K, rfl, rfl, l1, l2, hd, hb⟩ := h1.to
  have HD := Hd.mk hd; have HB := Hd.mk hb; have L1 := Hd.mk l1; have L2 := Hd.mk l2
  clear h1 hd hb l1 l2 C
  go_wp2_with fail
  have C2 := zzReadOf K w1 HD.out HF.out x0 x1 x2 E0.out E1.out E2.out
  with_reducible refine C2.mono ?_
  rintro e w2 ⟨rfl, hd, hb⟩
  have HD2 := Hd.mk hd
  have HB2 := Hd.mk (Bel.to' ((Bel.of (S := [K.d, K.sb]) HB.out).then hb HB.out.size (fun x hx _ => hx)) (fun x hx => by have := L1.out; have := L2.out; simp at hx; rcases hx with rfl | rfl <;> omega))
  clear hd hb HD HB E0 E1 E2 L1 L2
  go_wp2_with fail
  with_reducible refine (D_Error K _ _ _ _ HD2.out.b).mono ?_
  rintro e w3 ⟨rfl, rfl⟩
  go_wp2
  refine bodyPost_ret (v := .tuple #[.int .u64 x0, .int .i64 x1, .int .i64 x2, .int .i64 0]) (by simp [results, Try.results28, go_sem]) rfl ⟨rfl, HB2.out⟩
set_option maxRecDepth 100000 in
theorem law_read (a0 a1 a2 : Int) (w : World) (b0 : 0 ≤ a0 ∧ a0 < 18446744073709551616) (b1 : -9223372036854775808 ≤ a1 ∧ a1 < 9223372036854775807) (b2 : -2147483648 ≤ a2 ∧ a2 ≤ 2147483647) (o : Int) (ho : o = a1 ∨ (o = 9223372036854775807 ∧ a1 = 0)) :
    Calls Try.prog 10 #[.int .u64 a0, .int .i64 o, .int .i32 a2] w fun e w' => e = .returned (.bool true) ∧ Below w.heap.size w w' := by
  obtain ⟨xs, hxs⟩ : ∃ xs, xs = leB 8 a0 ++ (leB 8 (a1 + 1) ++ (leB 4 (wrap32 a2) ++ (List.replicate 4 0))) := ⟨_, rfl⟩
  have hw : wrap32 a2 = a2 := by unfold wrap32; omega
  have hlen : xs.length = 24 := by rw [hxs]; simp [leB_len]
  have hby : ∀ x ∈ xs, 0 ≤ x ∧ x < 256 := by
    rw [hxs]
    exact bytes_append (leB_byte _ _) (bytes_append (leB_byte _ _) (bytes_append (leB_byte _ _) (bytes_zero _)))
  have hrow : rowB [(wrap64 a0, 8), (a1 + 1, 8), (a2, 4), (0, 4)] = xs := by
    rw [hxs, hw]
    have e : leB 8 (wrap64 a0) = leB 8 a0 := by
      rw [← leB_mod 8 a0 8 (by omega), ← leB_mod 8 (wrap64 a0) 8 (by omega)]
      congr 1
      unfold wrap64
      have h : ((256 ^ 8 : Nat) : Int) = 18446744073709551616 := by decide
      rw [h]
      omega
    simp only [rowB, e, List.append_nil]
    rfl
  have e0 : numL xs 0 8 = a0 := by rw [hxs, num_here]; omega
  have e1 : wrap64 (numL xs 8 8) = a1 + 1 := by rw [hxs, num_next 8 8 0, num_here]; unfold wrap64; omega
  have e2 : wrap32 (numL xs 16 4) = a2 := by rw [hxs, hw, num_next 8 4 8, num_next 8 4 0, num_here]; unfold wrap32; omega
  have C1 := Hd.mk (fun w => readBytes a0 a1 a2 w b0.1 b0.2 b1.1 b1.2)
  rw [← hxs] at C1
  have HLEN := Hd.mk hlen; have HBY := Hd.mk hby; have HROW := Hd.mk hrow; have E0 := Hd.mk e0; have E1 := Hd.mk e1; have E2 := Hd.mk e2
  obtain ⟨p0, q0⟩ := b0; obtain ⟨p1, q1⟩ := b1; obtain ⟨p2, q2⟩ := b2
  clear hlen hby hrow e0 e1 e2 hxs hw
  rcases ho with rfl | ⟨rfl, rfl⟩
  all_goals
    go_enter Try.func10, Try.ntmps10
    go_wp2_with fail
    with_reducible refine (C1.out _).mono ?_
    intro e w1 h1
    obtain ⟨A, c, rfl, k1, k2, k3, _, _, k4⟩ := h1.rd (by rw [HLEN.out]; omega)
    have K1 := Hd.mk k1; have K2 := Hd.mk k2; have K3 := Hd.mk k3; have K4 := Hd.mk k4
    clear h1 k1 k2 k3 k4 C1
    go_wp2_with fail
  · have C2 := heRow2 [(wrap64 a0, 8), (o + 1, 8), (a2, 4), (0, 4)] 4 #[.int .i64 (wrap64 a0), .int .i64 (o + 1), .int .i64 a2, .int .i64 0] #[.int .i64 8, .int .i64 8, .int .i64 4, .int .i64 4] 2 3 w1 rfl rfl rfl (by simp) (by omega) xs HROW.out
    with_reducible refine C2.mono ?_
    intro e w2 h1
    obtain ⟨A2, c2, rfl, _, _, k3, _, _, k4⟩ := h1.rd (by rw [HLEN.out]; omega)
    have R1 := Hd.mk (K3.out.below k4); have R2 := Hd.mk k3; have B2 := Hd.mk (K4.out.trans (k4.mono K4.out.size))
    clear h1 k3 k4 C2 K3 K4
    go_wp2_with fail
    have C3 := readOf A _ c xs w2 R1.out K1.out K2.out HBY.out (by rw [HLEN.out]; omega) a0 _ a2 E0.out E1.out E2.out
    with_reducible refine C3.mono ?_
    rintro e w3 ⟨rfl, hb⟩
    have s1 := str_run (P := Try.prog) (src := 23) (dst := 9) (c := c) Try.underlying23 Try.underlying5 Try.underlying9 (R1.out.below hb)
    have s2 := str_run (P := Try.prog) (src := 23) (dst := 9) (c := c2) Try.underlying23 Try.underlying5 Try.underlying9 (R2.out.below hb)
    have B3 := Hd.mk (B2.out.trans (hb.mono B2.out.size))
    clear hb C3
    go_wp2
    go_ret
    exact ⟨by simp, B3.out⟩
  · have C2 := heRow2 [(wrap64 a0, 8), (0 + 1, 8), (a2, 4), (0, 4)] 4 #[.int .i64 (wrap64 a0), .int .i64 1, .int .i64 a2, .int .i64 0] #[.int .i64 8, .int .i64 8, .int .i64 4, .int .i64 4] 2 3 w1 rfl rfl rfl (by simp) (by omega) xs HROW.out
    with_reducible refine C2.mono ?_
    intro e w2 h1
    obtain ⟨A2, c2, rfl, _, _, k3, _, _, k4⟩ := h1.rd (by rw [HLEN.out]; omega)
    have R1 := Hd.mk (K3.out.below k4); have R2 := Hd.mk k3; have B2 := Hd.mk (K4.out.trans (k4.mono K4.out.size))
    clear h1 k3 k4 C2 K3 K4
    go_wp2_with fail
    have C3 := readOf A _ c xs w2 R1.out K1.out K2.out HBY.out (by rw [HLEN.out]; omega) a0 _ a2 E0.out E1.out E2.out
    with_reducible refine C3.mono ?_
    rintro e w3 ⟨rfl, hb⟩
    have s1 := str_run (P := Try.prog) (src := 23) (dst := 9) (c := c) Try.underlying23 Try.underlying5 Try.underlying9 (R1.out.below hb)
    have s2 := str_run (P := Try.prog) (src := 23) (dst := 9) (c := c2) Try.underlying23 Try.underlying5 Try.underlying9 (R2.out.below hb)
    have B3 := Hd.mk (B2.out.trans (hb.mono B2.out.size))
    clear hb C3
    go_wp2
    go_ret
    exact ⟨by simp, B3.out⟩
theorem FnRead (a0 a1 a2 : Int) (w : World) (h0 : (Lit.int .u64 a0).wf = true) (h1 : (Lit.int .i64 a1).wf = true) (h2 : (Lit.int .i32 a2).wf = true) :
    Calls Try.prog 10 #[.int .u64 a0, .int .i64 a1, .int .i32 a2] w fun e w' => e = .returned (.bool true) ∧ Below w.heap.size w w' := by
  have b0 := bounds_u64 h0
  have b1 := bounds_i64 h1
  have b2 := bounds_i32 h2
  by_cases h : a1 = 9223372036854775807
  · exact law_read a0 0 a2 w (by omega) (by omega) (by omega) a1 (.inr ⟨h, rfl⟩)
  · exact law_read a0 a1 a2 w (by omega) (by omega) (by omega) a1 (.inl rfl)
end Go.Proofs.Ytbohjafchfeheaa.Kb
