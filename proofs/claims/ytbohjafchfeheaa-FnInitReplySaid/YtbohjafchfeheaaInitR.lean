/- The walk of FnInitReply: the reply to the request of a connection, read. -/
import Derived.Test.YtbohjafchfeheaaHdr
import Derived.Test.YtbohjafchfeheaaArrs
namespace Go.Proofs.Ytbohjafchfeheaa.Kb
open Go Go.RowKit
set_option linter.unusedVariables false
set_option linter.unusedSimpArgs false
set_option maxHeartbeats 1000000
set_option maxRecDepth 100000 in
theorem zzInitReplyOf (K : DK) (w : World) (h : Dec K w 0 .nilIface) (fit : 8 ≤ K.xs.length) (x0 x1 x2 x3 : Int) (e0 : IntKind.i8.wrap (K.num 0 1) = x0) (e1 : IntKind.i16.wrap (K.num 1 2) = x1) (e2 : IntKind.i8.wrap (K.num 3 1) = x2) (e3 : IntKind.i16.wrap (K.num 4 2) = x3)
    (b0 : -128 ≤ x0 ∧ x0 ≤ 127) (b1 : -32768 ≤ x1 ∧ x1 ≤ 32767) (b2 : -128 ≤ x2 ∧ x2 ≤ 127) (b3 : -32768 ≤ x3 ∧ x3 ≤ 32767) :
    Calls Try.prog 43 #[.pointer (some ⟨K.d, 0, none⟩)] w fun e w' => e = .returned (.tuple #[.agg #[.int .i64 x0, .int .i64 x1, .int .i64 x2, .int .i64 x3], .nilIface]) ∧ Dec K w' 8 .nilIface ∧ Bel w.heap.size [K.d, K.sb] w w' := by
  obtain ⟨p0, q0⟩ := b0; obtain ⟨p1, q1⟩ := b1; obtain ⟨p2, q2⟩ := b2; obtain ⟨p3, q3⟩ := b3
  have hrd := h.b.rd.more (S' := [w.heap.size]) (fun x hx _ => by simp at hx; omega)
  have hb0 : Below w.heap.size w (w.alloc (.cells #[.int .i64 0, .int .i64 0, .int .i64 0, .int .i64 0] 39)) := (Below.refl _ _).alloc (Nat.le_refl _) _
  have hn0 := Blk.new w #[.int .i64 0, .int .i64 0, .int .i64 0, .int .i64 0] 39
  have E0 := Hd.mk e0; have E1 := Hd.mk e1; have E2 := Hd.mk e2; have E3 := Hd.mk e3
  have g0 : DecG K ((w.alloc (.cells #[.int .i64 0, .int .i64 0, .int .i64 0, .int .i64 0] 39)).alloc (.cells #[.int .i8 0, .int .i16 0, .int .i8 0, .int .i16 0] 143)) 0 (w.heap.size + 1) #[.int .i8 0, .int .i16 0, .int .i8 0, .int .i16 0] 143 := by
    have := DecG.new (h.below hb0) #[.int .i8 0, .int .i16 0, .int .i8 0, .int .i16 0] 143
    simpa using this
  have hr0 : Rd ((w.alloc (.cells #[.int .i64 0, .int .i64 0, .int .i64 0, .int .i64 0] 39)).alloc (.cells #[.int .i8 0, .int .i16 0, .int .i8 0, .int .i16 0] 143)) [w.heap.size] K.ra K.xs.length K.xs := (hrd.below hb0).below ((Below.refl _ _).alloc (Nat.le_refl _) _)
  have R0 := Hd.mk hr0; have S0 := Hd.mk (g0.d.b.rd.join g0.rd)
  have C := Hd.mk (dec_initReply K 0 (w.heap.size + 1) _ g0 (by omega))
  have HB := Hd.mk (hb0.trans (show Below w.heap.size (w.alloc (.cells #[.int .i64 0, .int .i64 0, .int .i64 0, .int .i64 0] 39)) _ from (Below.refl _ _).alloc (by simp) (.cells #[.int .i8 0, .int .i16 0, .int .i8 0, .int .i16 0] 143)))
  have HN := Hd.mk (hn0.alloc (.cells #[.int .i8 0, .int .i16 0, .int .i8 0, .int .i16 0] 143))
  have L1 := Hd.mk h.dlt; have L2 := Hd.mk h.slt
  clear h e0 e1 e2 e3 hb0 hn0 g0 hr0 hrd
  go_enter Try.func43, Try.ntmps43
  go_wp2_with fail
  with_reducible refine C.out.mono ?_
  rintro e w1 ⟨rfl, hg, hb⟩
  simp only [Nat.zero_add] at hg
  rw [E0.out, E1.out, E2.out, E3.out] at hg
  have c0 : w1.cell? ⟨w.heap.size + 1, 0, none⟩ = some (.int .i8 x0) := hg.blk.cell 0 rfl
  have c1 : w1.cell? ⟨w.heap.size + 1, 1, none⟩ = some (.int .i16 x1) := hg.blk.cell 1 rfl
  have c2 : w1.cell? ⟨w.heap.size + 1, 2, none⟩ = some (.int .i8 x2) := hg.blk.cell 2 rfl
  have c3 : w1.cell? ⟨w.heap.size + 1, 3, none⟩ = some (.int .i16 x3) := hg.blk.cell 3 rfl
  have hn : Blk w1 w.heap.size #[.int .i64 0, .int .i64 0, .int .i64 0, .int .i64 0] 39 := HN.out.bel hb HN.out.lt (by have := L1.out; have := L2.out; simp; omega)
  have d0 : w1.cell? ⟨w.heap.size, 0, none⟩ = some (.int .i64 0) := hn.cell 0 rfl
  have d1 : w1.cell? ⟨w.heap.size, 1, none⟩ = some (.int .i64 0) := hn.cell 1 rfl
  have d2 : w1.cell? ⟨w.heap.size, 2, none⟩ = some (.int .i64 0) := hn.cell 2 rfl
  have d3 : w1.cell? ⟨w.heap.size, 3, none⟩ = some (.int .i64 0) := hn.cell 3 rfl
  have f0 := hn.free 0; have f1 := hn.free 1; have f2 := hn.free 2; have f3 := hn.free 3
  have HD := Hd.mk hg.d
  have HL := Hd.mk ((Bel.of (S := [K.d, K.sb]) HB.out).then hb (by simp; omega) (fun x hx hlt => by simp at hx ⊢; omega))
  have HH := Hd.mk hn; have HRd := Hd.mk (R0.out.cross S0.out hb)
  clear hg hb C HB E0 E1 E2 E3 HN hn R0 S0
  go_wp2
  go_region
  go_wp2
  have hb := ((((HH.out.set 0 (.int .i64 x0)).set 1 (.int .i64 x1)).set 2 (.int .i64 x2)).set 3 (.int .i64 x3)).cast (cs' := #[.int .i64 x0, .int .i64 x1, .int .i64 x2, .int .i64 x3]) (by simp)
  refine bodyPost_ret (res_c1 Try.results43 _ _ w.heap.size rfl _ _ _ hb.drew Try.underlying39 rfl (by kernel_rfl)) rfl ⟨rfl, ?_, ?_⟩
  · have hbel : Bel w1.heap.size [w.heap.size] w1 ((((w1.setCell ⟨w.heap.size, 0, none⟩ (.int .i64 x0)).setCell ⟨w.heap.size, 1, none⟩ (.int .i64 x1)).setCell ⟨w.heap.size, 2, none⟩ (.int .i64 x2)).setCell ⟨w.heap.size, 3, none⟩ (.int .i64 x3)).drew :=
      (((((Bel.refl _ _ _).set (.inr (by simp)) _).set (.inr (by simp)) _).set (.inr (by simp)) _).set (.inr (by simp)) _).drew
    exact HD.out.bel hbel (by have := L1.out; simp; omega) (by have := L2.out; simp; omega) (fun x hx => by simp at hx; subst hx; exact .inr HRd.out)
  · exact ((((HL.out.set (.inl (by simp)) _).set (.inl (by simp)) _).set (.inl (by simp)) _).set (.inl (by simp)) _).drew
set_option maxRecDepth 100000 in
theorem initReplyOf (A : Option Addr) (n c : Nat) (xs : List Int) (w : World) (hr : Rd w [] A n xs) (hn : n ≤ c) (hc : c ≤ maxLen) (hby : ∀ x ∈ xs, 0 ≤ x ∧ x < 256) (fit : 8 ≤ xs.length)
    (x0 x1 x2 x3 : Int) (e0 : IntKind.i8.wrap (numL xs 0 1) = x0) (e1 : IntKind.i16.wrap (numL xs 1 2) = x1) (e2 : IntKind.i8.wrap (numL xs 3 1) = x2) (e3 : IntKind.i16.wrap (numL xs 4 2) = x3)
    (b0 : -128 ≤ x0 ∧ x0 ≤ 127) (b1 : -32768 ≤ x1 ∧ x1 ≤ 32767) (b2 : -128 ≤ x2 ∧ x2 ≤ 127) (b3 : -32768 ≤ x3 ∧ x3 ≤ 32767) :
    Calls Try.prog 19 #[.slice A n c] w fun e w' => e = .returned (.tuple #[.agg #[.int .i64 x0, .int .i64 x1, .int .i64 x2, .int .i64 x3], .int .i64 8, .int .i64 0]) ∧ Below w.heap.size w w' := by
  have hB0 : Below w.heap.size w (w.alloc (.cells #[.int .i64 0, .int .i64 0, .int .i64 0, .int .i64 0] 39)) := (Below.refl _ _).alloc (Nat.le_refl _) _
  have hN0 := Blk.new w #[.int .i64 0, .int .i64 0, .int .i64 0, .int .i64 0] 39
  have C := Hd.mk (decoder_new A n c xs false false _ (hr.below hB0) hn hc hby)
  have E0 := Hd.mk e0; have E1 := Hd.mk e1; have E2 := Hd.mk e2; have E3 := Hd.mk e3; have HF := Hd.mk fit; have B0 := Hd.mk hB0; have N0 := Hd.mk hN0; have D0 := Hd.mk b0; have D1 := Hd.mk b1; have D2 := Hd.mk b2; have D3 := Hd.mk b3
  clear hr hn hc hby fit e0 e1 e2 e3 hB0 hN0 b0 b1 b2 b3
  go_enter Try.func19, Try.ntmps19
  go_wp2_with fail
  with_reducible refine C.out.mono ?_
  intro e w1 h1
  obtain ⟨K, rfl, rfl, l1, l2, hd, hb⟩ := h1.to
  have HD := Hd.mk hd; have HB := Hd.mk hb; have L1 := Hd.mk l1; have L2 := Hd.mk l2
  have N1 := Hd.mk (N0.out.below hb (by simp))
  clear h1 hd hb l1 l2 C
  go_wp2_with fail
  have C2 := zzInitReplyOf K w1 HD.out HF.out x0 x1 x2 x3 E0.out E1.out E2.out E3.out D0.out D1.out D2.out D3.out
  with_reducible refine C2.mono ?_
  rintro e w2 ⟨rfl, hd, hb⟩
  have hx1 := L1.out; have hx2 := L2.out
  simp at hx1 hx2
  have hn := N1.out.bel hb N1.out.lt (by simp; omega)
  have HD2 := Hd.mk hd; have HN := Hd.mk hn
  have hbel := (Bel.of (S := [K.d, K.sb]) (B0.out.trans (HB.out.mono (by simp)))).then hb (Nat.le_trans B0.out.size HB.out.size) (fun x hx _ => hx)
  have HB2 := Hd.mk (hbel.to' (fun x hx => by simp at hx; rcases hx with rfl | rfl <;> omega))
  have d0 : w2.cell? ⟨w.heap.size, 0, none⟩ = some (.int .i64 0) := hn.cell 0 rfl
  have d1 : w2.cell? ⟨w.heap.size, 1, none⟩ = some (.int .i64 0) := hn.cell 1 rfl
  have d2 : w2.cell? ⟨w.heap.size, 2, none⟩ = some (.int .i64 0) := hn.cell 2 rfl
  have d3 : w2.cell? ⟨w.heap.size, 3, none⟩ = some (.int .i64 0) := hn.cell 3 rfl
  have f0 := hn.free 0; have f1 := hn.free 1; have f2 := hn.free 2; have f3 := hn.free 3
  have hne : K.d ≠ w.heap.size := by omega
  clear hd hb hn hbel C2 HD HB E0 E1 E2 E3 D0 D1 D2 D3 N0 N1 B0 L1 L2 hx1 hx2
  go_wp2
  obtain ⟨W, hW⟩ : ∃ W, W = (((w2.setCell ⟨w.heap.size, 0, none⟩ (.int .i64 x0)).setCell ⟨w.heap.size, 1, none⟩ (.int .i64 x1)).setCell ⟨w.heap.size, 2, none⟩ (.int .i64 x2)).setCell ⟨w.heap.size, 3, none⟩ (.int .i64 x3) := ⟨_, rfl⟩
  rw [← hW]
  have hn : Blk W w.heap.size #[.int .i64 x0, .int .i64 x1, .int .i64 x2, .int .i64 x3] 39 := by
    rw [hW]
    exact ((((HN.out.set 0 (.int .i64 x0)).set 1 (.int .i64 x1)).set 2 (.int .i64 x2)).set 3 (.int .i64 x3)).cast (by simp)
  have hbw : Bel w2.heap.size [w.heap.size] w2 W := by
    rw [hW]
    exact ((((Bel.refl _ _ _).set (.inr (by simp)) _).set (.inr (by simp)) _).set (.inr (by simp)) _).set (.inr (by simp)) _
  have hblk := HD2.out.b.blk.bel hbw HD2.out.b.blk.lt (by simpa using hne)
  have hbl : Below w.heap.size w W := by
    rw [hW]
    exact (((HB2.out.setCell (Nat.le_refl _) _).setCell (Nat.le_refl _) _).setCell (Nat.le_refl _) _).setCell (Nat.le_refl _) _
  clear hW d0 d1 d2 d3 f0 f1 f2 f3
  have d0 : W.cell? ⟨w.heap.size, 0, none⟩ = some (.int .i64 x0) := hn.cell 0 rfl
  have d1 : W.cell? ⟨w.heap.size, 1, none⟩ = some (.int .i64 x1) := hn.cell 1 rfl
  have d2 : W.cell? ⟨w.heap.size, 2, none⟩ = some (.int .i64 x2) := hn.cell 2 rfl
  have d3 : W.cell? ⟨w.heap.size, 3, none⟩ = some (.int .i64 x3) := hn.cell 3 rfl
  have f0 := hn.free 0; have f1 := hn.free 1; have f2 := hn.free 2; have f3 := hn.free 3
  have HBL := Hd.mk hbl; have HN' := Hd.mk hn
  have C3 := Hd.mk (cnt_blk K.d 8 _ rfl W.drew hblk.drew)
  clear hn hblk hbl hbw HD2 HB2 HN
  go_region_with (go_at_call 44; (with_reducible refine C3.out.mono ?_); rintro e w3 ⟨rfl, rfl⟩)
  all_goals
    go_wp2
    have hb := ((((HN'.out.set 0 (.int .i64 x0)).set 1 (.int .i64 x1)).set 2 (.int .i64 x2)).set 3 (.int .i64 x3)).cast (cs' := #[.int .i64 x0, .int .i64 x1, .int .i64 x2, .int .i64 x3]) (by simp)
    refine bodyPost_ret (res_c2 Try.results19 _ _ w.heap.size rfl _ _ _ hb.drew Try.underlying39 rfl (by kernel_rfl)) rfl ⟨rfl, ?_⟩
    exact ((((HBL.out.setCell (Nat.le_refl _) _).setCell (Nat.le_refl _) _).setCell (Nat.le_refl _) _).setCell (Nat.le_refl _) _).drew
set_option maxRecDepth 100000 in
theorem law_initReply (a0 a1 a2 a3 : Int) (w : World) (b0 : -128 ≤ a0 ∧ a0 ≤ 127) (b1 : -32768 ≤ a1 ∧ a1 ≤ 32767) (b2 : -128 ≤ a2 ∧ a2 ≤ 127) (b3 : -32768 ≤ a3 ∧ a3 ≤ 32767) :
    Calls Try.prog 5 #[.int .i8 a0, .int .i16 a1, .int .i8 a2, .int .i16 a3] w fun e w' => e = .returned (.bool true) ∧ Below w.heap.size w w' := by
  obtain ⟨xs, hxs⟩ : ∃ xs, xs = leB 1 a0 ++ (leB 2 a1 ++ (leB 1 a2 ++ (leB 2 a3 ++ (leB 2 0 ++ [])))) := ⟨_, rfl⟩
  have hlen : xs.length = 8 := by rw [hxs]; simp [leB_len]
  have hby : ∀ x ∈ xs, 0 ≤ x ∧ x < 256 := by
    rw [hxs]
    exact bytes_append (leB_byte _ _) (bytes_append (leB_byte _ _) (bytes_append (leB_byte _ _) (bytes_append (leB_byte _ _) (bytes_append (leB_byte _ _) (by simp)))))
  have e0 : IntKind.i8.wrap (numL xs 0 1) = a0 := by rw [hxs, num_here]; simp [IntKind.wrap, IntKind.bits, IntKind.signed]; omega
  have e1 : IntKind.i16.wrap (numL xs 1 2) = a1 := by rw [hxs, num_next 1 2 0, num_here]; simp [IntKind.wrap, IntKind.bits, IntKind.signed]; omega
  have e2 : IntKind.i8.wrap (numL xs 3 1) = a2 := by rw [hxs, num_next 1 1 2, num_next 2 1 0, num_here]; simp [IntKind.wrap, IntKind.bits, IntKind.signed]; omega
  have e3 : IntKind.i16.wrap (numL xs 4 2) = a3 := by rw [hxs, num_next 1 2 3, num_next 2 2 1, num_next 1 2 0, num_here]; simp [IntKind.wrap, IntKind.bits, IntKind.signed]; omega
  have HLEN := Hd.mk hlen; have HBY := Hd.mk hby; have E0 := Hd.mk e0; have E1 := Hd.mk e1; have E2 := Hd.mk e2; have E3 := Hd.mk e3; have D0 := Hd.mk b0; have D1 := Hd.mk b1; have D2 := Hd.mk b2; have D3 := Hd.mk b3
  obtain ⟨p0, q0⟩ := b0; obtain ⟨p1, q1⟩ := b1; obtain ⟨p2, q2⟩ := b2; obtain ⟨p3, q3⟩ := b3
  have C2 := Hd.mk (heRow2 [(a0, 1), (a1, 2), (a2, 1), (a3, 2), (0, 2)] 5 #[.int .i64 a0, .int .i64 a1, .int .i64 a2, .int .i64 a3, .int .i64 0] #[.int .i64 1, .int .i64 2, .int .i64 1, .int .i64 2, .int .i64 2] 2 3 w rfl rfl rfl (by simp) (by omega) xs hxs.symm)
  obtain ⟨i0, hi, _⟩ := info_of infoI
  have heq : ∀ w, (Op.equalIn 10000 39 (.agg #[.int .i64 a0, .int .i64 a1, .int .i64 a2, .int .i64 a3]) (.agg #[.int .i64 a0, .int .i64 a1, .int .i64 a2, .int .i64 a3])).run Try.prog w = .ok true w :=
    fun w => eq_ints .i64 w 9998 4 [a0, a1, a2, a3] Try.underlying39 Try.underlying3 hi (by kernel_rfl) rfl
  clear hlen hby e0 e1 e2 e3 hxs hi
  go_enter Try.func5, Try.ntmps5
  go_wp2_with fail
  with_reducible refine C2.out.mono ?_
  intro e w1 h1
  obtain ⟨A, c, rfl, k1, k2, k3, _, _, k4⟩ := h1.rd (by rw [HLEN.out]; omega)
  have C3 := Hd.mk (initReplyOf A _ c xs w1 k3 k1 k2 HBY.out (by rw [HLEN.out]; omega) a0 a1 a2 a3 E0.out E1.out E2.out E3.out D0.out D1.out D2.out D3.out)
  have K4 := Hd.mk k4
  clear h1 k1 k2 k3 k4 C2 E0 E1 E2 E3 D0 D1 D2 D3
  go_wp2_with fail
  with_reducible refine C3.out.mono ?_
  rintro e w2 ⟨rfl, hb⟩
  have B2 := Hd.mk (K4.out.trans (hb.mono K4.out.size))
  clear hb C3
  go_wp2
  go_ret
  exact ⟨by simp, B2.out.alloc B2.out.size _⟩
theorem FnInitReply (a0 a1 a2 a3 : Int) (w : World) (h0 : (Lit.int .i8 a0).wf = true) (h1 : (Lit.int .i16 a1).wf = true) (h2 : (Lit.int .i8 a2).wf = true) (h3 : (Lit.int .i16 a3).wf = true) :
    Calls Try.prog 5 #[.int .i8 a0, .int .i16 a1, .int .i8 a2, .int .i16 a3] w fun e w' => e = .returned (.bool true) ∧ Below w.heap.size w w' :=
  law_initReply a0 a1 a2 a3 w (bounds_i8 h0) (bounds_i16 h1) (bounds_i8 h2) (bounds_i16 h3)
end Go.Proofs.Ytbohjafchfeheaa.Kb
