/- The walk of FnPart: the header of a part as bytes, and read back. -/
import Derived.Test.YtbohjafchfeheaaHdr
import Derived.Test.YtbohjafchfeheaaArrs
namespace Go.Proofs.Ytbohjafchfeheaa.Kb
open Go Go.RowKit
set_option linter.unusedVariables false
set_option linter.unusedSimpArgs false
set_option maxHeartbeats 1000000
set_option maxRecDepth 100000 in
theorem zzPartOf (K : DK) (w : World) (h : Dec K w 0 .nilIface) (fit : 16 ≤ K.xs.length) (x0 x1 x2 x3 x4 x5 : Int) (e0 : IntKind.i8.wrap (K.num 0 1) = x0) (e1 : IntKind.i8.wrap (K.num 1 1) = x1) (e2 : IntKind.i16.wrap (K.num 2 2) = x2) (e3 : wrap32 (K.num 4 4) = x3) (e4 : wrap32 (K.num 8 4) = x4) (e5 : wrap32 (K.num 12 4) = x5) (b0 : -128 ≤ x0 ∧ x0 ≤ 127) (b1 : -128 ≤ x1 ∧ x1 ≤ 127) (b2 : -32768 ≤ x2 ∧ x2 ≤ 32767) (b3 : -2147483648 ≤ x3 ∧ x3 ≤ 2147483647) (b4 : -2147483648 ≤ x4 ∧ x4 ≤ 2147483647) (b5 : -2147483648 ≤ x5 ∧ x5 ≤ 2147483647) :
    Calls Try.prog 51 #[.pointer (some ⟨K.d, 0, none⟩)] w fun e w' => e = .returned (.tuple #[.agg #[.int .i64 x0, .int .i64 x1, .int .i64 x2, .int .i64 x3, .int .i64 x4, .int .i64 x5], .nilIface]) ∧ Dec K w' 16 .nilIface ∧ Bel w.heap.size [K.d, K.sb] w w' := by
  obtain ⟨p0, q0⟩ := b0; obtain ⟨p1, q1⟩ := b1; obtain ⟨p2, q2⟩ := b2; obtain ⟨p3, q3⟩ := b3; obtain ⟨p4, q4⟩ := b4; obtain ⟨p5, q5⟩ := b5
  have hrd := h.b.rd.more (S' := [w.heap.size]) (fun x hx _ => by simp at hx; omega)
  have hb0 : Below w.heap.size w (w.alloc (.cells #[.int .i64 0, .int .i64 0, .int .i64 0, .int .i64 0, .int .i64 0, .int .i64 0] 51)) := (Below.refl _ _).alloc (Nat.le_refl _) _
  have hn0 := Blk.new w #[.int .i64 0, .int .i64 0, .int .i64 0, .int .i64 0, .int .i64 0, .int .i64 0] 51
  have E0 := Hd.mk e0; have E1 := Hd.mk e1; have E2 := Hd.mk e2; have E3 := Hd.mk e3; have E4 := Hd.mk e4; have E5 := Hd.mk e5
  have g0 : DecG K ((w.alloc (.cells #[.int .i64 0, .int .i64 0, .int .i64 0, .int .i64 0, .int .i64 0, .int .i64 0] 51)).alloc (.cells #[.int .i8 0, .int .i8 0, .int .i16 0, .int .i32 0, .int .i32 0, .int .i32 0] 164)) 0 (w.heap.size + 1) #[.int .i8 0, .int .i8 0, .int .i16 0, .int .i32 0, .int .i32 0, .int .i32 0] 164 := by
    have := DecG.new (h.below hb0) #[.int .i8 0, .int .i8 0, .int .i16 0, .int .i32 0, .int .i32 0, .int .i32 0] 164
    simpa using this
  have hr0 : Rd ((w.alloc (.cells #[.int .i64 0, .int .i64 0, .int .i64 0, .int .i64 0, .int .i64 0, .int .i64 0] 51)).alloc (.cells #[.int .i8 0, .int .i8 0, .int .i16 0, .int .i32 0, .int .i32 0, .int .i32 0] 164)) [w.heap.size] K.ra K.xs.length K.xs := (hrd.below hb0).below ((Below.refl _ _).alloc (Nat.le_refl _) _)
  have R0 := Hd.mk hr0; have S0 := Hd.mk (g0.d.b.rd.join g0.rd)
  have C := Hd.mk (dec_partHeader K 0 (w.heap.size + 1) _ g0 (by omega))
  have HB := Hd.mk (hb0.trans (show Below w.heap.size (w.alloc (.cells #[.int .i64 0, .int .i64 0, .int .i64 0, .int .i64 0, .int .i64 0, .int .i64 0] 51)) _ from (Below.refl _ _).alloc (by simp) (.cells #[.int .i8 0, .int .i8 0, .int .i16 0, .int .i32 0, .int .i32 0, .int .i32 0] 164)))
  have HN := Hd.mk (hn0.alloc (.cells #[.int .i8 0, .int .i8 0, .int .i16 0, .int .i32 0, .int .i32 0, .int .i32 0] 164))
  have L1 := Hd.mk h.dlt; have L2 := Hd.mk h.slt
  clear h e0 e1 e2 e3 e4 e5 hb0 hn0 g0 hr0 hrd
  go_enter Try.func51, Try.ntmps51
  go_wp2_with fail
  with_reducible refine C.out.mono ?_
  rintro e w1 ⟨rfl, hg, hb⟩
  simp only [Nat.zero_add] at hg
  rw [E0.out, E1.out, E2.out, E3.out, E4.out, E5.out] at hg
  have c0 : w1.cell? ⟨w.heap.size + 1, 0, none⟩ = some (.int .i8 x0) := hg.blk.cell 0 rfl
  have c1 : w1.cell? ⟨w.heap.size + 1, 1, none⟩ = some (.int .i8 x1) := hg.blk.cell 1 rfl
  have c2 : w1.cell? ⟨w.heap.size + 1, 2, none⟩ = some (.int .i16 x2) := hg.blk.cell 2 rfl
  have c3 : w1.cell? ⟨w.heap.size + 1, 3, none⟩ = some (.int .i32 x3) := hg.blk.cell 3 rfl
  have c4 : w1.cell? ⟨w.heap.size + 1, 4, none⟩ = some (.int .i32 x4) := hg.blk.cell 4 rfl
  have c5 : w1.cell? ⟨w.heap.size + 1, 5, none⟩ = some (.int .i32 x5) := hg.blk.cell 5 rfl
  have hn : Blk w1 w.heap.size #[.int .i64 0, .int .i64 0, .int .i64 0, .int .i64 0, .int .i64 0, .int .i64 0] 51 := HN.out.bel hb HN.out.lt (by have := L1.out; have := L2.out; simp; omega)
  have d0 : w1.cell? ⟨w.heap.size, 0, none⟩ = some (.int .i64 0) := hn.cell 0 rfl
  have d1 : w1.cell? ⟨w.heap.size, 1, none⟩ = some (.int .i64 0) := hn.cell 1 rfl
  have d2 : w1.cell? ⟨w.heap.size, 2, none⟩ = some (.int .i64 0) := hn.cell 2 rfl
  have d3 : w1.cell? ⟨w.heap.size, 3, none⟩ = some (.int .i64 0) := hn.cell 3 rfl
  have d4 : w1.cell? ⟨w.heap.size, 4, none⟩ = some (.int .i64 0) := hn.cell 4 rfl
  have d5 : w1.cell? ⟨w.heap.size, 5, none⟩ = some (.int .i64 0) := hn.cell 5 rfl
  have f0 := hn.free 0; have f1 := hn.free 1; have f2 := hn.free 2; have f3 := hn.free 3; have f4 := hn.free 4; have f5 := hn.free 5
  have HD := Hd.mk hg.d
  have HL := Hd.mk ((Bel.of (S := [K.d, K.sb]) HB.out).then hb (by simp; omega) (fun x hx hlt => by simp at hx ⊢; omega))
  have HH := Hd.mk hn; have HRd := Hd.mk (R0.out.cross S0.out hb)
  clear hg hb C HB E0 E1 E2 E3 E4 E5 HN hn R0 S0
  go_wp2
  go_region
  go_wp2
  have hb := (((((((HH.out).set 0 (.int .i64 x0)).set 1 (.int .i64 x1)).set 2 (.int .i64 x2)).set 3 (.int .i64 x3)).set 4 (.int .i64 x4)).set 5 (.int .i64 x5)).cast (cs' := #[.int .i64 x0, .int .i64 x1, .int .i64 x2, .int .i64 x3, .int .i64 x4, .int .i64 x5]) (by simp)
  refine bodyPost_ret (res_c1 Try.results51 _ _ w.heap.size rfl _ _ _ hb.drew Try.underlying51 rfl (by kernel_rfl)) rfl ⟨rfl, ?_, ?_⟩
  · have hbel : Bel w1.heap.size [w.heap.size] w1 (((((((w1).setCell ⟨w.heap.size, 0, none⟩ (.int .i64 x0)).setCell ⟨w.heap.size, 1, none⟩ (.int .i64 x1)).setCell ⟨w.heap.size, 2, none⟩ (.int .i64 x2)).setCell ⟨w.heap.size, 3, none⟩ (.int .i64 x3)).setCell ⟨w.heap.size, 4, none⟩ (.int .i64 x4)).setCell ⟨w.heap.size, 5, none⟩ (.int .i64 x5)).drew :=
      (((((((Bel.refl _ _ _).set (.inr (by simp)) _).set (.inr (by simp)) _).set (.inr (by simp)) _).set (.inr (by simp)) _).set (.inr (by simp)) _).set (.inr (by simp)) _).drew
    exact HD.out.bel hbel (by have := L1.out; simp; omega) (by have := L2.out; simp; omega) (fun x hx => by simp at hx; subst hx; exact .inr HRd.out)
  · exact (((((((HL.out).set (.inl (by simp)) _).set (.inl (by simp)) _).set (.inl (by simp)) _).set (.inl (by simp)) _).set (.inl (by simp)) _).set (.inl (by simp)) _).drew
set_option maxRecDepth 100000 in
theorem partOf (A : Option Addr) (n c : Nat) (xs : List Int) (w : World) (hr : Rd w [] A n xs) (hn : n ≤ c) (hc : c ≤ maxLen) (hby : ∀ x ∈ xs, 0 ≤ x ∧ x < 256) (fit : 16 ≤ xs.length)
    (x0 x1 x2 x3 x4 x5 : Int) (e0 : IntKind.i8.wrap (numL xs 0 1) = x0) (e1 : IntKind.i8.wrap (numL xs 1 1) = x1) (e2 : IntKind.i16.wrap (numL xs 2 2) = x2) (e3 : wrap32 (numL xs 4 4) = x3) (e4 : wrap32 (numL xs 8 4) = x4) (e5 : wrap32 (numL xs 12 4) = x5) (b0 : -128 ≤ x0 ∧ x0 ≤ 127) (b1 : -128 ≤ x1 ∧ x1 ≤ 127) (b2 : -32768 ≤ x2 ∧ x2 ≤ 32767) (b3 : -2147483648 ≤ x3 ∧ x3 ≤ 2147483647) (b4 : -2147483648 ≤ x4 ∧ x4 ≤ 2147483647) (b5 : -2147483648 ≤ x5 ∧ x5 ≤ 2147483647) :
    Calls Try.prog 23 #[.slice A n c] w fun e w' => e = .returned (.tuple #[.agg #[.int .i64 x0, .int .i64 x1, .int .i64 x2, .int .i64 x3, .int .i64 x4, .int .i64 x5], .int .i64 16, .int .i64 0]) ∧ Below w.heap.size w w' := by
  have hB0 : Below w.heap.size w (w.alloc (.cells #[.int .i64 0, .int .i64 0, .int .i64 0, .int .i64 0, .int .i64 0, .int .i64 0] 51)) := (Below.refl _ _).alloc (Nat.le_refl _) _
  have hN0 := Blk.new w #[.int .i64 0, .int .i64 0, .int .i64 0, .int .i64 0, .int .i64 0, .int .i64 0] 51
  have C := Hd.mk (decoder_new A n c xs false false _ (hr.below hB0) hn hc hby)
  have E0 := Hd.mk e0; have E1 := Hd.mk e1; have E2 := Hd.mk e2; have E3 := Hd.mk e3; have E4 := Hd.mk e4; have E5 := Hd.mk e5; have HF := Hd.mk fit; have B0 := Hd.mk hB0; have N0 := Hd.mk hN0; have D0 := Hd.mk b0; have D1 := Hd.mk b1; have D2 := Hd.mk b2; have D3 := Hd.mk b3; have D4 := Hd.mk b4; have D5 := Hd.mk b5
  clear hr hn hc hby fit e0 e1 e2 e3 e4 e5 hB0 hN0 b0 b1 b2 b3 b4 b5
  go_enter Try.func23, Try.ntmps23
  go_wp2_with fail
  with_reducible refine C.out.mono ?_
  intro e w1 h1
  obtain ⟨K, rfl, rfl, l1, l2, hd, hb⟩ := h1.to
  have HD := Hd.mk hd; have HB := Hd.mk hb; have L1 := Hd.mk l1; have L2 := Hd.mk l2
  have N1 := Hd.mk (N0.out.below hb (by simp))
  clear h1 hd hb l1 l2 C
  go_wp2_with fail
  have C2 := zzPartOf K w1 HD.out HF.out x0 x1 x2 x3 x4 x5 E0.out E1.out E2.out E3.out E4.out E5.out D0.out D1.out D2.out D3.out D4.out D5.out
  with_reducible refine C2.mono ?_
  rintro e w2 ⟨rfl, hd, hb⟩
  have hx1 := L1.out; have hx2 := L2.out
  simp at hx1 hx2
  have hn := N1.out.bel hb N1.out.lt (by simp; omega)
  have HD2 := Hd.mk hd; have HN := Hd.mk hn
  have hbel := (Bel.of (S := [K.d, K.sb]) (B0.out.trans (HB.out.mono (by simp)))).then hb (Nat.le_trans B0.out.size HB.out.size) (fun x hx _ => hx)
  have HB2 := Hd.mk (hbel.to' (fun x hx => by simp at hx; rcases hx with rfl | rfl <;> omega))
  have d0 : w2.cell? ⟨w.heap.size, 0, none⟩ = some (.int .i64 0) := hn.cell 0 rfl
  have d1 : w2.cell? ⟨w.heap.size, 1, none⟩ = some (.int .i64 0) := hn.cell 1 rfl
  have d2 : w2.cell? ⟨w.heap.size, 2, none⟩ = some (.int .i64 0) := hn.cell 2 rfl
  have d3 : w2.cell? ⟨w.heap.size, 3, none⟩ = some (.int .i64 0) := hn.cell 3 rfl
  have d4 : w2.cell? ⟨w.heap.size, 4, none⟩ = some (.int .i64 0) := hn.cell 4 rfl
  have d5 : w2.cell? ⟨w.heap.size, 5, none⟩ = some (.int .i64 0) := hn.cell 5 rfl
  have f0 := hn.free 0; have f1 := hn.free 1; have f2 := hn.free 2; have f3 := hn.free 3; have f4 := hn.free 4; have f5 := hn.free 5
  have hne : K.d ≠ w.heap.size := by omega
  clear hd hb hn hbel C2 HD HB E0 E1 E2 E3 E4 E5 D0 D1 D2 D3 D4 D5 N0 N1 B0 L1 L2 hx1 hx2
  go_wp2
  obtain ⟨W, hW⟩ : ∃ W, W = ((((((w2).setCell ⟨w.heap.size, 0, none⟩ (.int .i64 x0)).setCell ⟨w.heap.size, 1, none⟩ (.int .i64 x1)).setCell ⟨w.heap.size, 2, none⟩ (.int .i64 x2)).setCell ⟨w.heap.size, 3, none⟩ (.int .i64 x3)).setCell ⟨w.heap.size, 4, none⟩ (.int .i64 x4)).setCell ⟨w.heap.size, 5, none⟩ (.int .i64 x5) := ⟨_, rfl⟩
  rw [← hW]
  have hn : Blk W w.heap.size #[.int .i64 x0, .int .i64 x1, .int .i64 x2, .int .i64 x3, .int .i64 x4, .int .i64 x5] 51 := by
    rw [hW]
    exact (((((((HN.out).set 0 (.int .i64 x0)).set 1 (.int .i64 x1)).set 2 (.int .i64 x2)).set 3 (.int .i64 x3)).set 4 (.int .i64 x4)).set 5 (.int .i64 x5)).cast (by simp)
  have hbw : Bel w2.heap.size [w.heap.size] w2 W := by
    rw [hW]
    exact ((((((Bel.refl _ _ _).set (.inr (by simp)) _).set (.inr (by simp)) _).set (.inr (by simp)) _).set (.inr (by simp)) _).set (.inr (by simp)) _).set (.inr (by simp)) _
  have hblk := HD2.out.b.blk.bel hbw HD2.out.b.blk.lt (by simpa using hne)
  have hbl : Below w.heap.size w W := by
    rw [hW]
    exact ((((((HB2.out).setCell (Nat.le_refl _) _).setCell (Nat.le_refl _) _).setCell (Nat.le_refl _) _).setCell (Nat.le_refl _) _).setCell (Nat.le_refl _) _).setCell (Nat.le_refl _) _
  clear hW d0 d1 d2 d3 d4 d5 f0 f1 f2 f3 f4 f5
  have d0 : W.cell? ⟨w.heap.size, 0, none⟩ = some (.int .i64 x0) := hn.cell 0 rfl
  have d1 : W.cell? ⟨w.heap.size, 1, none⟩ = some (.int .i64 x1) := hn.cell 1 rfl
  have d2 : W.cell? ⟨w.heap.size, 2, none⟩ = some (.int .i64 x2) := hn.cell 2 rfl
  have d3 : W.cell? ⟨w.heap.size, 3, none⟩ = some (.int .i64 x3) := hn.cell 3 rfl
  have d4 : W.cell? ⟨w.heap.size, 4, none⟩ = some (.int .i64 x4) := hn.cell 4 rfl
  have d5 : W.cell? ⟨w.heap.size, 5, none⟩ = some (.int .i64 x5) := hn.cell 5 rfl
  have f0 := hn.free 0; have f1 := hn.free 1; have f2 := hn.free 2; have f3 := hn.free 3; have f4 := hn.free 4; have f5 := hn.free 5
  have HBL := Hd.mk hbl; have HN' := Hd.mk hn
  have C3 := Hd.mk (cnt_blk K.d 16 _ rfl W.drew hblk.drew)
  clear hn hblk hbl hbw HD2 HB2 HN
  go_region_with (go_at_call 44; (with_reducible refine C3.out.mono ?_); rintro e w3 ⟨rfl, rfl⟩)
  all_goals
    go_wp2
    have hb := (((((((HN'.out).set 0 (.int .i64 x0)).set 1 (.int .i64 x1)).set 2 (.int .i64 x2)).set 3 (.int .i64 x3)).set 4 (.int .i64 x4)).set 5 (.int .i64 x5)).cast (cs' := #[.int .i64 x0, .int .i64 x1, .int .i64 x2, .int .i64 x3, .int .i64 x4, .int .i64 x5]) (by simp)
    refine bodyPost_ret (res_c2 Try.results23 _ _ w.heap.size rfl _ _ _ hb.drew Try.underlying51 rfl (by kernel_rfl)) rfl ⟨rfl, ?_⟩
    exact (((((((HBL.out).setCell (Nat.le_refl _) _).setCell (Nat.le_refl _) _).setCell (Nat.le_refl _) _).setCell (Nat.le_refl _) _).setCell (Nat.le_refl _) _).setCell (Nat.le_refl _) _).drew
end Go.Proofs.Ytbohjafchfeheaa.Kb
