/- The request of a connection, read back: the doors. -/
import Derived.Test.YtnkengcajechbaaDoorInitB
namespace Go.Proofs.YtnkengcajechbaaDoor.Kb
open Go Go.RowKit
set_option linter.unusedVariables false
set_option linter.unusedSimpArgs false
set_option maxHeartbeats 4000000

/-- What the decoding of the request leaves. -/
def InitDec (K : DK) (W : World) (g : Nat) (cs : Array Value) (e : Ending) (w' : World) : Prop := e = .returned .nilIface ∧ DecG K w' 14 g cs 54 ∧ Bel W.heap.size [K.d, K.sb, g] W w'
set_option maxRecDepth 100000 in
theorem zzInitOf (K : DK) (w : World) (h : Dec K w 0 .nilIface) (fit : 14 ≤ K.xs.length) (x0 x1 x2 x3 x4 x5 : Int) (b0 : -128 ≤ x0 ∧ x0 ≤ 127) (b1 : -32768 ≤ x1 ∧ x1 ≤ 32767) (b2 : -128 ≤ x2 ∧ x2 ≤ 127) (b3 : -32768 ≤ x3 ∧ x3 ≤ 32767) (b4 : -128 ≤ x4 ∧ x4 ≤ 127) (b5 : -128 ≤ x5 ∧ x5 ≤ 127)
    (hC : ∀ (W : World) (g : Nat), DecG K W 0 g #[.int .i8 0, .int .i16 0, .int .i8 0, .int .i16 0, .int .i8 0, .int .i8 0] 54 → Calls Tryd.prog 21 #[.pointer (some ⟨g, 0, none⟩), .pointer (some ⟨K.d, 0, none⟩)] W fun e w' => InitDec K W g #[.int .i8 x0, .int .i16 x1, .int .i8 x2, .int .i16 x3, .int .i8 x4, .int .i8 x5] e w') :
    Calls Tryd.prog 13 #[.pointer (some ⟨K.d, 0, none⟩)] w fun e w' => e = .returned (.tuple #[.agg #[.int .i64 x0, .int .i64 x1, .int .i64 x2, .int .i64 x3, .int .i64 x4, .int .i64 x5], .nilIface]) ∧ Dec K w' 14 .nilIface ∧ Bel w.heap.size [K.d, K.sb] w w' := by
  obtain ⟨p0, q0⟩ := b0; obtain ⟨p1, q1⟩ := b1; obtain ⟨p2, q2⟩ := b2; obtain ⟨p3, q3⟩ := b3; obtain ⟨p4, q4⟩ := b4; obtain ⟨p5, q5⟩ := b5
  have hrd := h.b.rd.more (S' := [w.heap.size]) (fun x hx _ => by simp at hx; omega)
  have hb0 : Below w.heap.size w (w.alloc (.cells #[.int .i64 0, .int .i64 0, .int .i64 0, .int .i64 0, .int .i64 0, .int .i64 0] 24)) := (Below.refl _ _).alloc (Nat.le_refl _) _
  have hn0 := Blk.new w #[.int .i64 0, .int .i64 0, .int .i64 0, .int .i64 0, .int .i64 0, .int .i64 0] 24
  have g0 : DecG K ((w.alloc (.cells #[.int .i64 0, .int .i64 0, .int .i64 0, .int .i64 0, .int .i64 0, .int .i64 0] 24)).alloc (.cells #[.int .i8 0, .int .i16 0, .int .i8 0, .int .i16 0, .int .i8 0, .int .i8 0] 54)) 0 (w.heap.size + 1) #[.int .i8 0, .int .i16 0, .int .i8 0, .int .i16 0, .int .i8 0, .int .i8 0] 54 := by
    have := DecG.new (h.below hb0) #[.int .i8 0, .int .i16 0, .int .i8 0, .int .i16 0, .int .i8 0, .int .i8 0] 54
    simpa using this
  have hr0 : Rd ((w.alloc (.cells #[.int .i64 0, .int .i64 0, .int .i64 0, .int .i64 0, .int .i64 0, .int .i64 0] 24)).alloc (.cells #[.int .i8 0, .int .i16 0, .int .i8 0, .int .i16 0, .int .i8 0, .int .i8 0] 54)) [w.heap.size] K.ra K.xs.length K.xs := (hrd.below hb0).below ((Below.refl _ _).alloc (Nat.le_refl _) _)
  have R0 := Hd.mk hr0; have S0 := Hd.mk (g0.d.b.rd.join g0.rd)
  have C := Hd.mk (hC _ _ g0)
  have HB := Hd.mk (hb0.trans (show Below w.heap.size (w.alloc (.cells #[.int .i64 0, .int .i64 0, .int .i64 0, .int .i64 0, .int .i64 0, .int .i64 0] 24)) _ from (Below.refl _ _).alloc (by simp) (.cells #[.int .i8 0, .int .i16 0, .int .i8 0, .int .i16 0, .int .i8 0, .int .i8 0] 54)))
  have HN := Hd.mk (hn0.alloc (.cells #[.int .i8 0, .int .i16 0, .int .i8 0, .int .i16 0, .int .i8 0, .int .i8 0] 54))
  have L1 := Hd.mk h.dlt; have L2 := Hd.mk h.slt
  clear h hC hb0 hn0 g0 hr0 hrd
  go_enter Tryd.func13, Tryd.ntmps13
  go_wp2_with fail
  with_reducible refine C.out.mono ?_
  rintro e w1 ⟨rfl, hg, hb⟩
  have c0 : w1.cell? ⟨w.heap.size + 1, 0, none⟩ = some (.int .i8 x0) := hg.blk.cell 0 rfl
  have c1 : w1.cell? ⟨w.heap.size + 1, 1, none⟩ = some (.int .i16 x1) := hg.blk.cell 1 rfl
  have c2 : w1.cell? ⟨w.heap.size + 1, 2, none⟩ = some (.int .i8 x2) := hg.blk.cell 2 rfl
  have c3 : w1.cell? ⟨w.heap.size + 1, 3, none⟩ = some (.int .i16 x3) := hg.blk.cell 3 rfl
  have c4 : w1.cell? ⟨w.heap.size + 1, 4, none⟩ = some (.int .i8 x4) := hg.blk.cell 4 rfl
  have c5 : w1.cell? ⟨w.heap.size + 1, 5, none⟩ = some (.int .i8 x5) := hg.blk.cell 5 rfl
  have hn : Blk w1 w.heap.size #[.int .i64 0, .int .i64 0, .int .i64 0, .int .i64 0, .int .i64 0, .int .i64 0] 24 := HN.out.bel hb HN.out.lt (by have := L1.out; have := L2.out; simp; omega)
  have d0 : w1.cell? ⟨w.heap.size, 0, none⟩ = some (.int .i64 0) := hn.cell 0 rfl
  have d1 : w1.cell? ⟨w.heap.size, 1, none⟩ = some (.int .i64 0) := hn.cell 1 rfl
  have d2 : w1.cell? ⟨w.heap.size, 2, none⟩ = some (.int .i64 0) := hn.cell 2 rfl
  have d3 : w1.cell? ⟨w.heap.size, 3, none⟩ = some (.int .i64 0) := hn.cell 3 rfl
  have d4 : w1.cell? ⟨w.heap.size, 4, none⟩ = some (.int .i64 0) := hn.cell 4 rfl
  have d5 : w1.cell? ⟨w.heap.size, 5, none⟩ = some (.int .i64 0) := hn.cell 5 rfl
  have f0 := hn.free 0; have f1 := hn.free 1; have f2 := hn.free 2; have f3 := hn.free 3; have f4 := hn.free 4; have f5 := hn.free 5
  have HD := Hd.mk hg.d
  have HL := Hd.mk ((Bel.of (S := [K.d, K.sb]) HB.out).then hb (by simp; omega) (fun x hx hlt => by simp at hx ⊢; omega))
  have HH := Hd.mk hn; have HRd := Hd.mk (R0.out.cross S0.out hb)
  clear hg hb C HB HN hn R0 S0
  go_wp2
  go_region
  go_wp2
  have hb := (((((((HH.out).set 0 (.int .i64 x0)).set 1 (.int .i64 x1)).set 2 (.int .i64 x2)).set 3 (.int .i64 x3)).set 4 (.int .i64 x4)).set 5 (.int .i64 x5)).cast (cs' := #[.int .i64 x0, .int .i64 x1, .int .i64 x2, .int .i64 x3, .int .i64 x4, .int .i64 x5]) (by simp)
  refine bodyPost_ret (res_c1 Tryd.results13 _ _ w.heap.size rfl _ _ _ hb.drew Tryd.underlying24 rfl (by kernel_rfl)) rfl ⟨rfl, ?_, ?_⟩
  · have hbel : Bel w1.heap.size [w.heap.size] w1 (((((((w1).setCell ⟨w.heap.size, 0, none⟩ (.int .i64 x0)).setCell ⟨w.heap.size, 1, none⟩ (.int .i64 x1)).setCell ⟨w.heap.size, 2, none⟩ (.int .i64 x2)).setCell ⟨w.heap.size, 3, none⟩ (.int .i64 x3)).setCell ⟨w.heap.size, 4, none⟩ (.int .i64 x4)).setCell ⟨w.heap.size, 5, none⟩ (.int .i64 x5)).drew :=
      (((((((Bel.refl _ _ _).set (.inr (by simp)) _).set (.inr (by simp)) _).set (.inr (by simp)) _).set (.inr (by simp)) _).set (.inr (by simp)) _).set (.inr (by simp)) _).drew
    exact HD.out.bel hbel (by have := L1.out; simp; omega) (by have := L2.out; simp; omega) (fun x hx => by simp at hx; subst hx; exact .inr HRd.out)
  · exact (((((((HL.out).set (.inl (by simp)) _).set (.inl (by simp)) _).set (.inl (by simp)) _).set (.inl (by simp)) _).set (.inl (by simp)) _).set (.inl (by simp)) _).drew

set_option maxRecDepth 100000 in
theorem initOf (A : Option Addr) (n c : Nat) (xs : List Int) (w : World) (hr : Rd w [] A n xs) (hn : n ≤ c) (hc : c ≤ maxLen) (hby : ∀ x ∈ xs, 0 ≤ x ∧ x < 256) (fit : 14 ≤ xs.length) (x0 x1 x2 x3 x4 x5 : Int) (b0 : -128 ≤ x0 ∧ x0 ≤ 127) (b1 : -32768 ≤ x1 ∧ x1 ≤ 32767) (b2 : -128 ≤ x2 ∧ x2 ≤ 127) (b3 : -32768 ≤ x3 ∧ x3 ≤ 32767) (b4 : -128 ≤ x4 ∧ x4 ≤ 127) (b5 : -128 ≤ x5 ∧ x5 ≤ 127)
    (hC : ∀ (K : DK), K.xs = xs → ∀ (W : World) (g : Nat), DecG K W 0 g #[.int .i8 0, .int .i16 0, .int .i8 0, .int .i16 0, .int .i8 0, .int .i8 0] 54 → Calls Tryd.prog 21 #[.pointer (some ⟨g, 0, none⟩), .pointer (some ⟨K.d, 0, none⟩)] W fun e w' => InitDec K W g #[.int .i8 x0, .int .i16 x1, .int .i8 x2, .int .i16 x3, .int .i8 x4, .int .i8 x5] e w') :
    Calls Tryd.prog 6 #[.slice A n c] w fun e w' => e = .returned (.tuple #[.agg #[.int .i64 x0, .int .i64 x1, .int .i64 x2, .int .i64 x3, .int .i64 x4, .int .i64 x5], .int .i64 14, .int .i64 0]) ∧ Below w.heap.size w w' := by
  have hmf : ∀ (fn : Fn) (first cap : Array Value) (w : World), (Instr.makeFunc fn first cap).run Tryd.prog w = .ok (.func fn first cap) w := fun _ _ _ _ => rfl
  have hB0 : Below w.heap.size w (((w.alloc (.cells #[.int .i64 0, .int .i64 0, .int .i64 0, .int .i64 0, .int .i64 0, .int .i64 0] 24)).alloc (.cells #[.int .i64 0] 3)).alloc (.cells #[.int .i64 0] 3)) := (((Below.refl _ _).alloc (Nat.le_refl _) _).alloc (by simp) _).alloc (by simp <;> omega) _
  have hN0 := ((Blk.new w #[.int .i64 0, .int .i64 0, .int .i64 0, .int .i64 0, .int .i64 0, .int .i64 0] 24).alloc (.cells #[.int .i64 0] 3)).alloc (.cells #[.int .i64 0] 3)
  have hN1 := (Blk.new (w.alloc (.cells #[.int .i64 0, .int .i64 0, .int .i64 0, .int .i64 0, .int .i64 0, .int .i64 0] 24)) #[.int .i64 0] 3).alloc (.cells #[.int .i64 0] 3)
  have hN2 := Blk.new ((w.alloc (.cells #[.int .i64 0, .int .i64 0, .int .i64 0, .int .i64 0, .int .i64 0, .int .i64 0] 24)).alloc (.cells #[.int .i64 0] 3)) #[.int .i64 0] 3
  simp only [World.size_alloc] at hN1 hN2
  have C := Hd.mk (decoder_new A n c xs false false _ (hr.below hB0) hn hc hby)
  have HF := Hd.mk fit; have B0 := Hd.mk hB0; have N0 := Hd.mk hN0; have N1 := Hd.mk hN1; have N2 := Hd.mk hN2; have HC := Hd.mk hC; have D0 := Hd.mk b0; have D1 := Hd.mk b1; have D2 := Hd.mk b2; have D3 := Hd.mk b3; have D4 := Hd.mk b4; have D5 := Hd.mk b5
  clear hr hn hc hby fit hB0 hN0 hN1 hN2 hC b0 b1 b2 b3 b4 b5
  go_enter_defers Tryd.func6, Tryd.ntmps6
  go_wp2_with fail
  with_reducible refine C.out.mono ?_
  intro e w1 h1
  obtain ⟨K, rfl, rfl, l1, l2, hd, hb⟩ := h1.to
  have HD := Hd.mk hd; have HB := Hd.mk hb; have L1 := Hd.mk l1; have L2 := Hd.mk l2
  have M0 := Hd.mk (N0.out.below hb (by simp <;> omega)); have M1 := Hd.mk (N1.out.below hb (by simp <;> omega)); have M2 := Hd.mk (N2.out.below hb (by simp <;> omega))
  clear h1 hd hb l1 l2 C N0 N1 N2
  go_wp2_with fail
  have C2 := zzInitOf K w1 HD.out HF.out x0 x1 x2 x3 x4 x5 D0.out D1.out D2.out D3.out D4.out D5.out (HC.out K rfl)
  with_reducible refine C2.mono ?_
  rintro e w2 ⟨rfl, hd, hb⟩
  have hx1 := L1.out; have hx2 := L2.out
  simp at hx1 hx2
  have hn := M0.out.bel hb M0.out.lt (by simp; omega)
  have hn1 := M1.out.bel hb M1.out.lt (by simp; omega)
  have hn2 := M2.out.bel hb M2.out.lt (by simp; omega)
  have HD2 := Hd.mk hd; have HN := Hd.mk hn; have HN1 := Hd.mk hn1; have HN2 := Hd.mk hn2
  have hbel := (Bel.of (S := [K.d, K.sb]) (B0.out.trans (HB.out.mono (by simp; omega)))).then hb (Nat.le_trans B0.out.size HB.out.size) (fun x hx _ => hx)
  have HB2 := Hd.mk (hbel.to' (fun x hx => by simp at hx; rcases hx with rfl | rfl <;> omega))
  have d0 : w2.cell? ⟨w.heap.size, 0, none⟩ = some (.int .i64 0) := hn.cell 0 rfl
  have d1 : w2.cell? ⟨w.heap.size, 1, none⟩ = some (.int .i64 0) := hn.cell 1 rfl
  have d2 : w2.cell? ⟨w.heap.size, 2, none⟩ = some (.int .i64 0) := hn.cell 2 rfl
  have d3 : w2.cell? ⟨w.heap.size, 3, none⟩ = some (.int .i64 0) := hn.cell 3 rfl
  have d4 : w2.cell? ⟨w.heap.size, 4, none⟩ = some (.int .i64 0) := hn.cell 4 rfl
  have d5 : w2.cell? ⟨w.heap.size, 5, none⟩ = some (.int .i64 0) := hn.cell 5 rfl
  have f0 := hn.free 0; have f1 := hn.free 1; have f2 := hn.free 2; have f3 := hn.free 3; have f4 := hn.free 4; have f5 := hn.free 5
  have hne : K.d ≠ w.heap.size := by omega
  clear hd hb hn hn1 hn2 hbel C2 HD HB HC D0 D1 D2 D3 D4 D5 M0 M1 M2 B0 L1 L2 hx1 hx2
  go_wp2
  obtain ⟨W, hW⟩ : ∃ W, W = ((((((w2.setCell ⟨w.heap.size, 0, none⟩ (.int .i64 x0)).setCell ⟨w.heap.size, 1, none⟩ (.int .i64 x1)).setCell ⟨w.heap.size, 2, none⟩ (.int .i64 x2)).setCell ⟨w.heap.size, 3, none⟩ (.int .i64 x3)).setCell ⟨w.heap.size, 4, none⟩ (.int .i64 x4)).setCell ⟨w.heap.size, 5, none⟩ (.int .i64 x5)) := ⟨_, rfl⟩
  rw [← hW]
  have hn : Blk W w.heap.size #[.int .i64 x0, .int .i64 x1, .int .i64 x2, .int .i64 x3, .int .i64 x4, .int .i64 x5] 24 := by
    rw [hW]
    exact ((((((HN.out.set 0 (.int .i64 x0)).set 1 (.int .i64 x1)).set 2 (.int .i64 x2)).set 3 (.int .i64 x3)).set 4 (.int .i64 x4)).set 5 (.int .i64 x5)).cast (by simp)
  have hbw : Bel w2.heap.size [w.heap.size] w2 W := by
    rw [hW]
    exact (((((((Bel.refl _ _ _).set (.inr (by simp)) _).set (.inr (by simp)) _).set (.inr (by simp)) _).set (.inr (by simp)) _).set (.inr (by simp)) _).set (.inr (by simp)) _)
  have hblk := HD2.out.b.blk.bel hbw HD2.out.b.blk.lt (by simpa using hne)
  have hn1 := HN1.out.bel hbw HN1.out.lt (by simp)
  have hn2 := HN2.out.bel hbw HN2.out.lt (by simp <;> omega)
  have hbl : Below w.heap.size w W := by
    rw [hW]
    exact ((((((HB2.out.setCell (Nat.le_refl _) _).setCell (Nat.le_refl _) _).setCell (Nat.le_refl _) _).setCell (Nat.le_refl _) _).setCell (Nat.le_refl _) _).setCell (Nat.le_refl _) _)
  clear hW d0 d1 d2 d3 d4 d5 f0 f1 f2 f3 f4 f5
  have d0 : W.cell? ⟨w.heap.size, 0, none⟩ = some (.int .i64 x0) := hn.cell 0 rfl
  have d1 : W.cell? ⟨w.heap.size, 1, none⟩ = some (.int .i64 x1) := hn.cell 1 rfl
  have d2 : W.cell? ⟨w.heap.size, 2, none⟩ = some (.int .i64 x2) := hn.cell 2 rfl
  have d3 : W.cell? ⟨w.heap.size, 3, none⟩ = some (.int .i64 x3) := hn.cell 3 rfl
  have d4 : W.cell? ⟨w.heap.size, 4, none⟩ = some (.int .i64 x4) := hn.cell 4 rfl
  have d5 : W.cell? ⟨w.heap.size, 5, none⟩ = some (.int .i64 x5) := hn.cell 5 rfl
  have f0 := hn.free 0; have f1 := hn.free 1; have f2 := hn.free 2; have f3 := hn.free 3; have f4 := hn.free 4; have f5 := hn.free 5
  have e1 : W.cell? ⟨w.heap.size + 1, 0, none⟩ = some (.int .i64 0) := hn1.cell 0 rfl
  have e2 : W.cell? ⟨w.heap.size + 1 + 1, 0, none⟩ = some (.int .i64 0) := hn2.cell 0 rfl
  have g1 := hn1.free 0; have g2 := hn2.free 0
  have HBL := Hd.mk hbl; have HN' := Hd.mk hn; have HN1' := Hd.mk hn1; have HN2' := Hd.mk hn2
  have C3 := Hd.mk (cnt_blk K.d 14 _ rfl W.drew hblk.drew)
  clear hn hn1 hn2 hblk hbl hbw HD2 HB2 HN HN1 HN2
  refine wp_region_noPanic ?_
  go_region_with (go_at_call 14; (with_reducible refine C3.out.mono ?_); rintro e w3 ⟨rfl, rfl⟩)
  all_goals
    refine NoPanic.normal ?_
    go_wp2
    obtain ⟨V, hV⟩ : ∃ V, V = ((((((((W.setCell ⟨w.heap.size, 0, none⟩ (.int .i64 x0)).setCell ⟨w.heap.size, 1, none⟩ (.int .i64 x1)).setCell ⟨w.heap.size, 2, none⟩ (.int .i64 x2)).setCell ⟨w.heap.size, 3, none⟩ (.int .i64 x3)).setCell ⟨w.heap.size, 4, none⟩ (.int .i64 x4)).setCell ⟨w.heap.size, 5, none⟩ (.int .i64 x5)).setCell ⟨w.heap.size + 1, 0, none⟩ (.int .i64 14)).setCell ⟨w.heap.size + 1 + 1, 0, none⟩ (.int .i64 0)).drew := ⟨_, rfl⟩
    rw [← hV]
    have hb0 : Blk V w.heap.size #[.int .i64 x0, .int .i64 x1, .int .i64 x2, .int .i64 x3, .int .i64 x4, .int .i64 x5] 24 := by
      rw [hV]; exact ((((((((((HN'.out.set 0 (.int .i64 x0)).set 1 (.int .i64 x1)).set 2 (.int .i64 x2)).set 3 (.int .i64 x3)).set 4 (.int .i64 x4)).set 5 (.int .i64 x5)).set_ne (p := ⟨w.heap.size + 1, 0, none⟩) (by simp <;> omega) _).set_ne (p := ⟨w.heap.size + 1 + 1, 0, none⟩) (by simp <;> omega) _)).drew).cast (by simp)
    have y1 : V.cell? ⟨w.heap.size + 1, 0, none⟩ = some (.int .i64 14) := by
      rw [hV]; exact (((((((((HN1'.out.set_ne (p := ⟨w.heap.size, 0, none⟩) (by simp <;> omega) (.int .i64 x0)).set_ne (p := ⟨w.heap.size, 1, none⟩) (by simp <;> omega) (.int .i64 x1)).set_ne (p := ⟨w.heap.size, 2, none⟩) (by simp <;> omega) (.int .i64 x2)).set_ne (p := ⟨w.heap.size, 3, none⟩) (by simp <;> omega) (.int .i64 x3)).set_ne (p := ⟨w.heap.size, 4, none⟩) (by simp <;> omega) (.int .i64 x4)).set_ne (p := ⟨w.heap.size, 5, none⟩) (by simp <;> omega) (.int .i64 x5)).set 0 _).set_ne (p := ⟨w.heap.size + 1 + 1, 0, none⟩) (by simp <;> omega) _).drew).cell 0 rfl
    have y2 : V.cell? ⟨w.heap.size + 1 + 1, 0, none⟩ = some (.int .i64 0) := by
      rw [hV]; exact (((((((((HN2'.out.set_ne (p := ⟨w.heap.size, 0, none⟩) (by simp <;> omega) (.int .i64 x0)).set_ne (p := ⟨w.heap.size, 1, none⟩) (by simp <;> omega) (.int .i64 x1)).set_ne (p := ⟨w.heap.size, 2, none⟩) (by simp <;> omega) (.int .i64 x2)).set_ne (p := ⟨w.heap.size, 3, none⟩) (by simp <;> omega) (.int .i64 x3)).set_ne (p := ⟨w.heap.size, 4, none⟩) (by simp <;> omega) (.int .i64 x4)).set_ne (p := ⟨w.heap.size, 5, none⟩) (by simp <;> omega) (.int .i64 x5)).set_ne (p := ⟨w.heap.size + 1, 0, none⟩) (by simp <;> omega) _).set 0 _).drew).cell 0 rfl
    have hbl : Below w.heap.size w V := by
      rw [hV]; exact ((((((((HBL.out.setCell (Nat.le_refl _) _).setCell (Nat.le_refl _) _).setCell (Nat.le_refl _) _).setCell (Nat.le_refl _) _).setCell (Nat.le_refl _) _).setCell (Nat.le_refl _) _).setCell (p := ⟨w.heap.size + 1, 0, none⟩) (by simp <;> omega) _).setCell (p := ⟨w.heap.size + 1 + 1, 0, none⟩) (by simp <;> omega) _).drew
    have z0 : V.cell? ⟨w.heap.size, 0, none⟩ = some (.int .i64 x0) := hb0.cell 0 rfl
    have z1 : V.cell? ⟨w.heap.size, 1, none⟩ = some (.int .i64 x1) := hb0.cell 1 rfl
    have z2 : V.cell? ⟨w.heap.size, 2, none⟩ = some (.int .i64 x2) := hb0.cell 2 rfl
    have z3 : V.cell? ⟨w.heap.size, 3, none⟩ = some (.int .i64 x3) := hb0.cell 3 rfl
    have z4 : V.cell? ⟨w.heap.size, 4, none⟩ = some (.int .i64 x4) := hb0.cell 4 rfl
    have z5 : V.cell? ⟨w.heap.size, 5, none⟩ = some (.int .i64 x5) := hb0.cell 5 rfl
    clear hV
    refine leaves_cons (f := 11) (args := #[.pointer (some ⟨w.heap.size, 0, none⟩), .pointer (some ⟨w.heap.size + 1, 0, none⟩), .pointer (some ⟨w.heap.size + 1 + 1, 0, none⟩)]) (by simp) (by simp [go_sem]) ?_
    refine (catch_initOf _ _ _ _).mono ?_
    rintro e u' w'' ⟨rfl, rfl, rfl⟩
    simp [Leaves, settle, results, Tryd.results6, go_sem, y1, y2, z0, z1, z2, z3, z4, z5]
    exact hbl
end Go.Proofs.YtnkengcajechbaaDoor.Kb
