/- impl.DecimalOf of a decimal that is not null; spec.VaSame. -/
import Derived.Test.YtjikodjljocpmaaBigI
import Derived.Test.YtjikodjljocpmaaDnull
import Derived.Test.YtjikodjljocpmaaRinv
namespace Go.Proofs.Ytjikodjljocpmaa.Kb
open Go Go.RowKit
set_option linter.unusedVariables false
set_option linter.unusedSimpArgs false
set_option maxHeartbeats 2000000
/-- The four result cells of DecimalOf. -/
structure R4 (w0 : World) (r : Nat) (u0 u1 u2 u3 u4 : Value) (W : World) : Prop where
  b0 : Blk W r #[u0, u1] 24
  b1 : Blk W (r + 1) #[u2] 3
  b2 : Blk W (r + 1 + 1) #[u3] 4
  b3 : Blk W (r + 1 + 1 + 1) #[u4] 3
  bel : Below w0.heap.size w0 W
  le : w0.heap.size ≤ r
section
variable {w0 W W' : World} {r : Nat} {u0 u1 u2 u3 u4 : Value}
theorem R4.on (h : R4 w0 r u0 u1 u2 u3 u4 W) (hb : Below W.heap.size W W') : R4 w0 r u0 u1 u2 u3 u4 W' :=
  ⟨h.b0.below hb h.b0.lt, h.b1.below hb h.b1.lt, h.b2.below hb h.b2.lt, h.b3.below hb h.b3.lt, h.bel.trans (hb.mono h.bel.size), h.le⟩
theorem R4.drew (h : R4 w0 r u0 u1 u2 u3 u4 W) : R4 w0 r u0 u1 u2 u3 u4 W.drew := ⟨h.b0.drew, h.b1.drew, h.b2.drew, h.b3.drew, h.bel.drew, h.le⟩
theorem R4.s0 (h : R4 w0 r u0 u1 u2 u3 u4 W) (v : Value) : R4 w0 r v u1 u2 u3 u4 (W.setCell ⟨r, 0, none⟩ v) :=
  ⟨(h.b0.set 0 v).cast rfl, h.b1.set_ne (by simp) v, h.b2.set_ne (by simp <;> omega) v, h.b3.set_ne (by simp <;> omega) v, h.bel.setCell h.le v, h.le⟩
theorem R4.s1 (h : R4 w0 r u0 u1 u2 u3 u4 W) (v : Value) : R4 w0 r u0 v u2 u3 u4 (W.setCell ⟨r, 1, none⟩ v) :=
  ⟨(h.b0.set 1 v).cast rfl, h.b1.set_ne (by simp) v, h.b2.set_ne (by simp <;> omega) v, h.b3.set_ne (by simp <;> omega) v, h.bel.setCell h.le v, h.le⟩
theorem R4.s2 (h : R4 w0 r u0 u1 u2 u3 u4 W) (v : Value) : R4 w0 r u0 u1 v u3 u4 (W.setCell ⟨r + 1, 0, none⟩ v) :=
  ⟨h.b0.set_ne (by simp) v, (h.b1.set 0 v).cast rfl, h.b2.set_ne (by simp) v, h.b3.set_ne (by simp <;> omega) v, h.bel.setCell (by have := h.le; simp; omega) v, h.le⟩
theorem R4.s3 (h : R4 w0 r u0 u1 u2 u3 u4 W) (v : Value) : R4 w0 r u0 u1 u2 v u4 (W.setCell ⟨r + 1 + 1, 0, none⟩ v) :=
  ⟨h.b0.set_ne (by simp <;> omega) v, h.b1.set_ne (by simp) v, (h.b2.set 0 v).cast rfl, h.b3.set_ne (by simp) v, h.bel.setCell (by have := h.le; simp; omega) v, h.le⟩
theorem R4.s4 (h : R4 w0 r u0 u1 u2 u3 u4 W) (v : Value) : R4 w0 r u0 u1 u2 u3 v (W.setCell ⟨r + 1 + 1 + 1, 0, none⟩ v) :=
  ⟨h.b0.set_ne (by simp <;> omega) v, h.b1.set_ne (by simp <;> omega) v, h.b2.set_ne (by simp) v, (h.b3.set 0 v).cast rfl, h.bel.setCell (by have := h.le; simp; omega) v, h.le⟩
end
theorem R4.start (w : World) : R4 w w.heap.size (.bool false) (.slice none 0 0) (.int .i64 0) (.bool false) (.int .i64 0) ((((w.alloc (.cells #[.bool false, .slice none 0 0] 24)).alloc (.cells #[.int .i64 0] 3)).alloc (.cells #[.bool false] 4)).alloc (.cells #[.int .i64 0] 3)) := by
  have g0 := ((((Blk.new w #[.bool false, .slice none 0 0] 24).alloc (.cells #[.int .i64 0] 3)).alloc (.cells #[.bool false] 4)).alloc (.cells #[.int .i64 0] 3))
  have g1 := (((Blk.new (w.alloc (.cells #[.bool false, .slice none 0 0] 24)) #[.int .i64 0] 3).alloc (.cells #[.bool false] 4)).alloc (.cells #[.int .i64 0] 3))
  have g2 := ((Blk.new ((w.alloc (.cells #[.bool false, .slice none 0 0] 24)).alloc (.cells #[.int .i64 0] 3)) #[.bool false] 4).alloc (.cells #[.int .i64 0] 3))
  have g3 := (Blk.new (((w.alloc (.cells #[.bool false, .slice none 0 0] 24)).alloc (.cells #[.int .i64 0] 3)).alloc (.cells #[.bool false] 4)) #[.int .i64 0] 3)
  simp only [World.size_alloc] at g0 g1 g2 g3
  exact ⟨g0, g1, g2, g3, ((((Below.refl _ _).alloc (by simp <;> omega) _).alloc (by simp <;> omega) _).alloc (by simp <;> omega) _).alloc (by simp <;> omega) _, Nat.le_refl _⟩
theorem BigI.set {w : World} {g : Nat} {neg : Bool} {A : Option Addr} {l c a : Nat} (h : BigI w g neg A l c a) {p : Addr} (h1 : p.block ≠ g) (h2 : ∀ ad, A = some ad → ad.block ≠ p.block) (v : Value) : BigI (w.setCell p v) g neg A l c a := ⟨h.blk.set_ne h1 v, h.dig.set h2 v, h.ne⟩
/-- What DecimalOf answers of a number. -/
def OfOut (w : World) (neg : Bool) (a : Nat) (x : Int) (e : Ending) (w' : World) : Prop := ∃ A m c, e = .returned (.tuple #[.agg #[.bool neg, .slice A m c], .int .i64 x, .bool false, .int .i64 0]) ∧ m ≤ c ∧ c ≤ maxLen ∧ a < 256 ^ m ∧ (m = 0 ∨ 256 ^ (m - 1) ≤ a) ∧ Rd w' [] A m (beL a m) ∧ Below w.heap.size w w'
set_option maxRecDepth 100000 in
theorem decimalOf (A : Option Addr) (c : Nat) (w : World) (neg : Bool) (a y : Nat) (hr : Rd w [] A 16 (leL (decN neg a y) 16)) (hn : 16 ≤ c) (hc : c ≤ maxLen) (hby : ∀ x ∈ leL (decN neg a y) 16, 0 ≤ x ∧ x < 256) (ha : a < 2 ^ 113) (hy : y ≤ 12287) (x : Int) (hxy : x = (y : Int) - 6176) :
    Calls Try.prog 11 #[.slice A 16 c] w fun e w' => OfOut w (neg && decide (a ≠ 0)) a x e w' := by
  have hmf : ∀ (fn : Fn) (first cap : Array Value) (w : World), (Instr.makeFunc fn first cap).run Try.prog w = .ok (.func fn first cap) w := fun _ _ _ _ => rfl
  have R0 := Hd.mk (R4.start w)
  have C := Hd.mk (decoder_new A 16 c _ false false _ (hr.below R0.out.bel) hn hc hby)
  have HA := Hd.mk ha; have HXY := Hd.mk hxy
  obtain ⟨nb, hnb⟩ : ∃ nb, (neg && decide (a ≠ 0)) = nb := ⟨_, rfl⟩
  rw [hnb]
  have EN := Hd.mk (show (nb && decide (a ≠ 0)) = nb by rw [← hnb]; cases neg <;> simp)
  have HNB := Hd.mk hnb
  clear hr hn hc hby ha hxy hnb
  go_enter_defers Try.func11, Try.ntmps11
  go_wp2_with fail
  with_reducible refine C.out.mono ?_
  intro e w1 k1
  obtain ⟨K, rfl, k2, l1, l2, hd1, hb1⟩ := k1.to
  have C1 := Hd.mk (D_Decimal K w1 hd1 neg a y k2 HA.out hy x HXY.out)
  have R1 := Hd.mk (R0.out.on hb1)
  have L1 := Hd.mk l1; have L2 := Hd.mk l2
  clear k1 k2 l1 l2 hd1 hb1 C
  go_wp2_with fail
  with_reducible refine C1.out.mono ?_
  rintro e w2 ⟨g, A2, l2, c2, rfl, hg, hi, hl2, ⟨hdb, hb⟩, hf⟩
  rw [HNB.out] at hi
  have l1 := L1.out; have l2' := L2.out
  simp at l1 l2'
  have hw1 : w.heap.size + 1 + 1 + 1 < w1.heap.size := R1.out.b3.lt
  have hq0 := R1.out.b0.bel hb (by omega) (by simp; omega)
  have hq1 := R1.out.b1.bel hb (by omega) (by simp; omega)
  have hq2 := R1.out.b2.bel hb (by omega) (by simp; omega)
  have hq3 := R1.out.b3.bel hb (by omega) (by simp; omega)
  have R2 := Hd.mk (show R4 w w.heap.size _ _ _ _ _ w2 from ⟨hq0, hq1, hq2, hq3, Bel.to' ((Bel.of R1.out.bel).trans (hb.weak (B' := w.heap.size) R1.out.bel.size (S' := [K.d, K.sb]) (fun x hx _ => hx))) (by simp; omega), Nat.le_refl _⟩)
  clear hq0 hq1 hq2 hq3
  have x1 : w2.cell? ⟨w.heap.size + 1, 0, none⟩ = some (.int .i64 0) := R2.out.b1.cell 0 rfl
  have f1 := R2.out.b1.free 0
  have HI := Hd.mk (hi.set (p := ⟨w.heap.size + 1, 0, none⟩) (by simp; omega) (fun ad h => by have := hf ad h; simp; omega) (.int .i64 x))
  have R3 := Hd.mk (R2.out.s2 (.int .i64 x))
  have HD := hdb.b.blk.set_ne (p := ⟨w.heap.size + 1, 0, none⟩) (by simp <;> omega) (.int .i64 x)
  have C2 := Hd.mk (err_blk0 K.d .nilIface _ rfl _ HD)
  have HF := Hd.mk hf; have HG := Hd.mk hg; have HL2 := Hd.mk hl2
  clear hi hdb hb hf hg hl2 HD C1 l1 l2'
  go_wp2_with fail
  obtain ⟨W, hW⟩ : ∃ W, W = w2.setCell ⟨w.heap.size + 1, 0, none⟩ (.int .i64 x) := ⟨_, rfl⟩
  rw [← hW] at C2 HI R3 ⊢
  clear hW x1 f1
  with_reducible refine C2.out.mono ?_
  rintro e w3 ⟨rfl, rfl⟩
  clear C2
  go_wp2_with fail
  refine wp_region_noPanic ?_
  refine wp_region_held_drew (S := (fun V => V.cell? ⟨w.heap.size + 1, 0, none⟩ = some (.int .i64 x))) (by kernel_rfl) ?_ (fun hHeld => ?_)
  · exact R3.out.drew.b1.cell 0 rfl
  refine wpAnyH_take_d (i := 0) (some 29) (v := ?_) rfl rfl (by kernel_rfl) (by kernel_rfl) (by kernel_rfl) (fun _ _ _ h => h) (Or.inl ⟨by rfl, ?_⟩) hHeld ?_
  rotate_left
  · (intro w' hSw; (try dsimp only at hSw); go_simp; all_goals (with_reducible rfl))
  (try simp only [Act.put, List.setIfInBounds_toArray, List.set_cons_zero, List.set_cons_succ])
  refine wpAnyH_take_d (i := 2) (some 31) (v := ?_) rfl rfl (by kernel_rfl) (by kernel_rfl) (by kernel_rfl) (fun _ _ _ h => h) (Or.inl ⟨by rfl, ?_⟩) hHeld ?_
  rotate_left
  · (intro w' hSw; (try dsimp only at hSw); go_simp; all_goals (with_reducible rfl))
  (try simp only [Act.put, List.setIfInBounds_toArray, List.set_cons_zero, List.set_cons_succ])
  refine wpAnyH_ready (rs := [1]) (by kernel_rfl) (by simp) ?_
  refine AllReadyH.cons rfl (fun K hK => ?_) AllReadyH.nil
  go_simp
  (with_reducible refine (bigBack g _ A2 l2 c2 a _ (HI.out.below (Below.refl _ _).drew) HL2.out).mono ?_)
  rintro e w4 ⟨A4, m4, c4, rfl, k1, k2, k3, k4, k5, k6, k7⟩
  have R5 := Hd.mk (R3.out.drew.on k6)
  have p0 := R5.out.b0.cell 0 rfl; have p0b := R5.out.b0.cell 1 rfl; have p1 := R5.out.b1.cell 0 rfl; have p2 := R5.out.b2.cell 0 rfl; have p3 := R5.out.b3.cell 0 rfl
  have f0 := R5.out.b0.free 0; have f0b := R5.out.b0.free 1; have f1 := R5.out.b1.free 0; have f2 := R5.out.b2.free 0; have f3 := R5.out.b3.free 0
  rw [EN.out]
  have K1 := Hd.mk k1; have K2 := Hd.mk k2; have K3 := Hd.mk k3; have K4 := Hd.mk k4; have K5 := Hd.mk (k5.avoid (S := [w.heap.size, w.heap.size + 1, w.heap.size + 1 + 1, w.heap.size + 1 + 1 + 1]) (fun ad h => by have h1 := k7 ad h; have h2 := R3.out.b3.lt; simp at h1 ⊢; omega)); clear k1 k2 k3 k4 k5 k7
  refine hK.out _ _ ?_ (fun hHeld => ?_)
  · exact R5.out.b1.cell 0 rfl
  clear hK K
  (try simp only [Act.put, List.setIfInBounds_toArray, List.set_cons_zero, List.set_cons_succ])
  refine wpAnyH_ready (rs := [3]) (by kernel_rfl) (by simp) ?_
  refine AllReadyH.cons rfl (fun K hK => ?_) AllReadyH.nil
  go_simp
  refine hK.out _ _ ?_ (fun hHeld => ?_)
  · exact (((R5.out.s0 (.bool nb)).s1 (.slice A4 m4 c4))).b1.cell 0 rfl
  clear hK K
  (try simp only [Act.put, List.setIfInBounds_toArray, List.set_cons_zero, List.set_cons_succ])
  refine wpAnyH_ready (rs := [4]) (by kernel_rfl) (by simp) ?_
  refine AllReadyH.cons rfl (fun K hK => ?_) AllReadyH.nil
  go_simp
  refine hK.out _ _ ?_ (fun hHeld => ?_)
  · exact ((((R5.out.s0 (.bool nb)).s1 (.slice A4 m4 c4))).s2 (.int .i64 x)).b1.cell 0 rfl
  clear hK K
  (try simp only [Act.put, List.setIfInBounds_toArray, List.set_cons_zero, List.set_cons_succ])
  refine wpAnyH_ready (rs := [5]) (by kernel_rfl) (by simp) ?_
  refine AllReadyH.cons rfl (fun K hK => ?_) AllReadyH.nil
  go_simp
  refine hK.out _ _ ?_ (fun hHeld => ?_)
  · exact (((((R5.out.s0 (.bool nb)).s1 (.slice A4 m4 c4))).s2 (.int .i64 x)).s3 (.bool false)).b1.cell 0 rfl
  clear hK K
  (try simp only [Act.put, List.setIfInBounds_toArray, List.set_cons_zero, List.set_cons_succ])
  refine wpAnyH_ready (rs := [6]) (by kernel_rfl) (by simp) ?_
  refine AllReadyH.cons rfl (fun K hK => ?_) AllReadyH.nil
  go_simp
  refine hK.out _ _ ?_ (fun hHeld => ?_)
  · exact ((((((R5.out.s0 (.bool nb)).s1 (.slice A4 m4 c4))).s2 (.int .i64 x)).s3 (.bool false)).s4 (.int .i64 0)).b1.cell 0 rfl
  clear hK K
  (try simp only [Act.put, List.setIfInBounds_toArray, List.set_cons_zero, List.set_cons_succ])
  refine wpAnyH_done (by kernel_rfl) ?_ _
  refine NoPanic.normal ?_
  go_wp2
  have RF := (((((R5.out.s0 (.bool nb)).s1 (.slice A4 m4 c4))).s2 (.int .i64 x)).s3 (.bool false)).s4 (.int .i64 0)
  have hrd := ((((((K5.out.set (p := ⟨w.heap.size, 0, none⟩) (by simp) (.bool nb)).set (p := ⟨w.heap.size, 1, none⟩) (by simp) (.slice A4 m4 c4)).set (p := ⟨w.heap.size + 1, 0, none⟩) (by simp) (.int .i64 x)).set (p := ⟨w.heap.size + 1 + 1, 0, none⟩) (by simp) (.bool false)).set (p := ⟨w.heap.size + 1 + 1 + 1, 0, none⟩) (by simp) (.int .i64 0))).sub (S' := []) (by simp)
  obtain ⟨V, hV⟩ : ∃ V, V = (((((w4.setCell ⟨w.heap.size, 0, none⟩ (.bool nb)).setCell ⟨w.heap.size, 1, none⟩ (.slice A4 m4 c4)).setCell ⟨w.heap.size + 1, 0, none⟩ (.int .i64 x)).setCell ⟨w.heap.size + 1 + 1, 0, none⟩ (.bool false)).setCell ⟨w.heap.size + 1 + 1 + 1, 0, none⟩ (.int .i64 0)) := ⟨_, rfl⟩
  rw [← hV] at RF hrd ⊢
  clear hV
  have y0 := RF.b0.cell 0 rfl; have y0b := RF.b0.cell 1 rfl; have y1 := RF.b1.cell 0 rfl; have y2 := RF.b2.cell 0 rfl; have y3 := RF.b3.cell 0 rfl
  have hbl := RF.bel
  refine leaves_cons (f := 29) (args := #[.pointer (some ⟨w.heap.size, 0, none⟩), .pointer (some ⟨w.heap.size + 1, 0, none⟩), .pointer (some ⟨w.heap.size + 1 + 1, 0, none⟩), .pointer (some ⟨w.heap.size + 1 + 1 + 1, 0, none⟩)]) (by simp) (by simp [go_sem]) ?_
  refine (catch_decimalOf _ _ _ _ _).mono ?_
  rintro e u' w'' ⟨rfl, rfl, rfl⟩
  simp [Leaves, settle, results, Try.results11, go_sem, y0, y0b, y1, y2, y3]
  exact ⟨A4, m4, c4, rfl, K1.out, K2.out, K3.out, K4.out, hrd, hbl⟩
end Go.Proofs.Ytjikodjljocpmaa.Kb
