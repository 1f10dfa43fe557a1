/- impl.FixedOf. -/
import Derived.Test.YtjikodjljocpmaaFixD
import Derived.Test.YtjikodjljocpmaaBigJ
namespace Go.Proofs.Ytjikodjljocpmaa.Kb
open Go Go.RowKit
set_option linter.unusedVariables false
set_option linter.unusedSimpArgs false
set_option maxHeartbeats 2000000
/-- The two result cells of FixedOf. -/
structure R2 (w0 : World) (r : Nat) (u0 u1 u2 : Value) (W : World) : Prop where
  b0 : Blk W r #[u0, u1] 24
  b1 : Blk W (r + 1) #[u2] 3
  bel : Below w0.heap.size w0 W
  le : w0.heap.size ≤ r
section
variable {w0 W W' : World} {r : Nat} {u0 u1 u2 : Value}
theorem R2.on (h : R2 w0 r u0 u1 u2 W) (hb : Below W.heap.size W W') : R2 w0 r u0 u1 u2 W' :=
  ⟨h.b0.below hb h.b0.lt, h.b1.below hb h.b1.lt, h.bel.trans (hb.mono h.bel.size), h.le⟩
theorem R2.s0 (h : R2 w0 r u0 u1 u2 W) (v : Value) : R2 w0 r v u1 u2 (W.setCell ⟨r, 0, none⟩ v) :=
  ⟨(h.b0.set 0 v).cast rfl, h.b1.set_ne (by simp) v, h.bel.setCell h.le v, h.le⟩
theorem R2.s1 (h : R2 w0 r u0 u1 u2 W) (v : Value) : R2 w0 r u0 v u2 (W.setCell ⟨r, 1, none⟩ v) :=
  ⟨(h.b0.set 1 v).cast rfl, h.b1.set_ne (by simp) v, h.bel.setCell h.le v, h.le⟩
theorem R2.s2 (h : R2 w0 r u0 u1 u2 W) (v : Value) : R2 w0 r u0 u1 v (W.setCell ⟨r + 1, 0, none⟩ v) :=
  ⟨h.b0.set_ne (by simp) v, (h.b1.set 0 v).cast rfl, h.bel.setCell (by have := h.le; simp; omega) v, h.le⟩
end
theorem R2.start (w : World) : R2 w w.heap.size (.bool false) (.slice none 0 0) (.int .i64 0) ((w.alloc (.cells #[.bool false, .slice none 0 0] 24)).alloc (.cells #[.int .i64 0] 3)) := by
  have g0 := ((Blk.new w #[.bool false, .slice none 0 0] 24).alloc (.cells #[.int .i64 0] 3))
  have g1 := (Blk.new (w.alloc (.cells #[.bool false, .slice none 0 0] 24)) #[.int .i64 0] 3)
  simp only [World.size_alloc] at g0 g1
  exact ⟨g0, g1, ((Below.refl _ _).alloc (by simp <;> omega) _).alloc (by simp <;> omega) _, Nat.le_refl _⟩
theorem catch_fixedOf (a0 a1 : Value) (w : World) :
    CallsD Try.prog 34 #[a0, a1] .returning w fun e u' w' => e = .returned (.tuple #[]) ∧ u' = .returning ∧ w' = w := by
  refine callsD_of_wpS Try.func34 rfl fun c₀ cs hu => ?_
  apply wpS_seq
  apply wpS_region
  simp [wpOpsS, go_sem, recoverD, hu, Try.ntmps34, Exit.thenS]
  refine wpS_cond (t := false) (by simp [Act.eval, Array.replicate]) ?_
  simp only [Bool.false_eq_true, if_false]
  refine wpS_of_wp (wp_skip ?_)
  cases c₀
  simp_all [bodyPostS, results, Try.results34]
/-- What FixedOf answers of a number. -/
def FixOut (w : World) (neg : Bool) (a : Nat) (e : Ending) (w' : World) : Prop := ∃ A m c, e = .returned (.tuple #[.agg #[.bool neg, .slice A m c], .int .i64 0]) ∧ m ≤ c ∧ c ≤ maxLen ∧ a < 256 ^ m ∧ (m = 0 ∨ 256 ^ (m - 1) ≤ a) ∧ Rd w' [] A m (beL a m) ∧ Below w.heap.size w w'
theorem twoN_ne {xs : List Int} (hby : ∀ x ∈ xs, 0 ≤ x ∧ x < 256) : ((twoN xs).1 && decide ((twoN xs).2 ≠ 0)) = (twoN xs).1 := by
  unfold twoN
  split
  · have := beN_lt xs.reverse (fun x hx => hby x (List.mem_reverse.1 hx))
    rw [List.length_reverse] at this
    have h : 256 ^ xs.length - beN xs.reverse ≠ 0 := by omega
    simp [h]
  · rfl
set_option maxRecDepth 100000 in
theorem fixedOf (A : Option Addr) (c m0 : Nat) (w : World) (xs : List Int) (hr : Rd w [] A (m0 + 1) xs) (h100 : m0 + 1 ≤ 100) (hn : m0 + 1 ≤ c) (hc : c ≤ maxLen) (hby : ∀ x ∈ xs, 0 ≤ x ∧ x < 256) :
    Calls Try.prog 13 #[.slice A (m0 + 1) c, .int .i64 ((m0 : Int) + 1)] w fun e w' => FixOut w (twoN xs).1 (twoN xs).2 e w' := by
  have hmf : ∀ (fn : Fn) (first cap : Array Value) (w : World), (Instr.makeFunc fn first cap).run Try.prog w = .ok (.func fn first cap) w := fun _ _ _ _ => rfl
  have R0 := Hd.mk (R2.start w)
  have C := Hd.mk (decoder_new A (m0 + 1) c _ false false _ (hr.below R0.out.bel) hn hc hby)
  have XL := Hd.mk hr.len
  have TW := Hd.mk (twoN_ne hby)
  have i1 : ¬ ((m0 : Int) + 1 < 1) := by omega
  have i2 : ¬ ((100 : Int) < (m0 : Int) + 1) := by omega
  have i3 : (1 : Int) ≤ (m0 : Int) + 1 := by omega
  clear hr hn hc hby
  go_enter_defers Try.func13, Try.ntmps13
  go_wp2_with fail
  with_reducible refine C.out.mono ?_
  intro e w1 k1
  obtain ⟨K, rfl, k2, l1, l2, hd1, hb1⟩ := k1.to
  have C1 := Hd.mk (D_Fixed K w1 hd1 m0 h100 (by rw [k2]; exact XL.out))
  rw [k2] at C1
  have R1 := Hd.mk (R0.out.on hb1)
  have L1 := Hd.mk l1; have L2 := Hd.mk l2
  clear k1 k2 l1 l2 hd1 hb1 C
  go_wp2_with fail
  with_reducible refine C1.out.mono ?_
  rintro e w2 ⟨g, A2, l2, c2, rfl, hg, hi, hl2, ⟨hdb, hb⟩, hf⟩
  have l1 := L1.out; have l2' := L2.out
  simp at l1 l2'
  have hw1 : w.heap.size + 1 < w1.heap.size := R1.out.b1.lt
  have hq0 := R1.out.b0.bel hb (by omega) (by simp; omega)
  have hq1 := R1.out.b1.bel hb (by omega) (by simp; omega)
  have R2' := Hd.mk (show R2 w w.heap.size _ _ _ w2 from ⟨hq0, hq1, Bel.to' ((Bel.of R1.out.bel).trans (hb.weak (B' := w.heap.size) R1.out.bel.size (S' := [K.d, K.sb]) (fun x hx _ => hx))) (by simp; omega), Nat.le_refl _⟩)
  clear hq0 hq1
  have HI := Hd.mk hi
  have C2 := Hd.mk (err_blk0 K.d .nilIface _ rfl _ hdb.b.blk)
  have CB := Hd.mk (bigBack g _ A2 l2 c2 _ w2 hi hl2)
  rw [TW.out] at CB
  have hlt1 := R2'.out.b1.lt
  clear hi hdb hb hf hg hl2 C1 l1 l2'
  go_wp2_with fail
  with_reducible refine C2.out.mono ?_
  rintro e w3 ⟨rfl, rfl⟩
  clear C2
  go_wp2_with fail
  with_reducible refine CB.out.mono ?_
  rintro e w4 ⟨A4, m4, c4, rfl, k1, k2, k3, k4, k5, k6, k7⟩
  have R5 := Hd.mk (R2'.out.on k6)
  have f0 := R5.out.b0.free 0; have f0b := R5.out.b0.free 1; have f1 := R5.out.b1.free 0
  have p0 := R5.out.b0.cell 0 rfl; have p0b := R5.out.b0.cell 1 rfl; have p1 := R5.out.b1.cell 0 rfl
  have K1 := Hd.mk k1; have K2 := Hd.mk k2; have K3 := Hd.mk k3; have K4 := Hd.mk k4; have K5 := Hd.mk (k5.avoid (S := [w.heap.size, w.heap.size + 1]) (fun ad h => by have h1 := k7 ad h; simp at h1 ⊢; omega))
  clear k1 k2 k3 k4 k5 k6 k7 CB
  go_wp2_with fail
  have RF := ((R5.out.s0 (.bool (twoN xs).1)).s1 (.slice A4 m4 c4)).s2 (.int .i64 0)
  have hrd := (((K5.out.set (p := ⟨w.heap.size, 0, none⟩) (by simp) (.bool (twoN xs).1)).set (p := ⟨w.heap.size, 1, none⟩) (by simp) (.slice A4 m4 c4)).set (p := ⟨w.heap.size + 1, 0, none⟩) (by simp) (.int .i64 0)).sub (S' := []) (by simp)
  obtain ⟨V, hV⟩ : ∃ V, V = (((w4.setCell ⟨w.heap.size, 0, none⟩ (.bool (twoN xs).1)).setCell ⟨w.heap.size, 1, none⟩ (.slice A4 m4 c4)).setCell ⟨w.heap.size + 1, 0, none⟩ (.int .i64 0)) := ⟨_, rfl⟩
  rw [← hV] at RF hrd ⊢
  clear hV
  have y0 := RF.b0.cell 0 rfl; have y0b := RF.b0.cell 1 rfl; have y1 := RF.b1.cell 0 rfl
  have hbl := RF.bel
  refine leaves_cons (f := 34) (args := #[.pointer (some ⟨w.heap.size, 0, none⟩), .pointer (some ⟨w.heap.size + 1, 0, none⟩)]) (by simp) (by simp [go_sem]) ?_
  refine (catch_fixedOf _ _ _).mono ?_
  rintro e u' w'' ⟨rfl, rfl, rfl⟩
  simp [Leaves, settle, results, Try.results13, go_sem, y0, y0b, y1]
  exact ⟨A4, m4, c4, rfl, K1.out, K2.out, K3.out, K4.out, hrd, hbl⟩
end Go.Proofs.Ytjikodjljocpmaa.Kb
