/- The walk of FnAffected: the whole. -/
import Derived.Test.YtbohjafchfeheaaAff
namespace Go.Proofs.Ytbohjafchfeheaa.Kb
open Go Go.RowKit
set_option linter.unusedVariables false
set_option linter.unusedSimpArgs false
set_option maxHeartbeats 1000000
theorem catch_affected (a b c : Value) (w : World) :
    CallsD Try.prog 45 #[a, b, c] .returning w fun e u' w' => e = .returned (.tuple #[]) ∧ u' = .returning ∧ w' = w := by
  refine callsD_of_wpS Try.func45 rfl fun c₀ cs hu => ?_
  apply wpS_seq
  apply wpS_region
  simp [wpOpsS, go_sem, recoverD, hu, Try.ntmps45, Exit.thenS]
  refine wpS_cond (t := false) (by simp [Act.eval, Array.replicate]) ?_
  simp only [Bool.false_eq_true, if_false]
  refine wpS_of_wp (wp_skip ?_)
  cases c₀
  simp_all [bodyPostS, results, Try.results45]
theorem three {W : World} {g : Nat} {a0 a1 a2 : Value} {t0 t1 t2 : TypeId} (v0 v1 v2 : Value) (q0 : Blk W g #[a0] t0) (q1 : Blk W (g + 1) #[a1] t1) (q2 : Blk W (g + 1 + 1) #[a2] t2) (w : World) (hg : w.heap.size ≤ g) (hb : Below w.heap.size w W)
    (V : World) (hV : V = ((W.setCell ⟨g, 0, none⟩ v0).setCell ⟨g + 1, 0, none⟩ v1).setCell ⟨g + 1 + 1, 0, none⟩ v2) :
    V.cell? ⟨g, 0, none⟩ = some v0 ∧ V.cell? ⟨g + 1, 0, none⟩ = some v1 ∧ V.cell? ⟨g + 1 + 1, 0, none⟩ = some v2 ∧ Below w.heap.size w V ∧ ∀ G cs U, Blk W G cs U → G ≠ g → G ≠ g + 1 → G ≠ g + 1 + 1 → Blk V G cs U := by
  subst hV
  refine ⟨?_, ?_, ?_, ?_, ?_⟩
  · exact (((q0.set 0 v0).set_ne (p := ⟨g + 1, 0, none⟩) (by simp <;> omega) v1).set_ne (p := ⟨g + 1 + 1, 0, none⟩) (by simp <;> omega) v2).cell 0 rfl
  · exact (((q1.set_ne (p := ⟨g, 0, none⟩) (by simp <;> omega) v0).set 0 v1).set_ne (p := ⟨g + 1 + 1, 0, none⟩) (by simp <;> omega) v2).cell 0 rfl
  · exact (((q2.set_ne (p := ⟨g, 0, none⟩) (by simp <;> omega) v0).set_ne (p := ⟨g + 1, 0, none⟩) (by simp <;> omega) v1).set 0 v2).cell 0 rfl
  · exact ((hb.setCell (p := ⟨g, 0, none⟩) hg v0).setCell (p := ⟨g + 1, 0, none⟩) (by simp <;> omega) v1).setCell (p := ⟨g + 1 + 1, 0, none⟩) (by simp <;> omega) v2
  · intro G cs U h n1 n2 n3
    exact ((h.set_ne (p := ⟨g, 0, none⟩) (Ne.symm n1) v0).set_ne (p := ⟨g + 1, 0, none⟩) (Ne.symm n2) v1).set_ne (p := ⟨g + 1 + 1, 0, none⟩) (Ne.symm n3) v2
set_option maxRecDepth 100000 in
theorem affectedOf (A : Option Addr) (n c : Nat) (xs ns : List Int) (m : Int) (hm : m = ns.length) (w : World) (hr : Rd w [] A n xs) (hn : n ≤ c) (hc : c ≤ maxLen) (hby : ∀ x ∈ xs, 0 ≤ x ∧ x < 256) (fit : 4 * ns.length ≤ xs.length) (hn1 : ns.length ≤ 1000) (hi32 : ∀ x ∈ ns, -2147483648 ≤ x ∧ x ≤ 2147483647)
    (hx : ∀ i (hi : i < ns.length), wrap32 (numL xs (4 * i) 4) = ns[i]) :
    Calls Try.prog 20 #[.slice A n c, .int .i64 m] w fun e w' => RowsR w [] ns (.int .i64 0) e w' := by
  have hmf : ∀ (fn : Fn) (first cap : Array Value) (w : World), (Instr.makeFunc fn first cap).run Try.prog w = .ok (.func fn first cap) w := fun _ _ _ _ => rfl
  have hB : Below w.heap.size w (((w.alloc (.cells #[.slice none 0 0] 43)).alloc (.cells #[.int .i64 0] 2)).alloc (.cells #[.int .i64 0] 3)) := (((Below.refl _ _).alloc (Nat.le_refl _) _).alloc (by simp) _).alloc (by simp; omega) _
  have g0 := ((Blk.new w #[.slice none 0 0] 43).alloc (.cells #[.int .i64 0] 2)).alloc (.cells #[.int .i64 0] 3)
  have g1 := (Blk.new (w.alloc (.cells #[.slice none 0 0] 43)) #[.int .i64 0] 2).alloc (.cells #[.int .i64 0] 3)
  have g2 := Blk.new ((w.alloc (.cells #[.slice none 0 0] 43)).alloc (.cells #[.int .i64 0] 2)) #[.int .i64 0] 3
  simp only [World.size_alloc] at g0 g1 g2
  have C := Hd.mk (decoder_new A n c xs false false _ (hr.below hB) hn hc hby)
  have hm0 : ¬ m < 0 := by omega
  have hm1 : ¬ 1000 < m := by omega
  have HB := Hd.mk hB; have G0 := Hd.mk g0; have G1 := Hd.mk g1; have G2 := Hd.mk g2; have HX := Hd.mk hx; have HI := Hd.mk hi32; have FIT := Hd.mk fit; have HM := Hd.mk hm
  clear hr hn hc hby hB g0 g1 g2 hx hi32 fit hm
  go_enter_defers Try.func20, Try.ntmps20
  go_wp2_with fail
  with_reducible refine C.out.mono ?_
  intro e w1 k1
  obtain ⟨K, rfl, k2, l1, l2, hd, hb1⟩ := k1.to
  subst k2
  have C1 := Hd.mk (zzRows K ns m HM.out w1 hd FIT.out hn1 HI.out HX.out)
  have HL := Hd.mk hb1; have L1 := Hd.mk l1; have L2 := Hd.mk l2
  clear k1 l1 l2 hd hb1 C HX FIT HI
  go_wp2_with fail
  with_reducible refine C1.out.mono ?_
  rintro e w2 ⟨G, cs, rfl, hG, hgot, hge, hb⟩
  have hs1 := HL.out.size
  have l1 := L1.out; have l2 := L2.out
  simp at hs1 l1 l2
  have hg0 := (G0.out.below HL.out (by simp <;> omega)).bel hb (by omega) (by simp; omega)
  have hg1 := (G1.out.below HL.out (by simp <;> omega)).bel hb (by omega) (by simp; omega)
  have hg2 := (G2.out.below HL.out (by simp <;> omega)).bel hb (by omega) (by simp; omega)
  have HB2 := Hd.mk (Bel.to' ((Bel.of (HB.out.trans (HL.out.mono (by simp; omega)))).trans (hb.weak (B' := w.heap.size) (by omega) (S' := [K.d, K.sb]) (fun x hx _ => hx))) (by simp; omega))
  have x0 : w2.cell? ⟨w.heap.size, 0, none⟩ = some (.slice none 0 0) := hg0.cell 0 rfl
  have x1 : w2.cell? ⟨w.heap.size + 1, 0, none⟩ = some (.int .i64 0) := hg1.cell 0 rfl
  have x2 : w2.cell? ⟨w.heap.size + 1 + 1, 0, none⟩ = some (.int .i64 0) := hg2.cell 0 rfl
  have f0 := hg0.free 0; have f1 := hg1.free 0; have f2 := hg2.free 0
  have G0' := Hd.mk hg0; have G1' := Hd.mk hg1; have G2' := Hd.mk hg2; have HG := Hd.mk hG; have HGot := Hd.mk hgot
  clear hb hg0 hg1 hg2 HB HL G0 G1 G2 C1 hG hgot
  obtain ⟨W, hW⟩ : ∃ W, W = (w2.setCell ⟨w.heap.size, 0, none⟩ (.slice (some ⟨G, 0, none⟩) ns.length ns.length)).setCell ⟨w.heap.size + 1, 0, none⟩ (.int .i64 (posSum ns)) := ⟨_, rfl⟩
  have q0 : Blk W w.heap.size #[.slice (some ⟨G, 0, none⟩) ns.length ns.length] 43 := by
    rw [hW]
    exact ((G0'.out.set 0 (.slice (some ⟨G, 0, none⟩) ns.length ns.length)).set_ne (p := ⟨w.heap.size + 1, 0, none⟩) (by simp <;> omega) _).cast (by simp)
  have q1 : Blk W (w.heap.size + 1) #[.int .i64 (posSum ns)] 2 := by
    rw [hW]
    exact ((G1'.out.set_ne (p := ⟨w.heap.size, 0, none⟩) (by simp <;> omega) _).set 0 (.int .i64 (posSum ns))).cast (by simp)
  have q2 : Blk W (w.heap.size + 1 + 1) #[.int .i64 0] 3 := by
    rw [hW]
    exact (G2'.out.set_ne (p := ⟨w.heap.size, 0, none⟩) (by simp <;> omega) _).set_ne (p := ⟨w.heap.size + 1, 0, none⟩) (by simp <;> omega) _
  have q3 := (HG.out.set_ne (p := ⟨w.heap.size, 0, none⟩) (by simp <;> omega) (.slice (some ⟨G, 0, none⟩) ns.length ns.length)).set_ne (p := ⟨w.heap.size + 1, 0, none⟩) (by simp <;> omega) (.int .i64 (posSum ns))
  have hbl := (HB2.out.setCell (p := ⟨w.heap.size, 0, none⟩) (by simp <;> omega) (.slice (some ⟨G, 0, none⟩) ns.length ns.length)).setCell (p := ⟨w.heap.size + 1, 0, none⟩) (by simp <;> omega) (.int .i64 (posSum ns))
  rw [← hW] at q3 hbl
  have Q0 := Hd.mk q0; have Q1 := Hd.mk q1; have Q2 := Hd.mk q2; have Q3 := Hd.mk q3; have HBL := Hd.mk hbl
  clear G0' G1' G2' HG HB2 q3 hbl
  go_wp2_with fail
  rw [← hW]
  clear hW x0 x1 x2 f0 f1 f2
  have x0 : W.cell? ⟨w.heap.size, 0, none⟩ = some (.slice (some ⟨G, 0, none⟩) ns.length ns.length) := q0.cell 0 rfl
  have x1 : W.cell? ⟨w.heap.size + 1, 0, none⟩ = some (.int .i64 (posSum ns)) := q1.cell 0 rfl
  have x2 : W.cell? ⟨w.heap.size + 1 + 1, 0, none⟩ = some (.int .i64 0) := q2.cell 0 rfl
  have f0 := q0.free 0; have f1 := q1.free 0; have f2 := q2.free 0
  clear q0 q1 q2
  go_region
  all_goals
    go_wp2
    obtain ⟨V, hV⟩ : ∃ V, V = ((W.setCell ⟨w.heap.size, 0, none⟩ (.slice (some ⟨G, 0, none⟩) ns.length ns.length)).setCell ⟨w.heap.size + 1, 0, none⟩ (.int .i64 (posSum ns))).setCell ⟨w.heap.size + 1 + 1, 0, none⟩ (.int .i64 0) := ⟨_, rfl⟩
    rw [← hV]
    obtain ⟨y0, y1, y2, hbl, hblk⟩ := three _ _ _ Q0.out Q1.out Q2.out w (Nat.le_refl _) HBL.out V hV
    have hq := hblk _ _ _ Q3.out (by omega) (by omega) (by omega)
    clear hV hblk
    refine leaves_cons (f := 45) (args := #[.pointer (some ⟨w.heap.size, 0, none⟩), .pointer (some ⟨w.heap.size + 1, 0, none⟩), .pointer (some ⟨w.heap.size + 1 + 1, 0, none⟩)]) (by simp) (by simp [go_sem]) ?_
    refine (catch_affected _ _ _ _).mono ?_
    rintro e u' w'' ⟨rfl, rfl, rfl⟩
    simp [Leaves, settle, results, Try.results20, go_sem, y0, y1, y2]
    exact ⟨G, cs, rfl, hq.drew, HGot.out, by omega, (Bel.of hbl).drew⟩
end Go.Proofs.Ytbohjafchfeheaa.Kb
