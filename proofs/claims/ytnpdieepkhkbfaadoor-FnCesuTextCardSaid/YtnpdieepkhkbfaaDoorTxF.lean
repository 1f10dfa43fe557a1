/- impl.Cesu8Bytes. -/
import Derived.Test.YtnpdieepkhkbfaaDoorTxE
import Derived.Defers
import Derived.Recover
namespace Go.Proofs.YtnpdieepkhkbfaaDoor.Kb
open Go Go.RowKit
set_option linter.unusedVariables false
set_option linter.unusedSimpArgs false
set_option maxHeartbeats 2000000
/-- What makes an Encoder or a Decoder answers. -/
def NewT (T S : TypeId) (w : World) (e : Ending) (w' : World) : Prop := ∃ p, e = .returned (.iface T (.pointer (some ⟨p, 0, none⟩))) ∧ Blk w' p #[.nilFunc] S ∧ w.heap.size ≤ p ∧ Below w.heap.size w w'
def NewP (S : TypeId) (w : World) (e : Ending) (w' : World) : Prop := ∃ p, e = .returned (.pointer (some ⟨p, 0, none⟩)) ∧ Blk w' p #[.nilFunc] S ∧ w.heap.size ≤ p ∧ Below w.heap.size w w'
set_option maxRecDepth 100000 in
theorem newEnc (w : World) : Calls Tryd.prog 29 #[.nilFunc] w fun e w' => NewP 76 w e w' := by
  go_enter Tryd.func29, Tryd.ntmps29
  go_wp2
  go_ret
  exact ⟨_, rfl, Blk.new _ _ _, Nat.le_refl _, (Below.refl _ _).alloc (Nat.le_refl _) _⟩
set_option maxRecDepth 100000 in
theorem newDec (w : World) : Calls Tryd.prog 32 #[.nilFunc] w fun e w' => NewP 79 w e w' := by
  go_enter Tryd.func32, Tryd.ntmps32
  go_wp2
  go_ret
  exact ⟨_, rfl, Blk.new _ _ _, Nat.le_refl _, (Below.refl _ _).alloc (Nat.le_refl _) _⟩
set_option maxRecDepth 100000 in
theorem dfltEnc (w : World) : Calls Tryd.prog 36 #[] w fun e w' => NewP 76 w e w' := by
  have C := Hd.mk (newEnc w)
  go_enter Tryd.func36, Tryd.ntmps36
  go_wp2_with fail
  with_reducible refine C.out.mono ?_
  rintro e w2 ⟨p, rfl, h1, h2, h3⟩
  have H := Hd.mk (And.intro h1 (And.intro h2 h3))
  clear h1 h2 h3 C
  go_wp2
  go_ret
  exact ⟨p, rfl, H.out⟩
set_option maxRecDepth 100000 in
theorem dfltDec (w : World) : Calls Tryd.prog 37 #[] w fun e w' => NewP 79 w e w' := by
  have C := Hd.mk (newDec w)
  go_enter Tryd.func37, Tryd.ntmps37
  go_wp2_with fail
  with_reducible refine C.out.mono ?_
  rintro e w2 ⟨p, rfl, h1, h2, h3⟩
  have H := Hd.mk (And.intro h1 (And.intro h2 h3))
  clear h1 h2 h3 C
  go_wp2
  go_ret
  exact ⟨p, rfl, H.out⟩
set_option maxRecDepth 100000 in
theorem ifcEnc (w : World) : Calls Tryd.prog 31 #[] w fun e w' => NewT 60 76 w e w' := by
  have C := Hd.mk (dfltEnc w)
  go_enter Tryd.func31, Tryd.ntmps31
  go_wp2_with fail
  with_reducible refine C.out.mono ?_
  rintro e w2 ⟨p, rfl, h1, h2, h3⟩
  have H := Hd.mk (And.intro h1 (And.intro h2 h3))
  clear h1 h2 h3 C
  go_wp2
  go_ret
  exact ⟨p, rfl, H.out⟩
set_option maxRecDepth 100000 in
theorem ifcDec (w : World) : Calls Tryd.prog 33 #[] w fun e w' => NewT 64 79 w e w' := by
  have C := Hd.mk (dfltDec w)
  go_enter Tryd.func33, Tryd.ntmps33
  go_wp2_with fail
  with_reducible refine C.out.mono ?_
  rintro e w2 ⟨p, rfl, h1, h2, h3⟩
  have H := Hd.mk (And.intro h1 (And.intro h2 h3))
  clear h1 h2 h3 C
  go_wp2
  go_ret
  exact ⟨p, rfl, H.out⟩
set_option maxRecDepth 100000 in
theorem cesuOfE (w : World) : Calls Tryd.prog 19 #[.bool true, .bool false] w fun e w' => NewT 60 76 w e w' := by
  have C := Hd.mk (ifcEnc w)
  go_enter Tryd.func19, Tryd.ntmps19
  go_wp2_with fail
  with_reducible refine C.out.mono ?_
  rintro e w2 ⟨p, rfl, h1, h2, h3⟩
  have H := Hd.mk (And.intro h1 (And.intro h2 h3))
  clear h1 h2 h3 C
  go_wp2
  go_ret
  exact ⟨p, rfl, H.out⟩
set_option maxRecDepth 100000 in
theorem cesuOfD (w : World) : Calls Tryd.prog 19 #[.bool false, .bool false] w fun e w' => NewT 64 79 w e w' := by
  have C := Hd.mk (ifcDec w)
  go_enter Tryd.func19, Tryd.ntmps19
  go_wp2_with fail
  with_reducible refine C.out.mono ?_
  rintro e w2 ⟨p, rfl, h1, h2, h3⟩
  have H := Hd.mk (And.intro h1 (And.intro h2 h3))
  clear h1 h2 h3 C
  go_wp2
  go_ret
  exact ⟨p, rfl, H.out⟩
theorem catch_ce8 (a0 a1 : Value) (w : World) :
    CallsD Tryd.prog 17 #[a0, a1] .returning w fun e u' w' => e = .returned (.tuple #[]) ∧ u' = .returning ∧ w' = w := by
  refine callsD_of_wpS Tryd.func17 rfl fun c₀ cs hu => ?_
  apply wpS_seq
  apply wpS_region
  simp [wpOpsS, go_sem, recoverD, hu, Tryd.ntmps17, Exit.thenS]
  refine wpS_cond (t := false) (by simp [Act.eval, Array.replicate]) ?_
  simp only [Bool.false_eq_true, if_false]
  refine wpS_of_wp (wp_skip ?_)
  cases c₀
  simp_all [bodyPostS, results, Tryd.results17]
/-- What Cesu8Bytes answers. -/
def Ce8Out (w : World) (xs : List Int) (e : Ending) (w' : World) : Prop := ∃ g c, e = .returned (.tuple #[.slice (some ⟨g, 0, none⟩) xs.length c, .int .i64 0]) ∧ xs.length ≤ c ∧ c ≤ maxLen ∧ Rd w' [] (some ⟨g, 0, none⟩) xs.length xs ∧ Below w.heap.size w w'
theorem ce8_cells (w : World) : Blk ((w.alloc (.cells #[.slice none 0 0] 22)).alloc (.cells #[.int .i64 0] 3)) w.heap.size #[.slice none 0 0] 22 ∧ Blk ((w.alloc (.cells #[.slice none 0 0] 22)).alloc (.cells #[.int .i64 0] 3)) (w.heap.size + 1) #[.int .i64 0] 3 ∧ Below w.heap.size w ((w.alloc (.cells #[.slice none 0 0] 22)).alloc (.cells #[.int .i64 0] 3)) := by
  have g0 := (Blk.new w #[.slice none 0 0] 22).alloc (.cells #[.int .i64 0] 3)
  have g1 := Blk.new (w.alloc (.cells #[.slice none 0 0] 22)) #[.int .i64 0] 3
  simp only [World.size_alloc] at g1
  exact ⟨g0, g1, ((Below.refl _ _).alloc (Nat.le_refl _) _).alloc (by simp) _⟩
set_option maxRecDepth 100000 in
theorem ce8 (b : Bool) (T S : TypeId) (g n c : Nat) (xs : List Int) (w : World) (hn : n ≤ 65536)
    (CO : ∀ W, Calls Tryd.prog 19 #[.bool b, .bool false] W fun e w' => NewT T S W e w')
    (CB : ∀ p W, Below w.heap.size w W → Blk W p #[.nilFunc] S → Calls Tryd.prog 18 #[.iface T (.pointer (some ⟨p, 0, none⟩)), .slice (some ⟨g, 0, none⟩) n c] W fun e w' => BytesOf W xs n e w') :
    Calls Tryd.prog 10 #[.bool b, .bool false, .slice (some ⟨g, 0, none⟩) n c] w fun e w' => Ce8Out w xs e w' := by
  have hmf : ∀ (fn : Fn) (first cap : Array Value) (w : World), (Instr.makeFunc fn first cap).run Tryd.prog w = .ok (.func fn first cap) w := fun _ _ _ _ => rfl
  obtain ⟨g0, g1, g2⟩ := ce8_cells w
  have G0 := Hd.mk g0; have G1 := Hd.mk g1; have G2 := Hd.mk g2
  have CO' := Hd.mk CO; have CB' := Hd.mk CB
  have i1 : ¬ (65536 : Int) < n := by omega
  clear g0 g1 g2 CO CB
  go_enter_defers Tryd.func10, Tryd.ntmps10
  go_wp2_with fail
  with_reducible refine (CO'.out _).mono ?_
  rintro e w1 ⟨p, rfl, hp, hpl, hb1⟩
  have HB1 := Hd.mk (G2.out.trans (hb1.mono G2.out.size))
  have G0' := Hd.mk (G0.out.below hb1 G0.out.lt); have G1' := Hd.mk (G1.out.below hb1 G1.out.lt)
  have CC := Hd.mk (CB'.out p w1 HB1.out hp)
  clear hp hpl hb1 CO' CB' G0 G1
  go_wp2_with fail
  with_reducible refine CC.out.mono ?_
  rintro e w2 ⟨g3, c3, rfl, k1, k2, k3, k4, hb2⟩
  have HB2 := Hd.mk (HB1.out.trans (hb2.mono HB1.out.size))
  have q0 := G0'.out.below hb2 G0'.out.lt; have q1 := G1'.out.below hb2 G1'.out.lt
  have Q0 := Hd.mk q0; have Q1 := Hd.mk q1
  have x0 := q0.cell 0 rfl; have x1 := q1.cell 0 rfl; have f0 := q0.free 0; have f1 := q1.free 0
  have K1 := Hd.mk k1; have K2 := Hd.mk k2; have K4 := Hd.mk k4
  have lt1 := G1'.out.lt
  have K3 := Hd.mk k3
  clear q0 q1 k1 k2 k3 k4 hb2 CC
  go_wp2_with fail
  obtain ⟨W, hW⟩ : ∃ W, W = ((w2.setCell ⟨w.heap.size, 0, none⟩ (.slice (some ⟨g3, 0, none⟩) xs.length c3)).setCell ⟨w.heap.size, 0, none⟩ (.slice (some ⟨g3, 0, none⟩) xs.length c3)).setCell ⟨w.heap.size + 1, 0, none⟩ (.int .i64 0) := ⟨_, rfl⟩
  have y0 : W.cell? ⟨w.heap.size, 0, none⟩ = some (.slice (some ⟨g3, 0, none⟩) xs.length c3) := by rw [hW]; exact (((Q0.out.set 0 _).set 0 (.slice (some ⟨g3, 0, none⟩) xs.length c3)).set_ne (p := ⟨w.heap.size + 1, 0, none⟩) (by simp) _).cell 0 rfl
  have y1 : W.cell? ⟨w.heap.size + 1, 0, none⟩ = some (.int .i64 0) := by rw [hW]; exact (((Q1.out.set_ne (p := ⟨w.heap.size, 0, none⟩) (by simp) _).set_ne (p := ⟨w.heap.size, 0, none⟩) (by simp) _).set 0 (.int .i64 0)).cell 0 rfl
  have hbl : Below w.heap.size w W := by rw [hW]; exact ((HB2.out.setCell (p := ⟨w.heap.size, 0, none⟩) (Nat.le_refl _) _).setCell (p := ⟨w.heap.size, 0, none⟩) (Nat.le_refl _) _).setCell (p := ⟨w.heap.size + 1, 0, none⟩) (by simp) _
  have hrd : Rd W [] (some ⟨g3, 0, none⟩) xs.length xs := by
    rw [hW]
    have h1 := K4.out
    refine ⟨rfl, K3.out.small, fun j hj => ?_⟩
    obtain ⟨ad, e1, e2, e3, e4⟩ := K3.out.at_ j hj
    cases e1
    refine ⟨_, rfl, ?_, by simpa [World.setCell] using e3, by simp⟩
    rw [World.cell?_setCell_far _ _ _ _ (by rw [add_mk]; simp; omega), World.cell?_setCell_far _ _ _ _ (by rw [add_mk]; simp; omega), World.cell?_setCell_far _ _ _ _ (by rw [add_mk]; simp; omega)]
    exact e2
  rw [← hW]
  clear hW x0 x1 f0 f1
  refine leaves_cons (f := 17) (args := #[.pointer (some ⟨w.heap.size, 0, none⟩), .pointer (some ⟨w.heap.size + 1, 0, none⟩)]) (by simp) (by simp [go_sem]) ?_
  refine (catch_ce8 _ _ _).mono ?_
  rintro e u' w'' ⟨rfl, rfl, rfl⟩
  simp [Leaves, settle, results, Tryd.results10, go_sem, y0, y1]
  exact ⟨g3, c3, rfl, K1.out, K2.out, hrd, hbl⟩
end Go.Proofs.YtnpdieepkhkbfaaDoor.Kb
