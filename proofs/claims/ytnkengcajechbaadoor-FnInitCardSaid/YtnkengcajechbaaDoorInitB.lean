/- The request of a connection: the doors. -/
import Derived.Test.YtnkengcajechbaaDoorInitA
import Derived.Test.YtnkengcajechbaaDoorArrs
import Derived.Test.YtnkengcajechbaaDoorRdw
import Derived.BigRegion
import Derived.Deep.RegionHeld3
namespace Go.Proofs.YtnkengcajechbaaDoor.Kb
open Go Go.RowKit
set_option linter.unusedVariables false
set_option linter.unusedSimpArgs false
set_option maxHeartbeats 4000000

theorem own_sliceI {w : World} {b n s : Nat} {e : TypeId} {v : Value} {xs : List Value} (h : w.ownsRow b e s v n xs) : ∃ A l c, v = .slice A l c := by
  rcases h.2 with ⟨rfl, rfl⟩ | ⟨g, c, cs, rfl, _⟩
  · exact ⟨_, _, _, rfl⟩
  · exact ⟨_, _, _, rfl⟩
theorem glob_below {w w' : World} {v : Value} (h : w.cell? ⟨0, 0, none⟩ = some v) (hb : Below w.heap.size w w') : w'.cell? ⟨0, 0, none⟩ = some v :=
  (hb.cell (p := ⟨0, 0, none⟩) (lt_of_cell h)).trans h
theorem catch_initBytes (a0 a1 : Value) (w : World) :
    CallsD Tryd.prog 8 #[a0, a1] .returning w fun e u' w' => e = .returned (.tuple #[]) ∧ u' = .returning ∧ w' = w := by
  refine callsD_of_wpS Tryd.func8 rfl fun c₀ cs hu => ?_
  apply wpS_seq
  apply wpS_region
  simp [wpOpsS, go_sem, recoverD, hu, Tryd.ntmps8, Exit.thenS]
  refine wpS_cond (t := false) (by simp [Act.eval, Array.replicate]) ?_
  simp only [Bool.false_eq_true, if_false]
  refine wpS_of_wp (wp_skip ?_)
  cases c₀
  simp_all [bodyPostS, results, Tryd.results8]

theorem catch_initOf (a0 a1 a2 : Value) (w : World) :
    CallsD Tryd.prog 11 #[a0, a1, a2] .returning w fun e u' w' => e = .returned (.tuple #[]) ∧ u' = .returning ∧ w' = w := by
  refine callsD_of_wpS Tryd.func11 rfl fun c₀ cs hu => ?_
  apply wpS_seq
  apply wpS_region
  simp [wpOpsS, go_sem, recoverD, hu, Tryd.ntmps11, Exit.thenS]
  refine wpS_cond (t := false) (by simp [Act.eval, Array.replicate]) ?_
  simp only [Bool.false_eq_true, if_false]
  refine wpS_of_wp (wp_skip ?_)
  cases c₀
  simp_all [bodyPostS, results, Tryd.results11]

set_option maxRecDepth 100000 in
theorem zzInit0 (eb sb wr tb : Nat) (x0 x1 x2 x3 x5 : Int) (b0 : -128 ≤ x0 ∧ x0 ≤ 127) (b1 : -32768 ≤ x1 ∧ x1 ≤ 32767) (b2 : -128 ≤ x2 ∧ x2 ≤ 127) (b3 : -32768 ≤ x3 ∧ x3 ≤ 32767) (b5 : -128 ≤ x5 ∧ x5 ≤ 127) (w : World) (h : Enc0 w eb sb wr tb) (hgl : w.cell? ⟨0, 0, none⟩ = some (.int .u32 4294967295)) :
    Calls Tryd.prog 9 #[.pointer (some ⟨eb, 0, none⟩), .agg #[.int .i64 x0, .int .i64 x1, .int .i64 x2, .int .i64 x3, .int .i64 0, .int .i64 0]] w fun e w' => e = .returned (.tuple #[]) ∧ Sent w sb wr (leB 4 4294967295 ++ (leB 1 x0 ++ (leB 2 x1 ++ (leB 1 x2 ++ (leB 2 x3 ++ (List.replicate 4 0)))))) w' := by
  obtain ⟨p0, q0⟩ := b0; obtain ⟨p1, q1⟩ := b1; obtain ⟨p2, q2⟩ := b2; obtain ⟨p3, q3⟩ := b3; obtain ⟨p5, q5⟩ := b5
  have hb : Below w.heap.size w ((w.alloc (.cells #[.int .i64 x0, .int .i64 x1, .int .i64 x2, .int .i64 x3, .int .i64 0, .int .i64 0] 24)).alloc (.cells #[.int .i8 x0, .int .i16 x1, .int .i8 x2, .int .i16 x3, .int .i8 0, .int .i8 0] 54)) := ((Below.refl _ _).alloc (Nat.le_refl _) _).alloc (by simp) _
  have hg : Blk ((w.alloc (.cells #[.int .i64 x0, .int .i64 x1, .int .i64 x2, .int .i64 x3, .int .i64 0, .int .i64 0] 24)).alloc (.cells #[.int .i8 x0, .int .i16 x1, .int .i8 x2, .int .i16 x3, .int .i8 0, .int .i8 0] 54)) (w.heap.size + 1) #[.int .i8 x0, .int .i16 x1, .int .i8 x2, .int .i16 x3, .int .i8 0, .int .i8 0] 54 := by
    have := Blk.new (w.alloc (.cells #[.int .i64 x0, .int .i64 x1, .int .i64 x2, .int .i64 x3, .int .i64 0, .int .i64 0] 24)) #[.int .i8 x0, .int .i16 x1, .int .i8 x2, .int .i16 x3, .int .i8 0, .int .i8 0] 54
    simpa using this
  have h2 := h.below hb
  have hE := Enc.start h2.b1 h2.b2 h2.b3 h2.n1 h2.n2 h2.n3
  have l2 := h.b2.lt; have l3 := h.b3.lt
  have C2 := Hd.mk (enc_init0 _ _ _ hE _ x0 x1 x2 x3 x5 hg hg.lt (by simp; omega) (by simp; omega) (glob_below hgl hb) (by simp))
  have HB := Hd.mk hb
  clear hb hg h2 hE h l2 l3 hgl
  go_enter Tryd.func9, Tryd.ntmps9
  go_wp2_with fail
  with_reducible refine C2.out.mono ?_
  rintro e w2 ⟨rfl, hw⟩
  have HW := Hd.mk (Sent.of hw rfl rfl HB.out.size HB.out)
  clear hw C2
  go_wp2
  go_end0
  exact ⟨rfl, HW.out⟩
set_option maxRecDepth 100000 in
theorem zzInit1 (eb sb wr tb : Nat) (x0 x1 x2 x3 x5 : Int) (b0 : -128 ≤ x0 ∧ x0 ≤ 127) (b1 : -32768 ≤ x1 ∧ x1 ≤ 32767) (b2 : -128 ≤ x2 ∧ x2 ≤ 127) (b3 : -32768 ≤ x3 ∧ x3 ≤ 32767) (b5 : -128 ≤ x5 ∧ x5 ≤ 127) (w : World) (h : Enc0 w eb sb wr tb) (hgl : w.cell? ⟨0, 0, none⟩ = some (.int .u32 4294967295)) :
    Calls Tryd.prog 9 #[.pointer (some ⟨eb, 0, none⟩), .agg #[.int .i64 x0, .int .i64 x1, .int .i64 x2, .int .i64 x3, .int .i64 1, .int .i64 x5]] w fun e w' => e = .returned (.tuple #[]) ∧ Sent w sb wr (leB 4 4294967295 ++ (leB 1 x0 ++ (leB 2 x1 ++ (leB 1 x2 ++ (leB 2 x3 ++ (List.replicate 1 0 ++ (leB 1 1 ++ (leB 1 1 ++ (leB 1 x5))))))))) w' := by
  obtain ⟨p0, q0⟩ := b0; obtain ⟨p1, q1⟩ := b1; obtain ⟨p2, q2⟩ := b2; obtain ⟨p3, q3⟩ := b3; obtain ⟨p5, q5⟩ := b5
  have hb : Below w.heap.size w ((w.alloc (.cells #[.int .i64 x0, .int .i64 x1, .int .i64 x2, .int .i64 x3, .int .i64 1, .int .i64 x5] 24)).alloc (.cells #[.int .i8 x0, .int .i16 x1, .int .i8 x2, .int .i16 x3, .int .i8 1, .int .i8 x5] 54)) := ((Below.refl _ _).alloc (Nat.le_refl _) _).alloc (by simp) _
  have hg : Blk ((w.alloc (.cells #[.int .i64 x0, .int .i64 x1, .int .i64 x2, .int .i64 x3, .int .i64 1, .int .i64 x5] 24)).alloc (.cells #[.int .i8 x0, .int .i16 x1, .int .i8 x2, .int .i16 x3, .int .i8 1, .int .i8 x5] 54)) (w.heap.size + 1) #[.int .i8 x0, .int .i16 x1, .int .i8 x2, .int .i16 x3, .int .i8 1, .int .i8 x5] 54 := by
    have := Blk.new (w.alloc (.cells #[.int .i64 x0, .int .i64 x1, .int .i64 x2, .int .i64 x3, .int .i64 1, .int .i64 x5] 24)) #[.int .i8 x0, .int .i16 x1, .int .i8 x2, .int .i16 x3, .int .i8 1, .int .i8 x5] 54
    simpa using this
  have h2 := h.below hb
  have hE := Enc.start h2.b1 h2.b2 h2.b3 h2.n1 h2.n2 h2.n3
  have l2 := h.b2.lt; have l3 := h.b3.lt
  have C2 := Hd.mk (enc_init1 _ _ _ hE _ x0 x1 x2 x3 x5 hg hg.lt (by simp; omega) (by simp; omega) (glob_below hgl hb) (by simp))
  have HB := Hd.mk hb
  clear hb hg h2 hE h l2 l3 hgl
  go_enter Tryd.func9, Tryd.ntmps9
  go_wp2_with fail
  with_reducible refine C2.out.mono ?_
  rintro e w2 ⟨rfl, hw⟩
  have HW := Hd.mk (Sent.of hw rfl rfl HB.out.size HB.out)
  clear hw C2
  go_wp2
  go_end0
  exact ⟨rfl, HW.out⟩
set_option maxRecDepth 100000 in
theorem initBytes0 (x0 x1 x2 x3 x5 : Int) (b0 : -128 ≤ x0 ∧ x0 ≤ 127) (b1 : -32768 ≤ x1 ∧ x1 ≤ 32767) (b2 : -128 ≤ x2 ∧ x2 ≤ 127) (b3 : -32768 ≤ x3 ∧ x3 ≤ 32767) (b5 : -128 ≤ x5 ∧ x5 ≤ 127) (w : World) (hgl : w.cell? ⟨0, 0, none⟩ = some (.int .u32 4294967295)) :
    Calls Tryd.prog 5 #[.agg #[.int .i64 x0, .int .i64 x1, .int .i64 x2, .int .i64 x3, .int .i64 0, .int .i64 0]] w fun e w' => ∃ v, e = .returned (.tuple #[v, .int .i64 0]) ∧ Made w (leB 4 4294967295 ++ (leB 1 x0 ++ (leB 2 x1 ++ (leB 1 x2 ++ (leB 2 x3 ++ (List.replicate 4 0)))))) (.returned v) w' := by
  have hmf : ∀ (fn : Fn) (first cap : Array Value) (w : World), (Instr.makeFunc fn first cap).run Tryd.prog w = .ok (.func fn first cap) w := fun _ _ _ _ => rfl
  have hB : Below w.heap.size w ((((w.alloc (.cells #[.int .i64 x0, .int .i64 x1, .int .i64 x2, .int .i64 x3, .int .i64 0, .int .i64 0] 24)).alloc (.cells #[.slice none 0 0] 25)).alloc (.cells #[.int .i64 0] 3)).alloc (.cells #[.slice none 0 0] 37)) := ((((Below.refl _ _).alloc (Nat.le_refl _) _).alloc (by simp) _).alloc (by simp <;> omega) _).alloc (by simp <;> omega) _
  have hA := (((Blk.new w #[.int .i64 x0, .int .i64 x1, .int .i64 x2, .int .i64 x3, .int .i64 0, .int .i64 0] 24).alloc (.cells #[.slice none 0 0] 25)).alloc (.cells #[.int .i64 0] 3)).alloc (.cells #[.slice none 0 0] 37)
  have g0 := ((Blk.new (w.alloc (.cells #[.int .i64 x0, .int .i64 x1, .int .i64 x2, .int .i64 x3, .int .i64 0, .int .i64 0] 24)) #[.slice none 0 0] 25).alloc (.cells #[.int .i64 0] 3)).alloc (.cells #[.slice none 0 0] 37)
  have g1 := (Blk.new ((w.alloc (.cells #[.int .i64 x0, .int .i64 x1, .int .i64 x2, .int .i64 x3, .int .i64 0, .int .i64 0] 24)).alloc (.cells #[.slice none 0 0] 25)) #[.int .i64 0] 3).alloc (.cells #[.slice none 0 0] 37)
  have g2 := Blk.new (((w.alloc (.cells #[.int .i64 x0, .int .i64 x1, .int .i64 x2, .int .i64 x3, .int .i64 0, .int .i64 0] 24)).alloc (.cells #[.slice none 0 0] 25)).alloc (.cells #[.int .i64 0] 3)) #[.slice none 0 0] 37
  simp only [World.size_alloc] at g0 g1 g2
  have HA := Hd.mk hA; have HB := Hd.mk hB; have G0 := Hd.mk g0; have G1 := Hd.mk g1; have G2 := Hd.mk g2; have GL := Hd.mk (glob_below hgl hB)
  have Z := Hd.mk (fun eb sb tb w h hg => zzInit0 eb sb (w : World × Nat).2 tb x0 x1 x2 x3 x5 b0 b1 b2 b3 b5 w.1 h hg)
  clear hA hB g0 g1 g2 hgl b0 b1 b2 b3 b5
  go_enter_defers Tryd.func5, Tryd.ntmps5
  go_wp2_with fail
  obtain ⟨W, hWW⟩ : ∃ W, W = ((((w.alloc (.cells #[.int .i64 x0, .int .i64 x1, .int .i64 x2, .int .i64 x3, .int .i64 0, .int .i64 0] 24)).alloc (.cells #[.slice none 0 0] 25)).alloc (.cells #[.int .i64 0] 3)).alloc (.cells #[.slice none 0 0] 37)) := ⟨_, rfl⟩
  rw [← hWW]
  have hs : W.heap.size = w.heap.size + 1 + 1 + 1 + 1 := by rw [hWW]; simp
  rw [← hWW] at HA HB G0 G1 G2 GL
  have HS := Hd.mk hs
  clear hWW hs
  have a0 : W.cell? ⟨w.heap.size, 0, none⟩ = some (.int .i64 x0) := HA.out.cell 0 rfl
  have a1 : W.cell? ⟨w.heap.size, 1, none⟩ = some (.int .i64 x1) := HA.out.cell 1 rfl
  have a2 : W.cell? ⟨w.heap.size, 2, none⟩ = some (.int .i64 x2) := HA.out.cell 2 rfl
  have a3 : W.cell? ⟨w.heap.size, 3, none⟩ = some (.int .i64 x3) := HA.out.cell 3 rfl
  have a4 : W.cell? ⟨w.heap.size, 4, none⟩ = some (.int .i64 0) := HA.out.cell 4 rfl
  have a5 : W.cell? ⟨w.heap.size, 5, none⟩ = some (.int .i64 0) := HA.out.cell 5 rfl
  refine wp_region_noPanic ?_
  go_region_with (first | (go_at_call 10; (with_reducible refine (encoder_new _ _).mono ?_); intro e w1 h1; obtain ⟨eb, sb, tb, rfl, he, k1, k2, k3, hl⟩ := Enc0.of (w := W.drew) G2.out.drew h1; have b0 : w1.cell? ⟨w.heap.size, 0, none⟩ = some (.int .i64 x0) := (HA.out.drew.below hl HA.out.lt).cell 0 rfl; have b1 : w1.cell? ⟨w.heap.size, 1, none⟩ = some (.int .i64 x1) := (HA.out.drew.below hl HA.out.lt).cell 1 rfl; have b2 : w1.cell? ⟨w.heap.size, 2, none⟩ = some (.int .i64 x2) := (HA.out.drew.below hl HA.out.lt).cell 2 rfl; have b3 : w1.cell? ⟨w.heap.size, 3, none⟩ = some (.int .i64 x3) := (HA.out.drew.below hl HA.out.lt).cell 3 rfl; have b4 : w1.cell? ⟨w.heap.size, 4, none⟩ = some (.int .i64 0) := (HA.out.drew.below hl HA.out.lt).cell 4 rfl; have b5 : w1.cell? ⟨w.heap.size, 5, none⟩ = some (.int .i64 0) := (HA.out.drew.below hl HA.out.lt).cell 5 rfl; have HE := Hd.mk he; have HL := Hd.mk hl; have K2 := Hd.mk k2; have HGl := Hd.mk (glob_below (w := W.drew) GL.out hl); clear h1 he k1 k2 k3 hl) | (go_at_call 9; (with_reducible refine (Z.out _ _ _ (_, _) HE.out HGl.out).mono ?_); rintro e w2 ⟨rfl, hsent⟩))
  all_goals
    refine NoPanic.normal ?_
    obtain ⟨v, hv, hown, hb⟩ := hsent
    obtain ⟨A, l', c', rfl⟩ := own_sliceI hown
    have c : w2.cell? ⟨w.heap.size + 1 + 1 + 1, 0, none⟩ = some (.slice A l' c') := hv.cell 0 rfl
    have hp2 := K2.out; have hS := HS.out
    have hs1 := HL.out.size
    simp at hp2 hs1
    have hL : Below w.heap.size w w1 := HB.out.drew.trans (HL.out.mono (by simp; omega))
    have hg0 := (G0.out.drew.below HL.out (by simp <;> omega)).bel hb (by omega) (by simp; omega)
    have hg1 := (G1.out.drew.below HL.out (by simp <;> omega)).bel hb (by omega) (by simp; omega)
    have f0 := hg0.free 0; have f1 := hg1.free 0
    have x0 : w2.cell? ⟨w.heap.size + 1, 0, none⟩ = some (.slice none 0 0) := hg0.cell 0 rfl
    have x1 : w2.cell? ⟨w.heap.size + 1 + 1, 0, none⟩ = some (.int .i64 0) := hg1.cell 0 rfl
    have HO := Hd.mk hown; have G0' := Hd.mk hg0; have G1' := Hd.mk hg1
    have HB2 := Hd.mk (Bel.to' ((Bel.of hL).trans (hb.weak (B' := w.heap.size) (by omega) (S' := [sb, w.heap.size + 1 + 1 + 1]) (fun x hx _ => hx))) (by simp; omega))
    clear hv hown hb hL hg0 hg1
    go_wp2
    obtain ⟨V, hV⟩ : ∃ V, V = (w2.setCell ⟨w.heap.size + 1, 0, none⟩ (.slice A l' c')).setCell ⟨w.heap.size + 1 + 1, 0, none⟩ (.int .i64 0) := ⟨_, rfl⟩
    rw [← hV]
    have y0 : V.cell? ⟨w.heap.size + 1, 0, none⟩ = some (.slice A l' c') := by rw [hV]; exact ((G0'.out.set 0 (.slice A l' c')).set_ne (p := ⟨w.heap.size + 1 + 1, 0, none⟩) (by simp) _).cell 0 rfl
    have y1 : V.cell? ⟨w.heap.size + 1 + 1, 0, none⟩ = some (.int .i64 0) := by rw [hV]; exact ((G1'.out.set_ne (p := ⟨w.heap.size + 1, 0, none⟩) (by simp) (.slice A l' c')).set 0 (.int .i64 0)).cell 0 rfl
    have ho := ownsRow_setCell_below (ownsRow_setCell_below HO.out (a := ⟨w.heap.size + 1, 0, none⟩) (by simp; omega) (.slice A l' c')) (a := ⟨w.heap.size + 1 + 1, 0, none⟩) (by simp; omega) (.int .i64 0)
    have hbl := (HB2.out.setCell (p := ⟨w.heap.size + 1, 0, none⟩) (by simp) (.slice A l' c')).setCell (p := ⟨w.heap.size + 1 + 1, 0, none⟩) (by simp <;> omega) (.int .i64 0)
    rw [← hV] at ho hbl
    clear hV
    refine leaves_cons (f := 8) (args := #[.pointer (some ⟨w.heap.size + 1, 0, none⟩), .pointer (some ⟨w.heap.size + 1 + 1, 0, none⟩)]) (by simp) (by simp [go_sem]) ?_
    refine (catch_initBytes _ _ _).mono ?_
    rintro e u' w'' ⟨rfl, rfl, rfl⟩
    simp [Leaves, settle, results, Tryd.results5, go_sem, y0, y1]
    exact ⟨_, rfl, own_base ho (by omega), hbl⟩
set_option maxRecDepth 100000 in
theorem initBytes1 (x0 x1 x2 x3 x5 : Int) (b0 : -128 ≤ x0 ∧ x0 ≤ 127) (b1 : -32768 ≤ x1 ∧ x1 ≤ 32767) (b2 : -128 ≤ x2 ∧ x2 ≤ 127) (b3 : -32768 ≤ x3 ∧ x3 ≤ 32767) (b5 : -128 ≤ x5 ∧ x5 ≤ 127) (w : World) (hgl : w.cell? ⟨0, 0, none⟩ = some (.int .u32 4294967295)) :
    Calls Tryd.prog 5 #[.agg #[.int .i64 x0, .int .i64 x1, .int .i64 x2, .int .i64 x3, .int .i64 1, .int .i64 x5]] w fun e w' => ∃ v, e = .returned (.tuple #[v, .int .i64 0]) ∧ Made w (leB 4 4294967295 ++ (leB 1 x0 ++ (leB 2 x1 ++ (leB 1 x2 ++ (leB 2 x3 ++ (List.replicate 1 0 ++ (leB 1 1 ++ (leB 1 1 ++ (leB 1 x5))))))))) (.returned v) w' := by
  have hmf : ∀ (fn : Fn) (first cap : Array Value) (w : World), (Instr.makeFunc fn first cap).run Tryd.prog w = .ok (.func fn first cap) w := fun _ _ _ _ => rfl
  have hB : Below w.heap.size w ((((w.alloc (.cells #[.int .i64 x0, .int .i64 x1, .int .i64 x2, .int .i64 x3, .int .i64 1, .int .i64 x5] 24)).alloc (.cells #[.slice none 0 0] 25)).alloc (.cells #[.int .i64 0] 3)).alloc (.cells #[.slice none 0 0] 37)) := ((((Below.refl _ _).alloc (Nat.le_refl _) _).alloc (by simp) _).alloc (by simp <;> omega) _).alloc (by simp <;> omega) _
  have hA := (((Blk.new w #[.int .i64 x0, .int .i64 x1, .int .i64 x2, .int .i64 x3, .int .i64 1, .int .i64 x5] 24).alloc (.cells #[.slice none 0 0] 25)).alloc (.cells #[.int .i64 0] 3)).alloc (.cells #[.slice none 0 0] 37)
  have g0 := ((Blk.new (w.alloc (.cells #[.int .i64 x0, .int .i64 x1, .int .i64 x2, .int .i64 x3, .int .i64 1, .int .i64 x5] 24)) #[.slice none 0 0] 25).alloc (.cells #[.int .i64 0] 3)).alloc (.cells #[.slice none 0 0] 37)
  have g1 := (Blk.new ((w.alloc (.cells #[.int .i64 x0, .int .i64 x1, .int .i64 x2, .int .i64 x3, .int .i64 1, .int .i64 x5] 24)).alloc (.cells #[.slice none 0 0] 25)) #[.int .i64 0] 3).alloc (.cells #[.slice none 0 0] 37)
  have g2 := Blk.new (((w.alloc (.cells #[.int .i64 x0, .int .i64 x1, .int .i64 x2, .int .i64 x3, .int .i64 1, .int .i64 x5] 24)).alloc (.cells #[.slice none 0 0] 25)).alloc (.cells #[.int .i64 0] 3)) #[.slice none 0 0] 37
  simp only [World.size_alloc] at g0 g1 g2
  have HA := Hd.mk hA; have HB := Hd.mk hB; have G0 := Hd.mk g0; have G1 := Hd.mk g1; have G2 := Hd.mk g2; have GL := Hd.mk (glob_below hgl hB)
  have Z := Hd.mk (fun eb sb tb w h hg => zzInit1 eb sb (w : World × Nat).2 tb x0 x1 x2 x3 x5 b0 b1 b2 b3 b5 w.1 h hg)
  clear hA hB g0 g1 g2 hgl b0 b1 b2 b3 b5
  go_enter_defers Tryd.func5, Tryd.ntmps5
  go_wp2_with fail
  obtain ⟨W, hWW⟩ : ∃ W, W = ((((w.alloc (.cells #[.int .i64 x0, .int .i64 x1, .int .i64 x2, .int .i64 x3, .int .i64 1, .int .i64 x5] 24)).alloc (.cells #[.slice none 0 0] 25)).alloc (.cells #[.int .i64 0] 3)).alloc (.cells #[.slice none 0 0] 37)) := ⟨_, rfl⟩
  rw [← hWW]
  have hs : W.heap.size = w.heap.size + 1 + 1 + 1 + 1 := by rw [hWW]; simp
  rw [← hWW] at HA HB G0 G1 G2 GL
  have HS := Hd.mk hs
  clear hWW hs
  have a0 : W.cell? ⟨w.heap.size, 0, none⟩ = some (.int .i64 x0) := HA.out.cell 0 rfl
  have a1 : W.cell? ⟨w.heap.size, 1, none⟩ = some (.int .i64 x1) := HA.out.cell 1 rfl
  have a2 : W.cell? ⟨w.heap.size, 2, none⟩ = some (.int .i64 x2) := HA.out.cell 2 rfl
  have a3 : W.cell? ⟨w.heap.size, 3, none⟩ = some (.int .i64 x3) := HA.out.cell 3 rfl
  have a4 : W.cell? ⟨w.heap.size, 4, none⟩ = some (.int .i64 1) := HA.out.cell 4 rfl
  have a5 : W.cell? ⟨w.heap.size, 5, none⟩ = some (.int .i64 x5) := HA.out.cell 5 rfl
  refine wp_region_noPanic ?_
  go_region_with (first | (go_at_call 10; (with_reducible refine (encoder_new _ _).mono ?_); intro e w1 h1; obtain ⟨eb, sb, tb, rfl, he, k1, k2, k3, hl⟩ := Enc0.of (w := W.drew) G2.out.drew h1; have b0 : w1.cell? ⟨w.heap.size, 0, none⟩ = some (.int .i64 x0) := (HA.out.drew.below hl HA.out.lt).cell 0 rfl; have b1 : w1.cell? ⟨w.heap.size, 1, none⟩ = some (.int .i64 x1) := (HA.out.drew.below hl HA.out.lt).cell 1 rfl; have b2 : w1.cell? ⟨w.heap.size, 2, none⟩ = some (.int .i64 x2) := (HA.out.drew.below hl HA.out.lt).cell 2 rfl; have b3 : w1.cell? ⟨w.heap.size, 3, none⟩ = some (.int .i64 x3) := (HA.out.drew.below hl HA.out.lt).cell 3 rfl; have b4 : w1.cell? ⟨w.heap.size, 4, none⟩ = some (.int .i64 1) := (HA.out.drew.below hl HA.out.lt).cell 4 rfl; have b5 : w1.cell? ⟨w.heap.size, 5, none⟩ = some (.int .i64 x5) := (HA.out.drew.below hl HA.out.lt).cell 5 rfl; have HE := Hd.mk he; have HL := Hd.mk hl; have K2 := Hd.mk k2; have HGl := Hd.mk (glob_below (w := W.drew) GL.out hl); clear h1 he k1 k2 k3 hl) | (go_at_call 9; (with_reducible refine (Z.out _ _ _ (_, _) HE.out HGl.out).mono ?_); rintro e w2 ⟨rfl, hsent⟩))
  all_goals
    refine NoPanic.normal ?_
    obtain ⟨v, hv, hown, hb⟩ := hsent
    obtain ⟨A, l', c', rfl⟩ := own_sliceI hown
    have c : w2.cell? ⟨w.heap.size + 1 + 1 + 1, 0, none⟩ = some (.slice A l' c') := hv.cell 0 rfl
    have hp2 := K2.out; have hS := HS.out
    have hs1 := HL.out.size
    simp at hp2 hs1
    have hL : Below w.heap.size w w1 := HB.out.drew.trans (HL.out.mono (by simp; omega))
    have hg0 := (G0.out.drew.below HL.out (by simp <;> omega)).bel hb (by omega) (by simp; omega)
    have hg1 := (G1.out.drew.below HL.out (by simp <;> omega)).bel hb (by omega) (by simp; omega)
    have f0 := hg0.free 0; have f1 := hg1.free 0
    have x0 : w2.cell? ⟨w.heap.size + 1, 0, none⟩ = some (.slice none 0 0) := hg0.cell 0 rfl
    have x1 : w2.cell? ⟨w.heap.size + 1 + 1, 0, none⟩ = some (.int .i64 0) := hg1.cell 0 rfl
    have HO := Hd.mk hown; have G0' := Hd.mk hg0; have G1' := Hd.mk hg1
    have HB2 := Hd.mk (Bel.to' ((Bel.of hL).trans (hb.weak (B' := w.heap.size) (by omega) (S' := [sb, w.heap.size + 1 + 1 + 1]) (fun x hx _ => hx))) (by simp; omega))
    clear hv hown hb hL hg0 hg1
    go_wp2
    obtain ⟨V, hV⟩ : ∃ V, V = (w2.setCell ⟨w.heap.size + 1, 0, none⟩ (.slice A l' c')).setCell ⟨w.heap.size + 1 + 1, 0, none⟩ (.int .i64 0) := ⟨_, rfl⟩
    rw [← hV]
    have y0 : V.cell? ⟨w.heap.size + 1, 0, none⟩ = some (.slice A l' c') := by rw [hV]; exact ((G0'.out.set 0 (.slice A l' c')).set_ne (p := ⟨w.heap.size + 1 + 1, 0, none⟩) (by simp) _).cell 0 rfl
    have y1 : V.cell? ⟨w.heap.size + 1 + 1, 0, none⟩ = some (.int .i64 0) := by rw [hV]; exact ((G1'.out.set_ne (p := ⟨w.heap.size + 1, 0, none⟩) (by simp) (.slice A l' c')).set 0 (.int .i64 0)).cell 0 rfl
    have ho := ownsRow_setCell_below (ownsRow_setCell_below HO.out (a := ⟨w.heap.size + 1, 0, none⟩) (by simp; omega) (.slice A l' c')) (a := ⟨w.heap.size + 1 + 1, 0, none⟩) (by simp; omega) (.int .i64 0)
    have hbl := (HB2.out.setCell (p := ⟨w.heap.size + 1, 0, none⟩) (by simp) (.slice A l' c')).setCell (p := ⟨w.heap.size + 1 + 1, 0, none⟩) (by simp <;> omega) (.int .i64 0)
    rw [← hV] at ho hbl
    clear hV
    refine leaves_cons (f := 8) (args := #[.pointer (some ⟨w.heap.size + 1, 0, none⟩), .pointer (some ⟨w.heap.size + 1 + 1, 0, none⟩)]) (by simp) (by simp [go_sem]) ?_
    refine (catch_initBytes _ _ _).mono ?_
    rintro e u' w'' ⟨rfl, rfl, rfl⟩
    simp [Leaves, settle, results, Tryd.results5, go_sem, y0, y1]
    exact ⟨_, rfl, own_base ho (by omega), hbl⟩
end Go.Proofs.YtnkengcajechbaaDoor.Kb
