/- The walk of the law FnMoments, out of what its callees return. -/
import Derived.Test.YtbblgpgjgkmcbaaJm2
import Derived.Test.YtbblgpgjgkmcbaaPJrox6
import Derived.Outline
namespace Go.Proofs.Ytbblgpgjgkmcbaa.PJro
open Go.BigFrame Go.RowKit Go.Proofs.YtbblgpgjgkmcbaaW.PrintWords Go.Proofs.YtbblgpgjgkmcbaaW.PrintLast Go.Proofs.YtbblgpgjgkmcbaaW.PrintMore
set_option linter.unusedVariables false
theorem blk_bel {W W1 : World} {g : Nat} {o : Obj} (h : W.heap[g]? = some o) (hb : Below W.heap.size W W1) : W1.heap[g]? = some o := (hb.block g (blk_lt h)).trans h
/-- A world that has all that another one has, as it was. -/
structure Later (w : World) where
  world : World
  below : Below w.heap.size w world
instance (w : World) : Nonempty (Later w) := ⟨⟨w, Below.refl _ _⟩⟩
theorem wp_region_later {P : Program} {id : Nat} {Q : Exit → Act → World → Prop} {a : Act} {w : World} {l : List Oper} (hm : P.follows .mixedOrders = true) (hB : Region.lexB .any l.toArray = true)
    (h : wpQuiet P l.toArray (fun w' => ∃ x : Later w, w' = x.world) (fun a' => ∀ w', (∃ x : Later w, w' = x.world) → Q .normal a' w') l a) : (Code.region id l.toArray true).wp P Q a w :=
  wp_region_quiet (C := fun w' => ∃ x : Later w, w' = x.world) hm hB ⟨⟨_, (Below.refl _ _).drew⟩, rfl⟩ (by simpa using h)
theorem later_call {P : Program} {f : FuncId} {args : Array Value} {w : World} {v : Value} (x : Later w) (h : ∀ W : World, Calls P f args W fun e w' => e = .returned v ∧ Below W.heap.size W w') :
    Calls P f args x.world fun e w'' => e = .returned v ∧ ∃ y : Later w, w'' = y.world :=
  (h x.world).mono fun _ w' ⟨he, hb⟩ => ⟨he, ⟨w', below_then x.below x.below.size hb⟩, rfl⟩
theorem later_cell {w : World} {g : Nat} {t : TypeId} {cs : Array Value} (h : w.heap[g]? = some (.cells cs t (0, 0))) (i : Nat) (v : Value) (hv : cs[i]? = some v) (x : Later w) : x.world.cell? ⟨g, i, none⟩ = some v :=
  (blk_cell (blk_bel h x.below) i).trans hv
abbrev T7 (a0 a1 a2 a3 a4 a5 a6 : Int) : Value := .agg #[.int .i64 a0, .int .i64 a1, .int .i64 a2, .int .i64 a3, .int .i64 a4, .int .i64 a5, .int .i64 a6]
set_option maxHeartbeats 2000000 in
set_option maxRecDepth 100000 in
theorem moments_walk (n L S D T : Int) (w : World) (a0 a1 a2 a3 a4 a5 a6 b0 b1 b2 b3 b4 b5 b6 c0 c1 c2 c3 c4 c5 c6 d0 d1 d2 d3 d4 d5 d6 : Int) (k : Nat)
    (hL : L = wrap64 (Int.tmod (IntKind.u64.wrap n) 3155380704000000001)) (hS : S = Int.tmod L 315538070400) (hD : D = Int.tmod L 3652061) (hT : T = Int.tmod L 86401)
    (ea : impl_LongdateTime.f k L = some (a0, a1, a2, a3, a4, a5, a6, 0)) (eb : impl_SeconddateTime.f k S = some (b0, b1, b2, b3, b4, b5, b6, 0)) (ec : impl_DaydateTime.f k D = some (c0, c1, c2, c3, c4, c5, c6, 0)) (ed : impl_SecondtimeTime.f k T = some (d0, d1, d2, d3, d4, d5, d6, 0))
    (ma : ∀ w, Calls Try.prog 22 #[.int .i64 (wrap64 (L - 1)), .int .i64 10000000] w fun e w' => e = .returned (T7 a0 a1 a2 a3 a4 a5 a6) ∧ Below w.heap.size w w')
    (mb : ∀ w, Calls Try.prog 22 #[.int .i64 (wrap64 (S - 1)), .int .i64 1] w fun e w' => e = .returned (T7 b0 b1 b2 b3 b4 b5 b6) ∧ Below w.heap.size w w')
    (mc : ∀ w, Calls Try.prog 13 #[.int .i64 (wrap64 (wrap64 (1721424 + D) - 1))] w fun e w' => e = .returned (T7 c0 c1 c2 c3 c4 c5 c6) ∧ Below w.heap.size w w')
    (md : ∀ w, Calls Try.prog 22 #[.int .i64 (wrap64 (T - 1)), .int .i64 1] w fun e w' => e = .returned (T7 d0 d1 d2 d3 d4 d5 d6) ∧ Below w.heap.size w w') :
    Calls Try.prog 7 #[.int .i64 n] w fun e w' => e = .returned (.bool true) ∧ Below w.heap.size w w' := by
  have EA := Aside0.mk ea; have EB := Aside0.mk eb; have EC := Aside0.mk ec; have ED := Aside0.mk ed
  have MA := Aside0.mk ma; have MB := Aside0.mk mb; have MC := Aside0.mk mc; have MD := Aside0.mk md
  clear ea eb ec ed ma mb mc md
  have HL := Aside0.mk hL; have HS := Aside0.mk hS; have HD := Aside0.mk hD; have HT := Aside0.mk hT
  clear hL hS hD hT
  go_enter Try.func7, Try.ntmps7
  go_wp2_with fail
  rw [← HL.out, ← HS.out, ← HD.out, ← HT.out]
  (with_reducible refine (impl_LongdateTime.calls k _ a0 a1 a2 a3 a4 a5 a6 0 _ EA.out).mono ?_)
  rintro e w1 ⟨rfl, hb1⟩
  have B1 := Aside0.mk hb1
  clear hb1
  go_wp2_with fail
  (with_reducible refine (impl_SeconddateTime.calls k _ b0 b1 b2 b3 b4 b5 b6 0 _ EB.out).mono ?_)
  rintro e w2 ⟨rfl, hb2⟩
  have B2 := Aside0.mk hb2
  clear hb2
  go_wp2_with fail
  (with_reducible refine (impl_DaydateTime.calls k _ c0 c1 c2 c3 c4 c5 c6 0 _ EC.out).mono ?_)
  rintro e w3 ⟨rfl, hb3⟩
  have B3 := Aside0.mk hb3
  clear hb3
  go_wp2_with fail
  (with_reducible refine (impl_SecondtimeTime.calls k _ d0 d1 d2 d3 d4 d5 d6 0 _ ED.out).mono ?_)
  rintro e w4 ⟨rfl, hb4⟩
  have B4 := Aside0.mk hb4
  clear hb4
  go_wp2_with fail
  have FA : (w4.alloc (.cells #[.int .i64 d0, .int .i64 d1, .int .i64 d2, .int .i64 d3, .int .i64 d4, .int .i64 d5, .int .i64 d6] 23 (0, 0))).heap[w1.heap.size]? = some (.cells #[.int .i64 a0, .int .i64 a1, .int .i64 a2, .int .i64 a3, .int .i64 a4, .int .i64 a5, .int .i64 a6] 23 (0, 0)) := blk_alloc (blk_bel (blk_alloc (blk_bel (blk_alloc (blk_bel (heap_alloc_new w1 _) B2.out) _) B3.out) _) B4.out) _
  have FB : (w4.alloc (.cells #[.int .i64 d0, .int .i64 d1, .int .i64 d2, .int .i64 d3, .int .i64 d4, .int .i64 d5, .int .i64 d6] 23 (0, 0))).heap[w2.heap.size]? = some (.cells #[.int .i64 b0, .int .i64 b1, .int .i64 b2, .int .i64 b3, .int .i64 b4, .int .i64 b5, .int .i64 b6] 23 (0, 0)) := blk_alloc (blk_bel (blk_alloc (blk_bel (heap_alloc_new w2 _) B3.out) _) B4.out) _
  have FC : (w4.alloc (.cells #[.int .i64 d0, .int .i64 d1, .int .i64 d2, .int .i64 d3, .int .i64 d4, .int .i64 d5, .int .i64 d6] 23 (0, 0))).heap[w3.heap.size]? = some (.cells #[.int .i64 c0, .int .i64 c1, .int .i64 c2, .int .i64 c3, .int .i64 c4, .int .i64 c5, .int .i64 c6] 23 (0, 0)) := blk_alloc (blk_bel (heap_alloc_new w3 _) B4.out) _
  have FD : (w4.alloc (.cells #[.int .i64 d0, .int .i64 d1, .int .i64 d2, .int .i64 d3, .int .i64 d4, .int .i64 d5, .int .i64 d6] 23 (0, 0))).heap[w4.heap.size]? = some (.cells #[.int .i64 d0, .int .i64 d1, .int .i64 d2, .int .i64 d3, .int .i64 d4, .int .i64 d5, .int .i64 d6] 23 (0, 0)) := heap_alloc_new w4 _
  have HB : Below w.heap.size w (w4.alloc (.cells #[.int .i64 d0, .int .i64 d1, .int .i64 d2, .int .i64 d3, .int .i64 d4, .int .i64 d5, .int .i64 d6] 23 (0, 0))) := below_alloc (below_then (below_alloc (below_then (below_alloc (below_then (below_alloc B1.out _) (below_alloc B1.out _).size B2.out) _) (below_alloc (below_then (below_alloc B1.out _) (below_alloc B1.out _).size B2.out) _).size B3.out) _) (below_alloc (below_then (below_alloc (below_then (below_alloc B1.out _) (below_alloc B1.out _).size B2.out) _) (below_alloc (below_then (below_alloc B1.out _) (below_alloc B1.out _).size B2.out) _).size B3.out) _).size B4.out) _
  clear B1 B2 B3 B4
  generalize w4.alloc (.cells #[.int .i64 d0, .int .i64 d1, .int .i64 d2, .int .i64 d3, .int .i64 d4, .int .i64 d5, .int .i64 d6] 23 (0, 0)) = W at *
  generalize w1.heap.size = pa at *
  generalize w2.heap.size = pb at *
  generalize w3.heap.size = pc at *
  generalize w4.heap.size = pd at *
  have ga0 := later_cell FA 0 (.int .i64 a0) rfl
  have ga1 := later_cell FA 1 (.int .i64 a1) rfl
  have ga2 := later_cell FA 2 (.int .i64 a2) rfl
  have ga3 := later_cell FA 3 (.int .i64 a3) rfl
  have ga4 := later_cell FA 4 (.int .i64 a4) rfl
  have ga5 := later_cell FA 5 (.int .i64 a5) rfl
  have ga6 := later_cell FA 6 (.int .i64 a6) rfl
  have gb0 := later_cell FB 0 (.int .i64 b0) rfl
  have gb1 := later_cell FB 1 (.int .i64 b1) rfl
  have gb2 := later_cell FB 2 (.int .i64 b2) rfl
  have gb3 := later_cell FB 3 (.int .i64 b3) rfl
  have gb4 := later_cell FB 4 (.int .i64 b4) rfl
  have gb5 := later_cell FB 5 (.int .i64 b5) rfl
  have gb6 := later_cell FB 6 (.int .i64 b6) rfl
  have gc0 := later_cell FC 0 (.int .i64 c0) rfl
  have gc1 := later_cell FC 1 (.int .i64 c1) rfl
  have gc2 := later_cell FC 2 (.int .i64 c2) rfl
  have gc3 := later_cell FC 3 (.int .i64 c3) rfl
  have gc4 := later_cell FC 4 (.int .i64 c4) rfl
  have gc5 := later_cell FC 5 (.int .i64 c5) rfl
  have gc6 := later_cell FC 6 (.int .i64 c6) rfl
  have gd0 := later_cell FD 0 (.int .i64 d0) rfl
  have gd1 := later_cell FD 1 (.int .i64 d1) rfl
  have gd2 := later_cell FD 2 (.int .i64 d2) rfl
  have gd3 := later_cell FD 3 (.int .i64 d3) rfl
  have gd4 := later_cell FD 4 (.int .i64 d4) rfl
  have gd5 := later_cell FD 5 (.int .i64 d5) rfl
  have gd6 := later_cell FD 6 (.int .i64 d6) rfl
  have HB' := Aside0.mk HB
  clear FA FB FC FD HB
  refine wp_region_later (by kernel_rfl) (by kernel_rfl) ?_
  repeat (go_big_quiet_step ((first | (go_at_call 22; with_reducible exact later_call _ MA.out) | (go_at_call 22; with_reducible exact later_call _ MB.out) | (go_at_call 22; with_reducible exact later_call _ MD.out) | (go_at_call 13; with_reducible exact later_call _ MC.out))))
  refine wpQuiet_nil ?_
  rintro _ ⟨x, rfl⟩
  have HX := Aside0.mk (below_then HB'.out HB'.out.size x.below)
  clear HB' ga0 ga1 ga2 ga3 ga4 ga5 ga6 gb0 gb1 gb2 gb3 gb4 gb5 gb6 gc0 gc1 gc2 gc3 gc4 gc5 gc6 gd0 gd1 gd2 gd3 gd4 gd5 gd6
  go_wp2
  go_ret
  exact ⟨by simp, HX.out⟩
end Go.Proofs.Ytbblgpgjgkmcbaa.PJro
