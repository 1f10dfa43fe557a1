/- The walk of the law FnTimeRoad, out of what its callees return. -/
import Derived.Test.YtbblgpgjgkmcbaaMw
namespace Go.Proofs.Ytbblgpgjgkmcbaa.PJro
open Go.BigFrame Go.RowKit Go.Proofs.YtbblgpgjgkmcbaaW.PrintWords Go.Proofs.YtbblgpgjgkmcbaaW.PrintLast Go.Proofs.YtbblgpgjgkmcbaaW.PrintMore
set_option linter.unusedVariables false
set_option linter.unusedSimpArgs false
/-- A moment that lies in a block, and may be written. -/
structure At7 (w : World) (b : Nat) (v0 v1 v2 v3 v4 v5 v6 : Int) : Prop where
  z : b < w.heap.size
  c0 : w.cell? ⟨b, 0, none⟩ = some (.int .i64 v0)
  c1 : w.cell? ⟨b, 1, none⟩ = some (.int .i64 v1)
  c2 : w.cell? ⟨b, 2, none⟩ = some (.int .i64 v2)
  c3 : w.cell? ⟨b, 3, none⟩ = some (.int .i64 v3)
  c4 : w.cell? ⟨b, 4, none⟩ = some (.int .i64 v4)
  c5 : w.cell? ⟨b, 5, none⟩ = some (.int .i64 v5)
  c6 : w.cell? ⟨b, 6, none⟩ = some (.int .i64 v6)
  f0 : w.frozen? ⟨b, 0, none⟩ = false
  f1 : w.frozen? ⟨b, 1, none⟩ = false
  f2 : w.frozen? ⟨b, 2, none⟩ = false
  f3 : w.frozen? ⟨b, 3, none⟩ = false
  f4 : w.frozen? ⟨b, 4, none⟩ = false
  f5 : w.frozen? ⟨b, 5, none⟩ = false
  f6 : w.frozen? ⟨b, 6, none⟩ = false
theorem At7.later {W w1 : World} {b : Nat} {v0 v1 v2 v3 v4 v5 v6 : Int} (h : At7 W b v0 v1 v2 v3 v4 v5 v6) (hb : Below W.heap.size W w1) : At7 w1 b v0 v1 v2 v3 v4 v5 v6 := by
  obtain ⟨hc, hf⟩ := bcell hb
  obtain ⟨z, c0, c1, c2, c3, c4, c5, c6, f0, f1, f2, f3, f4, f5, f6⟩ := h
  exact ⟨Nat.lt_of_lt_of_le z hb.size, (hc _ _ z).trans c0, (hc _ _ z).trans c1, (hc _ _ z).trans c2, (hc _ _ z).trans c3, (hc _ _ z).trans c4, (hc _ _ z).trans c5, (hc _ _ z).trans c6,
    (hf _ _ z).trans f0, (hf _ _ z).trans f1, (hf _ _ z).trans f2, (hf _ _ z).trans f3, (hf _ _ z).trans f4, (hf _ _ z).trans f5, (hf _ _ z).trans f6⟩
theorem call7 {P : Program} {f : FuncId} {args : Array Value} {W w : World} {r : Ending} (b : Nat) (v0 v1 v2 v3 v4 v5 v6 : Int) (hB : Below w.heap.size w W) (hT : At7 W b v0 v1 v2 v3 v4 v5 v6)
    (hc : Calls P f args W fun e w' => e = r ∧ Below W.heap.size W w') : Calls P f args W fun e w' => e = r ∧ Below w.heap.size w w' ∧ At7 w' b v0 v1 v2 v3 v4 v5 v6 :=
  hc.mono fun _ _ ⟨he, hb⟩ => ⟨he, below_then hB hB.size hb, hT.later hb⟩

/-- A place where the walk stops. -/
structure Stop (p : Prop) : Prop where
  out : p
theorem stop_at (n : Nat) {P : Program} {arr : Array Oper} {Q : Exit → Act → World → Prop} {op : Op} {ty : TypeId} {pos : String} {aft : Array Edge} {gd : Option (Nat × Bool)} {rest : List Oper} {a : Act} {W : World}
    (h : Stop (wpList P arr Q (⟨some n, op, ty, pos, aft, gd⟩ :: rest) a W)) : wpList P arr Q (⟨some n, op, ty, pos, aft, gd⟩ :: rest) a W := h.out
theorem At7.alloc {W : World} {b : Nat} {v0 v1 v2 v3 v4 v5 v6 : Int} (h : At7 W b v0 v1 v2 v3 v4 v5 v6) (o : Obj) : At7 (W.alloc o) b v0 v1 v2 v3 v4 v5 v6 := h.later (below_alloc (Below.refl _ _) o)
theorem At7.new (W : World) (v0 v1 v2 v3 v4 v5 v6 : Int) : At7 (W.alloc (.cells #[.int .i64 v0, .int .i64 v1, .int .i64 v2, .int .i64 v3, .int .i64 v4, .int .i64 v5, .int .i64 v6] 23 (0, 0))) W.heap.size v0 v1 v2 v3 v4 v5 v6 := by
  constructor <;> simp [go_sem]
theorem At7.at {W : World} {b : Nat} {v0 v1 v2 v3 v4 v5 v6 : Int} (h : b = W.heap.size) : At7 (W.alloc (.cells #[.int .i64 v0, .int .i64 v1, .int .i64 v2, .int .i64 v3, .int .i64 v4, .int .i64 v5, .int .i64 v6] 23 (0, 0))) b v0 v1 v2 v3 v4 v5 v6 := h ▸ At7.new _ _ _ _ _ _ _ _
theorem At7.other {W : World} {b c o : Nat} {v0 v1 v2 v3 v4 v5 v6 : Int} (h : At7 W b v0 v1 v2 v3 v4 v5 v6) (hne : c ≠ b) (v : Value) : At7 (W.setCell ⟨c, o, none⟩ v) b v0 v1 v2 v3 v4 v5 v6 := by
  obtain ⟨z, c0, c1, c2, c3, c4, c5, c6, f0, f1, f2, f3, f4, f5, f6⟩ := h
  have hne' : ¬ b = c := fun e => hne e.symm
  constructor <;> simp [go_sem, z, c0, c1, c2, c3, c4, c5, c6, f0, f1, f2, f3, f4, f5, f6, hne, hne']
theorem At7.six {W : World} {b : Nat} {v0 v1 v2 v3 v4 v5 v6 : Int} (h : At7 W b v0 v1 v2 v3 v4 v5 v6) (v : Int) : At7 (W.setCell ⟨b, 6, none⟩ (.int .i64 v)) b v0 v1 v2 v3 v4 v5 v := by
  obtain ⟨z, c0, c1, c2, c3, c4, c5, c6, f0, f1, f2, f3, f4, f5, f6⟩ := h
  constructor <;> simp [go_sem, z, c0, c1, c2, c3, c4, c5, c6, f0, f1, f2, f3, f4, f5, f6]
theorem settle {P : Program} {arr : Array Oper} {Q : Exit → Act → World → Prop} {l : List Oper} {a : Act} {W : World} (F : World → Prop) (h : F W) (k : ∀ W', F W' → wpList P arr Q l a W') : Stop (wpList P arr Q l a W) := ⟨k W h⟩

set_option maxHeartbeats 2000000 in
set_option maxRecDepth 100000 in
theorem road_walk (y mo d h mi s n : Int) (w : World) (y1 o1 d1 h1 i1 s1 n1 Y M D H I S N L SS DD TT : Int) (k : Nat)
    (ej : laws_juTime.f y mo d h mi s n = some (y1, o1, d1, h1, i1, s1, n1))
    (em : spec_JuMade.f k (wrap64 (1583 + wrap64 (Int.tmod (IntKind.u64.wrap y) 8414))) (wrap64 (1 + Int.tmod (wrap64 (o1 + 40)) 12)) (wrap64 (1 + Int.tmod (wrap64 (d1 + 100)) 28)) h1 i1 s1 n1 = some (Y, M, D, H, I, S, N))
    (hc : 1583 ≤ Y)
    (en : impl_TimeNumbers.f k Y M D H I S N = some (L, SS, DD, TT, 0))
    (ea : impl_LongdateTime.f k L = some (Y, M, D, H, I, S, wrap64 (N - Int.tmod N 100), 0)) (eb : impl_SeconddateTime.f k SS = some (Y, M, D, H, I, S, 0, 0)) (ec : impl_DaydateTime.f k DD = some (Y, M, D, 0, 0, 0, 0, 0)) (ed : impl_SecondtimeTime.f k TT = some (1, 1, 1, H, I, S, 0, 0)) :
    Calls Try.prog 8 #[T7 y mo d h mi s n] w fun e w' => e = .returned (.bool true) ∧ Below w.heap.size w w' := by
  have EJ := Aside0.mk ej; have EM := Aside0.mk em; have EN := Aside0.mk en
  have EA := Aside0.mk ea; have EB := Aside0.mk eb; have EC := Aside0.mk ec; have ED := Aside0.mk ed
  clear ej em en ea eb ec ed
  have HC := Aside0.mk hc
  clear hc
  go_enter Try.func8, Try.ntmps8
  go_wp2_with fail
  (with_reducible refine (call7 (w := w) w.heap.size y mo d h mi s n ?_ ?_ (laws_juTime.calls y mo d h mi s n y1 o1 d1 h1 i1 s1 n1 _ EJ.out)).mono ?_)
  · (repeat (first | (with_reducible exact Below.refl _ _) | (with_reducible apply below_alloc) | (with_reducible apply pw_below_drewN) | (with_reducible apply below_drew) | (with_reducible refine bset ?_ (Nat.le_refl _) _)))
  · constructor <;> simp [go_sem]
  rintro e B1w ⟨rfl, hb, ⟨z, c0, c1, c2, c3, c4, c5, c6, f0, f1, f2, f3, f4, f5, f6⟩⟩
  have B1 := Aside0.mk hb
  clear hb
  go_wp2_with (with_reducible refine stop_at 29 ?_)
  refine settle (fun W => Below w.heap.size w W ∧ At7 W w.heap.size y1 o1 d1 h1 i1 s1 n1) ⟨?_, ?_⟩ ?_
  · (repeat (first | (with_reducible exact Below.refl _ _) | (with_reducible exact B1.out) | (with_reducible apply below_alloc) | (with_reducible apply pw_below_drewN) | (with_reducible apply below_drew) | (with_reducible refine bset ?_ (Nat.le_refl _) _)))
  · constructor <;> simp [go_sem, z, c0, c1, c2, c3, c4, c5, c6, f0, f1, f2, f3, f4, f5, f6]
  clear z c0 c1 c2 c3 c4 c5 c6 f0 f1 f2 f3 f4 f5 f6 B1
  rintro B1aw ⟨hb, ⟨z, c0, c1, c2, c3, c4, c5, c6, f0, f1, f2, f3, f4, f5, f6⟩⟩
  have B1a := Aside0.mk hb
  clear hb
  go_wp2_with (with_reducible refine stop_at 42 ?_)
  refine settle (fun W => Below w.heap.size w W ∧ At7 W w.heap.size (wrap64 (1583 + wrap64 (Int.tmod (IntKind.u64.wrap y) 8414))) (wrap64 (1 + Int.tmod (wrap64 (o1 + 40)) 12)) (wrap64 (1 + Int.tmod (wrap64 (d1 + 100)) 28)) h1 i1 s1 n1) ⟨?_, ?_⟩ ?_
  · (repeat (first | (with_reducible exact Below.refl _ _) | (with_reducible exact B1a.out) | (with_reducible apply below_alloc) | (with_reducible apply pw_below_drewN) | (with_reducible apply below_drew) | (with_reducible refine bset ?_ (Nat.le_refl _) _)))
  · constructor <;> simp [go_sem, z, c0, c1, c2, c3, c4, c5, c6, f0, f1, f2, f3, f4, f5, f6]
  clear z c0 c1 c2 c3 c4 c5 c6 f0 f1 f2 f3 f4 f5 f6 B1a
  rintro B2w ⟨hb, ⟨z, c0, c1, c2, c3, c4, c5, c6, f0, f1, f2, f3, f4, f5, f6⟩⟩
  have B2 := Aside0.mk hb
  clear hb
  go_wp2_with fail
  (with_reducible refine (call7 (w := w) w.heap.size (wrap64 (1583 + wrap64 (Int.tmod (IntKind.u64.wrap y) 8414))) (wrap64 (1 + Int.tmod (wrap64 (o1 + 40)) 12)) (wrap64 (1 + Int.tmod (wrap64 (d1 + 100)) 28)) h1 i1 s1 n1 ?_ ?_ (spec_JuMade.calls k _ _ _ _ _ _ _ Y M D H I S N _ EM.out)).mono ?_)
  · (repeat (first | (with_reducible exact Below.refl _ _) | (with_reducible exact B2.out) | (with_reducible apply below_alloc) | (with_reducible apply pw_below_drewN) | (with_reducible apply below_drew) | (with_reducible refine bset ?_ (Nat.le_refl _) _)))
  · exact At7.mk z c0 c1 c2 c3 c4 c5 c6 f0 f1 f2 f3 f4 f5 f6
  clear z c0 c1 c2 c3 c4 c5 c6 f0 f1 f2 f3 f4 f5 f6 B2
  rintro e B3w ⟨rfl, hb, ⟨z, c0, c1, c2, c3, c4, c5, c6, f0, f1, f2, f3, f4, f5, f6⟩⟩
  have B3 := Aside0.mk hb
  clear hb
  have hc := HC.out
  go_wp2_with (with_reducible refine stop_at 49 ?_)
  refine settle (fun W => Below w.heap.size w W ∧ At7 W w.heap.size Y M D H I S N) ⟨?_, ?_⟩ ?_
  · (repeat (first | (with_reducible exact Below.refl _ _) | (with_reducible exact B3.out) | (with_reducible apply below_alloc) | (with_reducible apply pw_below_drewN) | (with_reducible apply below_drew) | (with_reducible refine bset ?_ (Nat.le_refl _) _)))
  · constructor <;> simp [go_sem, z, c0, c1, c2, c3, c4, c5, c6, f0, f1, f2, f3, f4, f5, f6]
  clear z c0 c1 c2 c3 c4 c5 c6 f0 f1 f2 f3 f4 f5 f6 B3
  rintro B4w ⟨hb, ⟨z, c0, c1, c2, c3, c4, c5, c6, f0, f1, f2, f3, f4, f5, f6⟩⟩
  have B4 := Aside0.mk hb
  clear hb
  clear hc
  go_wp2_with fail
  (with_reducible refine (call7 (w := w) w.heap.size Y M D H I S N ?_ ?_ (impl_TimeNumbers.calls k _ _ _ _ _ _ _ L SS DD TT 0 _ EN.out)).mono ?_)
  · (repeat (first | (with_reducible exact Below.refl _ _) | (with_reducible exact B4.out) | (with_reducible apply below_alloc) | (with_reducible apply pw_below_drewN) | (with_reducible apply below_drew) | (with_reducible refine bset ?_ (Nat.le_refl _) _)))
  · exact At7.mk z c0 c1 c2 c3 c4 c5 c6 f0 f1 f2 f3 f4 f5 f6
  clear z c0 c1 c2 c3 c4 c5 c6 f0 f1 f2 f3 f4 f5 f6 B4
  rintro e B5w ⟨rfl, hb, ⟨z, c0, c1, c2, c3, c4, c5, c6, f0, f1, f2, f3, f4, f5, f6⟩⟩
  have B5 := Aside0.mk hb
  clear hb
  clear HC
  have T0 := Aside0.mk (At7.mk z c0 c1 c2 c3 c4 c5 c6 f0 f1 f2 f3 f4 f5 f6)
  clear z c0 c1 c2 c3 c4 c5 c6 f0 f1 f2 f3 f4 f5 f6
  go_wp2_with fail
  (with_reducible refine (impl_LongdateTime.calls k _ Y M D H I S (wrap64 (N - Int.tmod N 100)) 0 _ EA.out).mono ?_)
  rintro e B6v ⟨rfl, hb⟩
  have B6 := Aside0.mk (below_then B5.out B5.out.size hb)
  have Z1 := Aside0.mk (T0.out.later hb).z
  have T0' := Aside0.mk (T0.out.later hb)
  clear hb B5 T0
  go_wp2_with (with_reducible refine stop_at 63 ?_)
  refine settle (fun W => Below w.heap.size w W ∧ At7 W B6v.heap.size Y M D H I S (wrap64 (N - Int.tmod N 100)) ∧ At7 W w.heap.size Y M D H I S N) ⟨below_alloc B6.out _, At7.new _ _ _ _ _ _ _ _, T0'.out.alloc _⟩ ?_
  clear B6 T0'
  rintro B6w ⟨hb, hT1, hT0⟩
  have B6 := Aside0.mk hb; have T1 := Aside0.mk hT1; have T0 := Aside0.mk hT0
  clear hb hT1 hT0
  have N1 : w.heap.size ≠ B6v.heap.size := Nat.ne_of_lt (Z1.out)
  clear Z1
  generalize B6v.heap.size = p1 at *
  clear B6v
  go_wp2_with fail
  (with_reducible refine (impl_SeconddateTime.calls k _ Y M D H I S 0 0 _ EB.out).mono ?_)
  rintro e B7v ⟨rfl, hb⟩
  have B7 := Aside0.mk (below_then B6.out B6.out.size hb)
  have Z2 := Aside0.mk (T0.out.later hb).z
  have T0' := Aside0.mk (T0.out.later hb)
  have T1' := Aside0.mk (T1.out.later hb)
  clear hb B6 T0 T1
  go_wp2_with (with_reducible refine stop_at 68 ?_)
  refine settle (fun W => Below w.heap.size w W ∧ At7 W B7v.heap.size Y M D H I S 0 ∧ At7 W w.heap.size Y M D H I S N ∧ At7 W p1 Y M D H I S (wrap64 (N - Int.tmod N 100))) ⟨below_alloc B7.out _, At7.new _ _ _ _ _ _ _ _, T0'.out.alloc _, T1'.out.alloc _⟩ ?_
  clear B7 T0' T1'
  rintro B7w ⟨hb, hT2, hT0, hT1⟩
  have B7 := Aside0.mk hb; have T2 := Aside0.mk hT2; have T0 := Aside0.mk hT0; have T1 := Aside0.mk hT1
  clear hb hT2 hT0 hT1
  have N2 : w.heap.size ≠ B7v.heap.size := Nat.ne_of_lt (Z2.out)
  clear Z2
  generalize B7v.heap.size = p2 at *
  clear B7v
  go_wp2_with fail
  (with_reducible refine (impl_DaydateTime.calls k _ Y M D 0 0 0 0 0 _ EC.out).mono ?_)
  rintro e B8v ⟨rfl, hb⟩
  have B8 := Aside0.mk (below_then B7.out B7.out.size hb)
  have Z3 := Aside0.mk (T0.out.later hb).z
  have T0' := Aside0.mk (T0.out.later hb)
  have T1' := Aside0.mk (T1.out.later hb)
  have T2' := Aside0.mk (T2.out.later hb)
  clear hb B7 T0 T1 T2
  go_wp2_with (with_reducible refine stop_at 73 ?_)
  refine settle (fun W => Below w.heap.size w W ∧ At7 W B8v.heap.size Y M D 0 0 0 0 ∧ At7 W w.heap.size Y M D H I S N ∧ At7 W p1 Y M D H I S (wrap64 (N - Int.tmod N 100)) ∧ At7 W p2 Y M D H I S 0) ⟨below_alloc B8.out _, At7.new _ _ _ _ _ _ _ _, T0'.out.alloc _, T1'.out.alloc _, T2'.out.alloc _⟩ ?_
  clear B8 T0' T1' T2'
  rintro B8w ⟨hb, hT3, hT0, hT1, hT2⟩
  have B8 := Aside0.mk hb; have T3 := Aside0.mk hT3; have T0 := Aside0.mk hT0; have T1 := Aside0.mk hT1; have T2 := Aside0.mk hT2
  clear hb hT3 hT0 hT1 hT2
  have N3 : w.heap.size ≠ B8v.heap.size := Nat.ne_of_lt (Z3.out)
  clear Z3
  generalize B8v.heap.size = p3 at *
  clear B8v
  go_wp2_with fail
  (with_reducible refine (impl_SecondtimeTime.calls k _ 1 1 1 H I S 0 0 _ ED.out).mono ?_)
  rintro e B9v ⟨rfl, hb⟩
  have B9 := Aside0.mk (below_then B8.out B8.out.size hb)
  have Z4 := Aside0.mk (T0.out.later hb).z
  have T0' := Aside0.mk (T0.out.later hb)
  have T1' := Aside0.mk (T1.out.later hb)
  have T2' := Aside0.mk (T2.out.later hb)
  have T3' := Aside0.mk (T3.out.later hb)
  clear hb B8 T0 T1 T2 T3
  go_wp2_with (with_reducible refine stop_at 86 ?_)
  refine settle (fun W => Below w.heap.size w W ∧ At7 W B9v.heap.size 1 1 1 H I S 0 ∧ At7 W w.heap.size Y M D H I S N ∧ At7 W p1 Y M D H I S (wrap64 (N - Int.tmod N 100)) ∧ At7 W p2 Y M D H I S 0 ∧ At7 W p3 Y M D 0 0 0 0) ⟨below_alloc B9.out _, At7.new _ _ _ _ _ _ _ _, T0'.out.alloc _, T1'.out.alloc _, T2'.out.alloc _, T3'.out.alloc _⟩ ?_
  clear B9 T0' T1' T2' T3'
  rintro B9w ⟨hb, hT4, hT0, hT1, hT2, hT3⟩
  have B9 := Aside0.mk hb; have T4 := Aside0.mk hT4; have T0 := Aside0.mk hT0; have T1 := Aside0.mk hT1; have T2 := Aside0.mk hT2; have T3 := Aside0.mk hT3
  clear hb hT4 hT0 hT1 hT2 hT3
  have N4 : w.heap.size ≠ B9v.heap.size := Nat.ne_of_lt (Z4.out)
  clear Z4
  generalize B9v.heap.size = p4 at *
  clear B9v
  obtain ⟨z, c0, c1, c2, c3, c4, c5, c6, f0, f1, f2, f3, f4, f5, f6⟩ := T0.out
  go_wp2_with (with_reducible refine stop_at 109 ?_)
  refine settle (fun W => Below w.heap.size w W ∧ At7 W w.heap.size Y M D H I S (wrap64 (N - Int.tmod N 100)) ∧ At7 W p1 Y M D H I S (wrap64 (N - Int.tmod N 100)) ∧ At7 W p2 Y M D H I S 0 ∧ At7 W p3 Y M D 0 0 0 0 ∧ At7 W p4 1 1 1 H I S 0 ∧ At7 W B9w.heap.size Y M D H I S 0 ∧ At7 W (B9w.heap.size + 1) Y M D 0 0 0 0 ∧ At7 W (B9w.heap.size + 1 + 1) 1 1 1 H I S 0) ⟨?_, ?_, ?_, ?_, ?_, ?_, ?_, ?_, ?_⟩ ?_
  · (repeat (first | (with_reducible exact Below.refl _ _) | (with_reducible exact B9.out) | (with_reducible apply below_alloc) | (with_reducible apply pw_below_drewN) | (with_reducible apply below_drew) | (with_reducible refine bset ?_ (Nat.le_refl _) _)))
  · exact (((T0.out.six _).alloc _).alloc _).alloc _
  · exact (((T1.out.other N1 _).alloc _).alloc _).alloc _
  · exact (((T2.out.other N2 _).alloc _).alloc _).alloc _
  · exact (((T3.out.other N3 _).alloc _).alloc _).alloc _
  · exact (((T4.out.other N4 _).alloc _).alloc _).alloc _
  · exact ((At7.at (by simp)).alloc _).alloc _
  · exact (At7.at (by simp)).alloc _
  · exact At7.at (by simp)
  clear B9 T0 T1 T2 T3 T4 z c0 c1 c2 c3 c4 c5 c6 f0 f1 f2 f3 f4 f5 f6
  rintro Z ⟨hb, ⟨_, a0, a1, a2, a3, a4, a5, a6, _, _, _, _, _, _, _⟩, ⟨_, b0, b1, b2, b3, b4, b5, b6, _, _, _, _, _, _, _⟩, ⟨_, c0, c1, c2, c3, c4, c5, c6, _, _, _, _, _, _, _⟩, ⟨_, d0, d1, d2, d3, d4, d5, d6, _, _, _, _, _, _, _⟩, ⟨_, e0, e1, e2, e3, e4, e5, e6, _, _, _, _, _, _, _⟩, ⟨_, f0, f1, f2, f3, f4, f5, f6, _, _, _, _, _, _, _⟩, ⟨_, g0, g1, g2, g3, g4, g5, g6, _, _, _, _, _, _, _⟩, ⟨_, h0, h1, h2, h3, h4, h5, h6, _, _, _, _, _, _, _⟩⟩
  have HB := Aside0.mk hb
  clear hb
  go_wp2
  go_ret
  exact ⟨by simp, HB.out⟩
set_option maxHeartbeats 2000000 in
set_option maxRecDepth 100000 in
theorem road_walk_low (y mo d h mi s n : Int) (w : World) (y1 o1 d1 h1 i1 s1 n1 Y M D H I S N L SS DD TT : Int) (k : Nat)
    (ej : laws_juTime.f y mo d h mi s n = some (y1, o1, d1, h1, i1, s1, n1))
    (em : spec_JuMade.f k (wrap64 (1583 + wrap64 (Int.tmod (IntKind.u64.wrap y) 8414))) (wrap64 (1 + Int.tmod (wrap64 (o1 + 40)) 12)) (wrap64 (1 + Int.tmod (wrap64 (d1 + 100)) 28)) h1 i1 s1 n1 = some (Y, M, D, H, I, S, N))
    (hc : Y < 1583)
    (en : impl_TimeNumbers.f k 1583 M D H I S N = some (L, SS, DD, TT, 0))
    (ea : impl_LongdateTime.f k L = some (1583, M, D, H, I, S, wrap64 (N - Int.tmod N 100), 0)) (eb : impl_SeconddateTime.f k SS = some (1583, M, D, H, I, S, 0, 0)) (ec : impl_DaydateTime.f k DD = some (1583, M, D, 0, 0, 0, 0, 0)) (ed : impl_SecondtimeTime.f k TT = some (1, 1, 1, H, I, S, 0, 0)) :
    Calls Try.prog 8 #[T7 y mo d h mi s n] w fun e w' => e = .returned (.bool true) ∧ Below w.heap.size w w' := by
  have EJ := Aside0.mk ej; have EM := Aside0.mk em; have EN := Aside0.mk en
  have EA := Aside0.mk ea; have EB := Aside0.mk eb; have EC := Aside0.mk ec; have ED := Aside0.mk ed
  clear ej em en ea eb ec ed
  have HC := Aside0.mk hc
  clear hc
  go_enter Try.func8, Try.ntmps8
  go_wp2_with fail
  (with_reducible refine (call7 (w := w) w.heap.size y mo d h mi s n ?_ ?_ (laws_juTime.calls y mo d h mi s n y1 o1 d1 h1 i1 s1 n1 _ EJ.out)).mono ?_)
  · (repeat (first | (with_reducible exact Below.refl _ _) | (with_reducible apply below_alloc) | (with_reducible apply pw_below_drewN) | (with_reducible apply below_drew) | (with_reducible refine bset ?_ (Nat.le_refl _) _)))
  · constructor <;> simp [go_sem]
  rintro e B1w ⟨rfl, hb, ⟨z, c0, c1, c2, c3, c4, c5, c6, f0, f1, f2, f3, f4, f5, f6⟩⟩
  have B1 := Aside0.mk hb
  clear hb
  go_wp2_with (with_reducible refine stop_at 29 ?_)
  refine settle (fun W => Below w.heap.size w W ∧ At7 W w.heap.size y1 o1 d1 h1 i1 s1 n1) ⟨?_, ?_⟩ ?_
  · (repeat (first | (with_reducible exact Below.refl _ _) | (with_reducible exact B1.out) | (with_reducible apply below_alloc) | (with_reducible apply pw_below_drewN) | (with_reducible apply below_drew) | (with_reducible refine bset ?_ (Nat.le_refl _) _)))
  · constructor <;> simp [go_sem, z, c0, c1, c2, c3, c4, c5, c6, f0, f1, f2, f3, f4, f5, f6]
  clear z c0 c1 c2 c3 c4 c5 c6 f0 f1 f2 f3 f4 f5 f6 B1
  rintro B1aw ⟨hb, ⟨z, c0, c1, c2, c3, c4, c5, c6, f0, f1, f2, f3, f4, f5, f6⟩⟩
  have B1a := Aside0.mk hb
  clear hb
  go_wp2_with (with_reducible refine stop_at 42 ?_)
  refine settle (fun W => Below w.heap.size w W ∧ At7 W w.heap.size (wrap64 (1583 + wrap64 (Int.tmod (IntKind.u64.wrap y) 8414))) (wrap64 (1 + Int.tmod (wrap64 (o1 + 40)) 12)) (wrap64 (1 + Int.tmod (wrap64 (d1 + 100)) 28)) h1 i1 s1 n1) ⟨?_, ?_⟩ ?_
  · (repeat (first | (with_reducible exact Below.refl _ _) | (with_reducible exact B1a.out) | (with_reducible apply below_alloc) | (with_reducible apply pw_below_drewN) | (with_reducible apply below_drew) | (with_reducible refine bset ?_ (Nat.le_refl _) _)))
  · constructor <;> simp [go_sem, z, c0, c1, c2, c3, c4, c5, c6, f0, f1, f2, f3, f4, f5, f6]
  clear z c0 c1 c2 c3 c4 c5 c6 f0 f1 f2 f3 f4 f5 f6 B1a
  rintro B2w ⟨hb, ⟨z, c0, c1, c2, c3, c4, c5, c6, f0, f1, f2, f3, f4, f5, f6⟩⟩
  have B2 := Aside0.mk hb
  clear hb
  go_wp2_with fail
  (with_reducible refine (call7 (w := w) w.heap.size (wrap64 (1583 + wrap64 (Int.tmod (IntKind.u64.wrap y) 8414))) (wrap64 (1 + Int.tmod (wrap64 (o1 + 40)) 12)) (wrap64 (1 + Int.tmod (wrap64 (d1 + 100)) 28)) h1 i1 s1 n1 ?_ ?_ (spec_JuMade.calls k _ _ _ _ _ _ _ Y M D H I S N _ EM.out)).mono ?_)
  · (repeat (first | (with_reducible exact Below.refl _ _) | (with_reducible exact B2.out) | (with_reducible apply below_alloc) | (with_reducible apply pw_below_drewN) | (with_reducible apply below_drew) | (with_reducible refine bset ?_ (Nat.le_refl _) _)))
  · exact At7.mk z c0 c1 c2 c3 c4 c5 c6 f0 f1 f2 f3 f4 f5 f6
  clear z c0 c1 c2 c3 c4 c5 c6 f0 f1 f2 f3 f4 f5 f6 B2
  rintro e B3w ⟨rfl, hb, ⟨z, c0, c1, c2, c3, c4, c5, c6, f0, f1, f2, f3, f4, f5, f6⟩⟩
  have B3 := Aside0.mk hb
  clear hb
  have hc := HC.out
  go_wp2_with (with_reducible refine stop_at 49 ?_)
  refine settle (fun W => Below w.heap.size w W ∧ At7 W w.heap.size 1583 M D H I S N) ⟨?_, ?_⟩ ?_
  · (repeat (first | (with_reducible exact Below.refl _ _) | (with_reducible exact B3.out) | (with_reducible apply below_alloc) | (with_reducible apply pw_below_drewN) | (with_reducible apply below_drew) | (with_reducible refine bset ?_ (Nat.le_refl _) _)))
  · constructor <;> simp [go_sem, z, c0, c1, c2, c3, c4, c5, c6, f0, f1, f2, f3, f4, f5, f6]
  clear z c0 c1 c2 c3 c4 c5 c6 f0 f1 f2 f3 f4 f5 f6 B3
  rintro B4w ⟨hb, ⟨z, c0, c1, c2, c3, c4, c5, c6, f0, f1, f2, f3, f4, f5, f6⟩⟩
  have B4 := Aside0.mk hb
  clear hb
  clear hc
  go_wp2_with fail
  (with_reducible refine (call7 (w := w) w.heap.size 1583 M D H I S N ?_ ?_ (impl_TimeNumbers.calls k _ _ _ _ _ _ _ L SS DD TT 0 _ EN.out)).mono ?_)
  · (repeat (first | (with_reducible exact Below.refl _ _) | (with_reducible exact B4.out) | (with_reducible apply below_alloc) | (with_reducible apply pw_below_drewN) | (with_reducible apply below_drew) | (with_reducible refine bset ?_ (Nat.le_refl _) _)))
  · exact At7.mk z c0 c1 c2 c3 c4 c5 c6 f0 f1 f2 f3 f4 f5 f6
  clear z c0 c1 c2 c3 c4 c5 c6 f0 f1 f2 f3 f4 f5 f6 B4
  rintro e B5w ⟨rfl, hb, ⟨z, c0, c1, c2, c3, c4, c5, c6, f0, f1, f2, f3, f4, f5, f6⟩⟩
  have B5 := Aside0.mk hb
  clear hb
  clear HC
  have T0 := Aside0.mk (At7.mk z c0 c1 c2 c3 c4 c5 c6 f0 f1 f2 f3 f4 f5 f6)
  clear z c0 c1 c2 c3 c4 c5 c6 f0 f1 f2 f3 f4 f5 f6
  go_wp2_with fail
  (with_reducible refine (impl_LongdateTime.calls k _ 1583 M D H I S (wrap64 (N - Int.tmod N 100)) 0 _ EA.out).mono ?_)
  rintro e B6v ⟨rfl, hb⟩
  have B6 := Aside0.mk (below_then B5.out B5.out.size hb)
  have Z1 := Aside0.mk (T0.out.later hb).z
  have T0' := Aside0.mk (T0.out.later hb)
  clear hb B5 T0
  go_wp2_with (with_reducible refine stop_at 63 ?_)
  refine settle (fun W => Below w.heap.size w W ∧ At7 W B6v.heap.size 1583 M D H I S (wrap64 (N - Int.tmod N 100)) ∧ At7 W w.heap.size 1583 M D H I S N) ⟨below_alloc B6.out _, At7.new _ _ _ _ _ _ _ _, T0'.out.alloc _⟩ ?_
  clear B6 T0'
  rintro B6w ⟨hb, hT1, hT0⟩
  have B6 := Aside0.mk hb; have T1 := Aside0.mk hT1; have T0 := Aside0.mk hT0
  clear hb hT1 hT0
  have N1 : w.heap.size ≠ B6v.heap.size := Nat.ne_of_lt (Z1.out)
  clear Z1
  generalize B6v.heap.size = p1 at *
  clear B6v
  go_wp2_with fail
  (with_reducible refine (impl_SeconddateTime.calls k _ 1583 M D H I S 0 0 _ EB.out).mono ?_)
  rintro e B7v ⟨rfl, hb⟩
  have B7 := Aside0.mk (below_then B6.out B6.out.size hb)
  have Z2 := Aside0.mk (T0.out.later hb).z
  have T0' := Aside0.mk (T0.out.later hb)
  have T1' := Aside0.mk (T1.out.later hb)
  clear hb B6 T0 T1
  go_wp2_with (with_reducible refine stop_at 68 ?_)
  refine settle (fun W => Below w.heap.size w W ∧ At7 W B7v.heap.size 1583 M D H I S 0 ∧ At7 W w.heap.size 1583 M D H I S N ∧ At7 W p1 1583 M D H I S (wrap64 (N - Int.tmod N 100))) ⟨below_alloc B7.out _, At7.new _ _ _ _ _ _ _ _, T0'.out.alloc _, T1'.out.alloc _⟩ ?_
  clear B7 T0' T1'
  rintro B7w ⟨hb, hT2, hT0, hT1⟩
  have B7 := Aside0.mk hb; have T2 := Aside0.mk hT2; have T0 := Aside0.mk hT0; have T1 := Aside0.mk hT1
  clear hb hT2 hT0 hT1
  have N2 : w.heap.size ≠ B7v.heap.size := Nat.ne_of_lt (Z2.out)
  clear Z2
  generalize B7v.heap.size = p2 at *
  clear B7v
  go_wp2_with fail
  (with_reducible refine (impl_DaydateTime.calls k _ 1583 M D 0 0 0 0 0 _ EC.out).mono ?_)
  rintro e B8v ⟨rfl, hb⟩
  have B8 := Aside0.mk (below_then B7.out B7.out.size hb)
  have Z3 := Aside0.mk (T0.out.later hb).z
  have T0' := Aside0.mk (T0.out.later hb)
  have T1' := Aside0.mk (T1.out.later hb)
  have T2' := Aside0.mk (T2.out.later hb)
  clear hb B7 T0 T1 T2
  go_wp2_with (with_reducible refine stop_at 73 ?_)
  refine settle (fun W => Below w.heap.size w W ∧ At7 W B8v.heap.size 1583 M D 0 0 0 0 ∧ At7 W w.heap.size 1583 M D H I S N ∧ At7 W p1 1583 M D H I S (wrap64 (N - Int.tmod N 100)) ∧ At7 W p2 1583 M D H I S 0) ⟨below_alloc B8.out _, At7.new _ _ _ _ _ _ _ _, T0'.out.alloc _, T1'.out.alloc _, T2'.out.alloc _⟩ ?_
  clear B8 T0' T1' T2'
  rintro B8w ⟨hb, hT3, hT0, hT1, hT2⟩
  have B8 := Aside0.mk hb; have T3 := Aside0.mk hT3; have T0 := Aside0.mk hT0; have T1 := Aside0.mk hT1; have T2 := Aside0.mk hT2
  clear hb hT3 hT0 hT1 hT2
  have N3 : w.heap.size ≠ B8v.heap.size := Nat.ne_of_lt (Z3.out)
  clear Z3
  generalize B8v.heap.size = p3 at *
  clear B8v
  go_wp2_with fail
  (with_reducible refine (impl_SecondtimeTime.calls k _ 1 1 1 H I S 0 0 _ ED.out).mono ?_)
  rintro e B9v ⟨rfl, hb⟩
  have B9 := Aside0.mk (below_then B8.out B8.out.size hb)
  have Z4 := Aside0.mk (T0.out.later hb).z
  have T0' := Aside0.mk (T0.out.later hb)
  have T1' := Aside0.mk (T1.out.later hb)
  have T2' := Aside0.mk (T2.out.later hb)
  have T3' := Aside0.mk (T3.out.later hb)
  clear hb B8 T0 T1 T2 T3
  go_wp2_with (with_reducible refine stop_at 86 ?_)
  refine settle (fun W => Below w.heap.size w W ∧ At7 W B9v.heap.size 1 1 1 H I S 0 ∧ At7 W w.heap.size 1583 M D H I S N ∧ At7 W p1 1583 M D H I S (wrap64 (N - Int.tmod N 100)) ∧ At7 W p2 1583 M D H I S 0 ∧ At7 W p3 1583 M D 0 0 0 0) ⟨below_alloc B9.out _, At7.new _ _ _ _ _ _ _ _, T0'.out.alloc _, T1'.out.alloc _, T2'.out.alloc _, T3'.out.alloc _⟩ ?_
  clear B9 T0' T1' T2' T3'
  rintro B9w ⟨hb, hT4, hT0, hT1, hT2, hT3⟩
  have B9 := Aside0.mk hb; have T4 := Aside0.mk hT4; have T0 := Aside0.mk hT0; have T1 := Aside0.mk hT1; have T2 := Aside0.mk hT2; have T3 := Aside0.mk hT3
  clear hb hT4 hT0 hT1 hT2 hT3
  have N4 : w.heap.size ≠ B9v.heap.size := Nat.ne_of_lt (Z4.out)
  clear Z4
  generalize B9v.heap.size = p4 at *
  clear B9v
  obtain ⟨z, c0, c1, c2, c3, c4, c5, c6, f0, f1, f2, f3, f4, f5, f6⟩ := T0.out
  go_wp2_with (with_reducible refine stop_at 109 ?_)
  refine settle (fun W => Below w.heap.size w W ∧ At7 W w.heap.size 1583 M D H I S (wrap64 (N - Int.tmod N 100)) ∧ At7 W p1 1583 M D H I S (wrap64 (N - Int.tmod N 100)) ∧ At7 W p2 1583 M D H I S 0 ∧ At7 W p3 1583 M D 0 0 0 0 ∧ At7 W p4 1 1 1 H I S 0 ∧ At7 W B9w.heap.size 1583 M D H I S 0 ∧ At7 W (B9w.heap.size + 1) 1583 M D 0 0 0 0 ∧ At7 W (B9w.heap.size + 1 + 1) 1 1 1 H I S 0) ⟨?_, ?_, ?_, ?_, ?_, ?_, ?_, ?_, ?_⟩ ?_
  · (repeat (first | (with_reducible exact Below.refl _ _) | (with_reducible exact B9.out) | (with_reducible apply below_alloc) | (with_reducible apply pw_below_drewN) | (with_reducible apply below_drew) | (with_reducible refine bset ?_ (Nat.le_refl _) _)))
  · exact (((T0.out.six _).alloc _).alloc _).alloc _
  · exact (((T1.out.other N1 _).alloc _).alloc _).alloc _
  · exact (((T2.out.other N2 _).alloc _).alloc _).alloc _
  · exact (((T3.out.other N3 _).alloc _).alloc _).alloc _
  · exact (((T4.out.other N4 _).alloc _).alloc _).alloc _
  · exact ((At7.at (by simp)).alloc _).alloc _
  · exact (At7.at (by simp)).alloc _
  · exact At7.at (by simp)
  clear B9 T0 T1 T2 T3 T4 z c0 c1 c2 c3 c4 c5 c6 f0 f1 f2 f3 f4 f5 f6
  rintro Z ⟨hb, ⟨_, a0, a1, a2, a3, a4, a5, a6, _, _, _, _, _, _, _⟩, ⟨_, b0, b1, b2, b3, b4, b5, b6, _, _, _, _, _, _, _⟩, ⟨_, c0, c1, c2, c3, c4, c5, c6, _, _, _, _, _, _, _⟩, ⟨_, d0, d1, d2, d3, d4, d5, d6, _, _, _, _, _, _, _⟩, ⟨_, e0, e1, e2, e3, e4, e5, e6, _, _, _, _, _, _, _⟩, ⟨_, f0, f1, f2, f3, f4, f5, f6, _, _, _, _, _, _, _⟩, ⟨_, g0, g1, g2, g3, g4, g5, g6, _, _, _, _, _, _, _⟩, ⟨_, h0, h1, h2, h3, h4, h5, h6, _, _, _, _, _, _, _⟩⟩
  have HB := Aside0.mk hb
  clear hb
  go_wp2
  go_ret
  exact ⟨by simp, HB.out⟩
end Go.Proofs.Ytbblgpgjgkmcbaa.PJro
