/- The law FnVersionOrder answers true for every input. -/
import Derived.Test.YtagmjdhjhjlffaaDoorRows
import Derived.Test.YtagmjdhjhjlffaaDoorVofH
import Derived.Test.YtagmjdhjhjlffaaDoorCards
import Derived.Test.YtagmjdhjhjlffaaDoorTie
import Derived.Lay
import Derived.MakeChecks
import Derived.LaidMore
import Derived.LaidLaws
import Derived.LaidHandle
import Derived.Stop.Joined
import Derived.OpenVars
import Derived.SevenTiedAt
import Derived.WalkKit
import Derived.ProofKit
import Derived.OpenShut
import Derived.ShutString
import Derived.ChangeOld
import Derived.Below
import Derived.SizedLaws
import Derived.Lib.SmallJoins
namespace Go.Proofs.YtagmjdhjhjlffaaDoor.fnVersionOrder
open Go.ChangeShapes Go.WideShapes Go.ChangeAt Go.RowKit Go.Joins Go.Deep
open Go.ChangeMaps (open_string shut_string)
set_option linter.unusedVariables false
theorem own : ownKnob Tryd.prog.godebug = none := by kernel_rfl
theorem laidOut : laidOutB Tryd.prog = true := by kernel_rfl
section
variable {H : Type} {enc : TypeId × Value → H} {P : Program} {w : World} {base : Nat} {spare : Nat → Bool} {held : Bool}
theorem open_arrN5 {r : Reach} {b0 : Nat} {t e : TypeId} {v : Value} {d : DataW H} {p : List MemPlace} (hs : P.underlying t = some (.array 5 e)) (he : P.cellsOf e = 1) (hC : P.cellsOf t = 5)
    (hv : Value.okWide P w r b0 t v) (h : DataW.Trod enc P w base spare held t v d p) :
    ∃ (v0 v1 v2 v3 v4 : Value) (y0 y1 y2 y3 y4 : DataW H × List MemPlace) (n : Nat), v = .agg #[v0, v1, v2, v3, v4] ∧ DataW.trod enc P w base spare held n e [v0] = some y0 ∧ DataW.trod enc P w base spare held n e [v1] = some y1 ∧ DataW.trod enc P w base spare held n e [v2] = some y2 ∧ DataW.trod enc P w base spare held n e [v3] = some y3 ∧ DataW.trod enc P w base spare held n e [v4] = some y4 := by
  obtain ⟨cs, rfl, hsz⟩ : ∃ cs, v = .agg cs ∧ cs.size = P.cellsOf t := by
    unfold Value.okWide at hv
    rw [hs] at hv
    obtain ⟨cs, h1, h2, _⟩ := hv
    exact ⟨cs, h1, h2⟩
  obtain ⟨l⟩ := cs
  match l, hsz.trans hC with
  | [c0, c1, c2, c3, c4], _ =>
    obtain ⟨fuel, hf⟩ := h
    obtain ⟨xs, n, _, hx, _, hlen, hg⟩ := DataW.trod_array hs hf
    match xs, hlen with
    | [y0, y1, y2, y3, y4], _ =>
      exact ⟨c0, c1, c2, c3, c4, y0, y1, y2, y3, y4, n, rfl, by simpa [Value.cells, he] using hg 0 (by decide), by simpa [Value.cells, he] using hg 1 (by decide), by simpa [Value.cells, he] using hg 2 (by decide), by simpa [Value.cells, he] using hg 3 (by decide), by simpa [Value.cells, he] using hg 4 (by decide)⟩
end
set_option maxRecDepth 100000 in
theorem lifted (os : Os) (started : os.Started) (H : Type) (enc : TypeId × Value → H) :
    ReturnsInHanded {} Tryd.checked os 4 .any (fun w args => (Rows.fnVersionOrderSpec.pre enc Tryd.prog Tryd.f4 [] false w args ∧ laidMetH Tryd.prog Rows.fnVersionOrderRow.laid w) ∧ sizedMet enc Tryd.prog Tryd.f4 (OpenSpec.ofChange Rows.fnVersionOrderSpec) false w args)
      (Rows.fnVersionOrderSpec.post enc Tryd.prog Tryd.f4 false true false false) := by
  refine returnsInHanded_of_change_and (C := Tryd.checked) (X := fun w _ => laidMetH Tryd.prog Rows.fnVersionOrderRow.laid w) (fun _ _ _ hh h => h.of_heap hh) own started (by kernel_rfl) Tryd.func4
    (ChangeSpec.witness_shaped (enc := enc) (C := Tryd.checked) (os := os) (X := fun w _ => laidMetH Tryd.prog Rows.fnVersionOrderRow.laid w) false (World.laidAll Tryd.prog os Rows.fnVersionOrderRow.laid) #[.agg #[.int .u64 0, .int .u64 0, .int .u64 0, .int .u64 0, .int .u64 0], .agg #[.int .u64 0, .int .u64 0, .int .u64 0, .int .u64 0, .int .u64 0], .int .u8 0] 8 (World.laidAll_os _ _ _)
      (World.shaped_of_ZipB (by kernel_rfl) (by kernel_rfl)) (by kernel_rfl) (by kernel_rfl) (by kernel_rfl)
      (by rw [MakeChecks.laidMetH_plain _ _ _ (by kernel_rfl)]; exact laidMet_laidAll _ (by kernel_rfl) (by kernel_rfl))) ?_
  intro W base args ds gs before hval0 hW hcnd hsz0 hL _
  have hsz : (DataW.weightsEach Tryd.prog (Tryd.f4.params.toList ++ Rows.fnVersionOrderSpec.plain.varTypes Tryd.prog) (ds ++ gs)).all (· ≤ reachBytes) = true := hsz0
  have hval : ∀ (j : Nat) t v, Tryd.f4.params[j]? = some t → args[j]? = some v → Value.okWide Tryd.prog W .any base t v := hval0
  have hW' := hW
  obtain ⟨p, q, hA0, hV, rfl, hfz, hnd⟩ := hW
  have hA : DataW.TrodAll enc Tryd.prog W 0 (fun _ => true) true Tryd.f4.params.toList args.toList ds p := hA0
  rw [Tryd.params4] at hA hval hsz
  obtain ⟨v0, vs0, d0, ds0, p0, q0, hargs, rfl, rfl, h0, r0⟩ := trodAll_cons hA
  obtain ⟨v1, vs1, d1, ds1, p1, q1, rfl, rfl, rfl, h1, r1⟩ := trodAll_cons r0
  obtain ⟨v2, vs2, d2, ds2, p2, q2, rfl, rfl, rfl, h2, r2⟩ := trodAll_cons r1
  obtain ⟨rfl, rfl, rfl⟩ := trodAll_nil r2
  obtain rfl : args = #[v0, v1, v2] := by cases args; simp_all
  obtain ⟨rfl, rfl⟩ := trodVars_none hV
  have k0 := h0
  have lt0 : ∀ x ∈ p0, x.block < W.heap.size := by obtain ⟨m, hm⟩ := k0; exact DataW.trod_lt m _ _ _ hm
  obtain ⟨x0_0, x0_1, x0_2, x0_3, x0_4, z0_0, z0_1, z0_2, z0_3, z0_4, nn0, rfl, g0_0, g0_1, g0_2, g0_3, g0_4⟩ := open_arrN5 Tryd.underlying23 (by kernel_rfl) (by kernel_rfl) (hval 0 23 v0 rfl rfl) h0
  obtain ⟨a0_0, e0_0, _, w0_0⟩ := DataW.trod_int Tryd.underlying22 g0_0
  simp at e0_0
  subst e0_0
  obtain ⟨a0_1, e0_1, _, w0_1⟩ := DataW.trod_int Tryd.underlying22 g0_1
  simp at e0_1
  subst e0_1
  obtain ⟨a0_2, e0_2, _, w0_2⟩ := DataW.trod_int Tryd.underlying22 g0_2
  simp at e0_2
  subst e0_2
  obtain ⟨a0_3, e0_3, _, w0_3⟩ := DataW.trod_int Tryd.underlying22 g0_3
  simp at e0_3
  subst e0_3
  obtain ⟨a0_4, e0_4, _, w0_4⟩ := DataW.trod_int Tryd.underlying22 g0_4
  simp at e0_4
  subst e0_4
  have k1 := h1
  have lt1 : ∀ x ∈ p1, x.block < W.heap.size := by obtain ⟨m, hm⟩ := k1; exact DataW.trod_lt m _ _ _ hm
  obtain ⟨x1_0, x1_1, x1_2, x1_3, x1_4, z1_0, z1_1, z1_2, z1_3, z1_4, nn1, rfl, g1_0, g1_1, g1_2, g1_3, g1_4⟩ := open_arrN5 Tryd.underlying23 (by kernel_rfl) (by kernel_rfl) (hval 1 23 v1 rfl rfl) h1
  obtain ⟨a1_0, e1_0, _, w1_0⟩ := DataW.trod_int Tryd.underlying22 g1_0
  simp at e1_0
  subst e1_0
  obtain ⟨a1_1, e1_1, _, w1_1⟩ := DataW.trod_int Tryd.underlying22 g1_1
  simp at e1_1
  subst e1_1
  obtain ⟨a1_2, e1_2, _, w1_2⟩ := DataW.trod_int Tryd.underlying22 g1_2
  simp at e1_2
  subst e1_2
  obtain ⟨a1_3, e1_3, _, w1_3⟩ := DataW.trod_int Tryd.underlying22 g1_3
  simp at e1_3
  subst e1_3
  obtain ⟨a1_4, e1_4, _, w1_4⟩ := DataW.trod_int Tryd.underlying22 g1_4
  simp at e1_4
  subst e1_4
  have k2 := h2
  have lt2 : ∀ x ∈ p2, x.block < W.heap.size := by obtain ⟨m, hm⟩ := k2; exact DataW.trod_lt m _ _ _ hm
  obtain ⟨a2, rfl, rfl, rfl, w2⟩ := open_int Tryd.underlying5 (hval 2 5 v2 rfl rfl) h2
  clear hA0 hval0 hsz0 hsz
  refine (Kb.FnVersionOrder a0_0 a0_1 a0_2 a0_3 a0_4 a1_0 a1_1 a1_2 a1_3 a1_4 a2 W w0_0 w0_1 w0_2 w0_3 w0_4 w1_0 w1_1 w1_2 w1_3 w1_4 w2 hL).mono fun e W' ⟨he, bel⟩ => ?_
  subst he
  exact ⟨_, rfl, _, _, _, [], _, [], hW', trodAll_mk1 (shut_bool Tryd.underlying4 _), (trodAll_cons_mk (Below.trod laidOut (by kernel_rfl) (of_decide_eq_true (by kernel_rfl)) k0 bel lt0) (trodAll_cons_mk (Below.trod laidOut (by kernel_rfl) (of_decide_eq_true (by kernel_rfl)) k1 bel lt1) (trodAll_cons_mk (Below.trod laidOut (by kernel_rfl) (of_decide_eq_true (by kernel_rfl)) k2 bel lt2) trodAll_mk0))), rfl, bel.frame _, fun h => by cases h⟩
theorem over : Rows.fnVersionOrderRow.holds Tryd.pinned (OpenSpec.ofChange Rows.fnVersionOrderSpec) :=
  OpenClaim.holds_of_wide 4 Tryd.f4 rfl rfl rfl rfl rfl rfl rfl ⟨rfl, rfl, rfl, rfl, rfl⟩ rfl rfl rfl rfl rfl (by kernel_rfl) Tryd.func4 (by kernel_rfl)
    (of_decide_eq_true (by kernel_rfl)) (by unfold Func.isWrapper; first | (rw [if_pos (by decide +kernel)]; kernel_rfl) | (rw [if_neg (by decide +kernel)]; exact ⟨rfl, rfl⟩))
    (fun os started H enc _ => lifted os started H enc)
theorem proved : Rows.FnVersionOrderSaid := over
end Go.Proofs.YtagmjdhjhjlffaaDoor.fnVersionOrder
namespace Go.Proofs.YtagmjdhjhjlffaaDoor
/-- The tied card. -/
theorem fnVersionOrder_holds : Rows.FnVersionOrderCardSaid :=
  Claim7.holds_tied_plain_at .later [] [.data, .data, .data, .sentinel, .sentinel] true (true, "5079aa5e6a2df8968a7262b54683348648876ba326078804c597e6865bd4d43d") true
    fnVersionOrder.proved (fun _ h => by cases h) (by kernel_rfl) (fun _ h => by cases h) fnVersionOrder_row_tie rfl ⟨rfl, rfl⟩ (by kernel_rfl) rfl
    (fun f fn hf hfn => by
      obtain rfl : f = 4 := Option.some.inj ((show Tryd.prog.funcNamed "given.example/pub-anacrusis/laws.FnVersionOrder" = some 4 by kernel_rfl).symm.trans hf) |>.symm
      obtain rfl : fn = Tryd.f4 := (Option.some.inj (Tryd.func4.symm.trans hfn)).symm
      exact ⟨by kernel_rfl, fun j t ht => by
        rw [Tryd.params4] at ht
        have hm : t ∈ [23, 23, 5] := by simpa using Array.mem_of_getElem? ht
        have hall : ([23, 23, 5].all fun u => !Tryd.prog.wantsStandIn u) = true := by kernel_rfl
        exact (show Tryd.prog.wantsStandIn t = false by simpa using List.all_eq_true.1 hall t hm)⟩)
    (by kernel_rfl)
end Go.Proofs.YtagmjdhjhjlffaaDoor
