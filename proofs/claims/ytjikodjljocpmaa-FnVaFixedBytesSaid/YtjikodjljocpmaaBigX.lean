/- spec.VaBig: a whole number of the reference as bytes. -/
import Derived.Test.YtjikodjljocpmaaBigW
namespace Go.Proofs.Ytjikodjljocpmaa.Kb
open Go Go.RowKit
set_option linter.unusedVariables false
set_option linter.unusedSimpArgs false
set_option maxHeartbeats 1000000
/-- What VaBig answers. -/
def VaBigOut (w : World) (neg : Bool) (n : Nat) (e : Ending) (w' : World) : Prop := ∃ A m c, e = .returned (.agg #[.bool neg, .slice A m c]) ∧ m ≤ c ∧ c ≤ maxLen ∧ n < 256 ^ m ∧ (m = 0 ∨ 256 ^ (m - 1) ≤ n) ∧ Rd w' [] A m (beL n m) ∧ Below w.heap.size w w' ∧ ∀ ad, A = some ad → w.heap.size ≤ ad.block
set_option maxRecDepth 100000 in
theorem specBig (neg : Bool) (A : Option Addr) (l c n K : Nat) (w : World) (h : DigV .u32 LB w A l c n) (hK : n < 256 ^ K) (hK2 : K ≤ 8796093022208) (fl : l ≤ 8796093022208) :
    Calls Try.prog 14 #[.agg #[.bool neg, .slice A l c]] w fun e w' => VaBigOut w neg n e w' := by
  have B0 : Below w.heap.size w ((w.alloc (.cells #[.bool neg, .slice A l c] 29)).alloc (.cells #[.bool false, .slice none 0 0] 24)) := ((Below.refl _ _).alloc (Nat.le_refl _) _).alloc (by simp) _
  have W0 := Hd.mk (((Blk.new w #[.bool neg, .slice A l c] 29).alloc (.cells #[.bool false, .slice none 0 0] 24)).drew)
  have W1 := Hd.mk (show Blk ((w.alloc (.cells #[.bool neg, .slice A l c] 29)).alloc (.cells #[.bool false, .slice none 0 0] 24)).drew (w.heap.size + 1) #[.bool false, .slice none 0 0] 24 by simpa using (Blk.new (w.alloc (.cells #[.bool neg, .slice A l c] 29)) #[.bool false, .slice none 0 0] 24).drew)
  have L0 := Hd.mk B0.drew
  have C := Hd.mk (fun (_ : Unit) => vaBytes A l c n K _ ((h.below B0.drew)) hK hK2 fl)
  clear B0 h
  go_enter Try.func14, Try.ntmps14
  go_wp2_with fail
  refine wp_region_held_drew (S := (fun W => W.cell? ⟨w.heap.size, 0, none⟩ = some (.bool neg) ∧ W.cell? ⟨w.heap.size, 1, none⟩ = some (.slice A l c))) (by kernel_rfl) ?_ (fun hHeld => ?_)
  · exact ⟨W0.out.cell 0 rfl, W0.out.cell 1 rfl⟩
  refine wpAnyH_take_d (i := 0) (some 3) (v := ?_) rfl rfl (by kernel_rfl) (by kernel_rfl) (by kernel_rfl) (fun _ _ _ h => h) (Or.inl ⟨by rfl, ?_⟩) hHeld ?_
  rotate_left
  · (intro w' hSw; (try dsimp only at hSw); go_simp; all_goals (with_reducible rfl))
  (try simp only [Act.put, List.setIfInBounds_toArray, List.set_cons_zero, List.set_cons_succ])
  refine wpAnyH_take_d (i := 1) (some 4) (v := ?_) rfl rfl (by kernel_rfl) (by kernel_rfl) (by kernel_rfl) (fun _ _ _ h => h) (Or.inl ⟨by rfl, ?_⟩) hHeld ?_
  rotate_left
  · (intro w' hSw; (try dsimp only at hSw); go_simp; all_goals (with_reducible rfl))
  (try simp only [Act.put, List.setIfInBounds_toArray, List.set_cons_zero, List.set_cons_succ])
  refine wpAnyH_take_d (i := 2) (some 5) (v := ?_) rfl rfl (by kernel_rfl) (by kernel_rfl) (by kernel_rfl) (fun _ _ _ h => h) (Or.inl ⟨by rfl, ?_⟩) hHeld ?_
  rotate_left
  · (intro w' hSw; (try dsimp only at hSw); go_simp; all_goals (with_reducible rfl))
  (try simp only [Act.put, List.setIfInBounds_toArray, List.set_cons_zero, List.set_cons_succ])
  refine wpAnyH_take_d (i := 3) (some 6) (v := ?_) rfl rfl (by kernel_rfl) (by kernel_rfl) (by kernel_rfl) (fun _ _ _ h => h) (Or.inl ⟨by rfl, ?_⟩) hHeld ?_
  rotate_left
  · (intro w' hSw; (try dsimp only at hSw); go_simp; all_goals (with_reducible rfl))
  (try simp only [Act.put, List.setIfInBounds_toArray, List.set_cons_zero, List.set_cons_succ])
  refine wpAnyH_ready (rs := [4]) (by kernel_rfl) (by simp) ?_
  refine AllReadyH.cons rfl (fun K hK => ?_) AllReadyH.nil
  go_simp
  (with_reducible refine (C.out ()).mono ?_)
  rintro e w4 ⟨A2, m, c2, rfl, k1, k2, k3, k4, k5, k6, k7⟩
  have W4 := Hd.mk (W0.out.below k6 W0.out.lt); have W5 := Hd.mk (W1.out.below k6 W1.out.lt)
  have K5 := Hd.mk k5; have K6 := Hd.mk (L0.out.trans (k6.mono L0.out.size)); have K7 := Hd.mk k7; have K3 := Hd.mk k3; have K4 := Hd.mk k4; have K1 := Hd.mk k1; have K2 := Hd.mk k2
  clear k1 k2 k3 k4 k5 k6 k7 C
  have s0 := W5.out.cell 0 rfl; have s1 := W5.out.cell 1 rfl; have f0 := W5.out.free 0; have f1 := W5.out.free 1
  refine hK.out _ _ ?_ (fun hHeld => ?_)
  · exact ⟨W4.out.cell 0 rfl, W4.out.cell 1 rfl⟩
  clear hK K
  (try simp only [Act.put, List.setIfInBounds_toArray, List.set_cons_zero, List.set_cons_succ])
  refine wpAnyH_take_d (i := 5) (some 8) (v := ?_) rfl rfl (by kernel_rfl) (by kernel_rfl) (by kernel_rfl) (fun _ _ _ h => h) (Or.inl ⟨by rfl, ?_⟩) hHeld ?_
  rotate_left
  · (intro w' hSw; (try dsimp only at hSw); go_simp; all_goals (with_reducible rfl))
  (try simp only [Act.put, List.setIfInBounds_toArray, List.set_cons_zero, List.set_cons_succ])
  refine wpAnyH_ready (rs := [6]) (by kernel_rfl) (by simp) ?_
  refine AllReadyH.cons rfl (fun K hK => ?_) AllReadyH.nil
  go_simp
  refine hK.out _ _ ?_ (fun hHeld => ?_)
  · exact ⟨((W4.out.set_ne (by simp) _).set_ne (by simp) _).cell 0 rfl, ((W4.out.set_ne (by simp) _).set_ne (by simp) _).cell 1 rfl⟩
  clear hK K
  (try simp only [Act.put, List.setIfInBounds_toArray, List.set_cons_zero, List.set_cons_succ])
  refine wpAnyH_done (by kernel_rfl) ?_ _
  go_wp2
  have Z := (W5.out.set 0 (.bool neg)).set 1 (.slice A2 m c2)
  have e0 := Z.cell 0 rfl; have e1 := Z.cell 1 rfl
  refine bodyPost_ret (v := .agg #[.bool neg, .slice A2 m c2]) (by simp [results, Try.results14, go_sem, e0, e1]) rfl ?_
  have sz : ∀ ad, A2 = some ad → w.heap.size + 2 ≤ ad.block := fun ad h => by have := K7.out ad h; simp at this; omega
  have rd : Rd ((w4.setCell ⟨w.heap.size + 1, 0, none⟩ (.bool neg)).setCell ⟨w.heap.size + 1, 1, none⟩ (.slice A2 m c2)) [] A2 m (beL n m) := by
    refine ⟨K5.out.len, K5.out.small, fun j hj => ?_⟩
    obtain ⟨ad, h1, h2, h3, h4⟩ := K5.out.at_ j hj
    have hb := sz ad h1
    refine ⟨ad, h1, ?_, by simpa [World.setCell] using h3, by simp⟩
    rw [World.cell?_setCell_far _ _ _ _ (by rw [add_block]; show w.heap.size + 1 ≠ _; omega), World.cell?_setCell_far _ _ _ _ (by rw [add_block]; show w.heap.size + 1 ≠ _; omega)]
    exact h2
  exact ⟨A2, m, c2, rfl, K1.out, K2.out, K3.out, K4.out, rd, (K6.out.setCell (by simp) _).setCell (by simp) _, fun ad h => by have := sz ad h; omega⟩
end Go.Proofs.Ytjikodjljocpmaa.Kb
