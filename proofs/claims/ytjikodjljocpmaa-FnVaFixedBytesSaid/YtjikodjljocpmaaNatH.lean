/- The reference's decimals: vaBig, VaDecimal. -/
import Derived.Test.YtjikodjljocpmaaNatG
namespace Go.Proofs.Ytjikodjljocpmaa.Kb
open Go Go.RowKit
set_option linter.unusedVariables false
set_option linter.unusedSimpArgs false
set_option maxHeartbeats 1000000
theorem vaWhole (neg : Bool) (A : Option Addr) (n c : Nat) (xs : List Int) (w : World) (hr : Rd w [] A n xs) (hby : ∀ y ∈ xs, 0 ≤ y ∧ y < 256) (hn : n ≤ 4294967296) (hnc : n ≤ c) (hc : c ≤ 9223372036854775807) :
    Calls Try.prog 18 #[.agg #[.bool neg, .slice A n c]] w fun e w' => WholeOut w neg (okB neg xs) (beN xs) e w' := by
  cases xs with
  | nil =>
    obtain rfl : n = 0 := by have := hr.len; simpa using this.symm
    exact vaWhole_nil neg A c w hc
  | cons x xs =>
    obtain ⟨ad, rfl, _⟩ := hr.at_ 0 (by simp)
    exact vaWhole_cons neg ad n c x xs w hr hby hn hnc hc
/-- What a function keeps whose parameter is a whole number in block g. -/
structure WnS (w0 : World) (g : Nat) (neg : Bool) (A : Option Addr) (l c a : Nat) (W : World) : Prop where
  blk : Blk W g #[.bool neg, .slice A l c] 29
  dig : DigV .u32 LB W A l c a
  bel : Below w0.heap.size w0 W
section
variable {w0 W W' : World} {g : Nat} {neg : Bool} {A : Option Addr} {l c a : Nat}
theorem WnS.on (h : WnS w0 g neg A l c a W) (hb : Below W.heap.size W W') : WnS w0 g neg A l c a W' :=
  ⟨h.blk.below hb h.blk.lt, h.dig.below hb, h.bel.trans (hb.mono h.bel.size)⟩
theorem wnS_of (h : WnS w0 g neg A l c a W) : W.cell? ⟨g, 0, none⟩ = some (.bool neg) ∧ W.cell? ⟨g, 1, none⟩ = some (.slice A l c) ∧ WnS w0 g neg A l c a W := ⟨h.blk.cell 0 rfl, h.blk.cell 1 rfl, h⟩
end
/-- What vaBig keeps: the parameter's block, the number's, the result's. -/
structure BgS (w0 : World) (g r h : Nat) (neg : Bool) (A : Option Addr) (n c : Nat) (A2 : Option Addr) (l2 c2 a : Nat) (W : World) : Prop where
  b1 : Blk W g #[.bool neg, .slice A n c] 24
  b2 : Blk W h #[.bool neg, .slice A2 l2 c2] 29
  dig : DigV .u32 LB W A2 l2 c2 a
  bel : Below w0.heap.size w0 W
  lt : w0.heap.size ≤ r
  gr : g ≠ r
  hr : h ≠ r
  nr : ∀ ad, A2 = some ad → ad.block ≠ r
section
variable {w0 W W' : World} {g r h : Nat} {neg : Bool} {A : Option Addr} {n c : Nat} {A2 : Option Addr} {l2 c2 a : Nat}
theorem BgS.set (S : BgS w0 g r h neg A n c A2 l2 c2 a W) (i : Nat) (v : Value) : BgS w0 g r h neg A n c A2 l2 c2 a (W.setCell ⟨r, i, none⟩ v) :=
  ⟨S.b1.set_ne (Ne.symm S.gr) v, S.b2.set_ne (Ne.symm S.hr) v, S.dig.set S.nr v, S.bel.setCell S.lt v, S.lt, S.gr, S.hr, S.nr⟩
theorem bgS_of (S : BgS w0 g r h neg A n c A2 l2 c2 a W) : W.cell? ⟨g, 1, none⟩ = some (.slice A n c) ∧ W.cell? ⟨h, 0, none⟩ = some (.bool neg) ∧ W.cell? ⟨h, 1, none⟩ = some (.slice A2 l2 c2) ∧ BgS w0 g r h neg A n c A2 l2 c2 a W :=
  ⟨S.b1.cell 1 rfl, S.b2.cell 0 rfl, S.b2.cell 1 rfl, S⟩
end
set_option maxRecDepth 100000 in
theorem vaBig (neg : Bool) (A : Option Addr) (n c M : Nat) (z : Int) (xs : List Int) (w : World) (hr : Rd w [] A n xs) (hby : ∀ y ∈ xs, 0 ≤ y ∧ y < 256) (hn : n ≤ 4294967296) (hnc : n ≤ c) (hc : c ≤ 9223372036854775807) (hz : z = M) (hM : M ≤ 1000) :
    Calls Try.prog 8 #[.agg #[.bool neg, .slice A n c], .int .i64 z] w fun e w' => WholeOut w neg (okB neg xs && decide (n ≤ M)) (beN xs) e w' := by
  subst hz
  have C := Hd.mk (fun W (hb : Below w.heap.size w W) => vaWhole neg A n c xs W (hr.below hb) hby hn hnc hc)
  clear hr hby
  go_enter Try.func8, Try.ntmps8
  go_wp2_with fail
  have HB0 := Hd.mk (show Below w.heap.size w ((w.alloc (.cells #[.bool neg, .slice A n c] 24)).alloc (.cells #[.bool false, .slice none 0 0] 29)) from ((Below.refl _ _).alloc (Nat.le_refl _) _).alloc (by simp) _)
  have HP0 := Hd.mk ((Blk.new w #[.bool neg, .slice A n c] 24).alloc (.cells #[.bool false, .slice none 0 0] 29))
  have HR0 := Hd.mk (show Blk ((w.alloc (.cells #[.bool neg, .slice A n c] 24)).alloc (.cells #[.bool false, .slice none 0 0] 29)) (w.heap.size + 1) #[.bool false, .slice none 0 0] 29 by simpa using Blk.new (w.alloc (.cells #[.bool neg, .slice A n c] 24)) #[.bool false, .slice none 0 0] 29)
  with_reducible refine (C.out _ HB0.out).mono ?_
  rintro e w2 ⟨A2, l2, c2, rfl, hd, hb, hf⟩
  go_wp2_with fail
  obtain ⟨W, hW⟩ : ∃ W, W = w2.alloc (.cells #[.bool neg, .slice A2 l2 c2] 29) := ⟨_, rfl⟩
  have hsz : w.heap.size + 1 < w2.heap.size := (HR0.out.below hb HR0.out.lt).lt
  have hS : BgS w w.heap.size (w.heap.size + 1) w2.heap.size neg A n c A2 l2 c2 (beN xs) W.drew := by
    subst hW
    refine ⟨((HP0.out.below hb HP0.out.lt).alloc _).drew, (Blk.new _ _ _).drew, ?_, ((HB0.out.trans (hb.mono HB0.out.size)).alloc (by omega) _).drew, by omega, by omega, by omega, ?_⟩
    · exact (hd.below ((Below.refl _ _).alloc (Nat.le_refl _) _ : Below w2.heap.size w2 (w2.alloc (.cells #[.bool neg, .slice A2 l2 c2] 29)))).below (Below.refl _ _).drew
    · exact fun ad h => by have := hf ad h; simp at this; omega
  have hr : Blk W (w.heap.size + 1) #[.bool false, .slice none 0 0] 29 := by
    subst hW
    exact (HR0.out.below hb HR0.out.lt).alloc _
  rw [← hW]
  have S0 := bgS_of hS
  have HRB := Hd.mk hr
  have y0 : W.cell? ⟨w.heap.size + 1, 0, none⟩ = some (.bool false) := hr.cell 0 rfl
  have y1 : W.cell? ⟨w.heap.size + 1, 1, none⟩ = some (.slice none 0 0) := hr.cell 1 rfl
  have f0 := hr.free 0; have f1 := hr.free 1
  have HFR := Hd.mk (fun ad (h : A2 = some ad) => Nat.le_trans (show w.heap.size ≤ _ by simp; omega) (hf ad h))
  clear hW hS hr hb hd hf hsz
  cases hok : okB neg xs
  case false =>
    have HOK := Hd.mk hok
    clear hok
    refine wp_region_held_drew (S := (fun W => W.cell? ⟨w.heap.size, 1, none⟩ = some (.slice A n c) ∧ W.cell? ⟨w2.heap.size, 0, none⟩ = some (.bool neg) ∧ W.cell? ⟨w2.heap.size, 1, none⟩ = some (.slice A2 l2 c2) ∧ BgS w w.heap.size (w.heap.size + 1) w2.heap.size neg A n c A2 l2 c2 (beN xs) W)) (by kernel_rfl) ?_ (fun hHeld => ?_)
    · exact S0
    refine wpAnyH_take_d (i := 0) (some 13) (v := ?_) rfl rfl (by kernel_rfl) (by kernel_rfl) (by kernel_rfl) (fun _ _ _ h => h) (Or.inl ⟨by rfl, ?_⟩) hHeld ?_
    rotate_left
    · (intro w' hSw; (try dsimp only at hSw); go_simp; all_goals (with_reducible rfl))
    (try simp only [Act.put, List.setIfInBounds_toArray, List.set_cons_zero, List.set_cons_succ])
    refine wpAnyH_take_d (i := 1) (some 14) (v := ?_) rfl rfl (by kernel_rfl) (by kernel_rfl) (by kernel_rfl) (fun _ _ _ h => h) (Or.inl ⟨by rfl, ?_⟩) hHeld ?_
    rotate_left
    · (intro w' hSw; (try dsimp only at hSw); go_simp; all_goals (with_reducible rfl))
    (try simp only [Act.put, List.setIfInBounds_toArray, List.set_cons_zero, List.set_cons_succ])
    refine wpAnyH_take_d (i := 2) (some 15) (v := ?_) rfl rfl (by kernel_rfl) (by kernel_rfl) (by kernel_rfl) (fun _ _ _ h => h) (Or.inl ⟨by rfl, ?_⟩) hHeld ?_
    rotate_left
    · (intro w' hSw; (try dsimp only at hSw); go_simp; all_goals (with_reducible rfl))
    (try simp only [Act.put, List.setIfInBounds_toArray, List.set_cons_zero, List.set_cons_succ])
    refine wpAnyH_take_d (i := 3) (some 16) (v := undef) rfl rfl (by kernel_rfl) (by kernel_rfl) (by kernel_rfl) (fun _ _ _ h => h) (Or.inr ⟨by rfl, rfl⟩) hHeld ?_
    (try simp only [Act.put, List.setIfInBounds_toArray, List.set_cons_zero, List.set_cons_succ])
    refine wpAnyH_take_d (i := 4) (some 17) (v := undef) rfl rfl (by kernel_rfl) (by kernel_rfl) (by kernel_rfl) (fun _ _ _ h => h) (Or.inr ⟨by rfl, rfl⟩) hHeld ?_
    (try simp only [Act.put, List.setIfInBounds_toArray, List.set_cons_zero, List.set_cons_succ])
    refine wpAnyH_take_d (i := 5) (some 18) (v := undef) rfl rfl (by kernel_rfl) (by kernel_rfl) (by kernel_rfl) (fun _ _ _ h => h) (Or.inr ⟨by rfl, rfl⟩) hHeld ?_
    (try simp only [Act.put, List.setIfInBounds_toArray, List.set_cons_zero, List.set_cons_succ])
    refine wpAnyH_take_d (i := 6) (some 19) (v := undef) rfl rfl (by kernel_rfl) (by kernel_rfl) (by kernel_rfl) (fun _ _ _ h => h) (Or.inr ⟨by rfl, rfl⟩) hHeld ?_
    (try simp only [Act.put, List.setIfInBounds_toArray, List.set_cons_zero, List.set_cons_succ])
    refine wpAnyH_take_d (i := 7) (some 20) (v := undef) rfl rfl (by kernel_rfl) (by kernel_rfl) (by kernel_rfl) (fun _ _ _ h => h) (Or.inr ⟨by rfl, rfl⟩) hHeld ?_
    (try simp only [Act.put, List.setIfInBounds_toArray, List.set_cons_zero, List.set_cons_succ])
    refine wpAnyH_take_d (i := 8) (some 21) (v := ?_) rfl rfl (by kernel_rfl) (by kernel_rfl) (by kernel_rfl) (fun _ _ _ h => h) (Or.inl ⟨by rfl, ?_⟩) hHeld ?_
    rotate_left
    · (intro w' hSw; (try dsimp only at hSw); go_simp; all_goals (with_reducible rfl))
    (try simp only [Act.put, List.setIfInBounds_toArray, List.set_cons_zero, List.set_cons_succ])
    refine wpAnyH_ready (rs := [9]) (by kernel_rfl) (by simp) ?_
    refine AllReadyH.cons rfl (fun K hK => ?_) AllReadyH.nil
    go_simp
    refine hK.out _ _ ?_ (fun hHeld => ?_)
    · exact bgS_of ((hHeld.2.2.2.set 0 _).set 1 _)
    clear hK K
    (try simp only [Act.put, List.setIfInBounds_toArray, List.set_cons_zero, List.set_cons_succ])
    refine wpAnyH_take_d (i := 10) (some 5) (v := ?_) rfl rfl (by kernel_rfl) (by kernel_rfl) (by kernel_rfl) (fun _ _ _ h => h) (Or.inl ⟨by rfl, ?_⟩) hHeld ?_
    rotate_left
    · (intro w' hSw; (try dsimp only at hSw); go_simp; all_goals (with_reducible rfl))
    (try simp only [Act.put, List.setIfInBounds_toArray, List.set_cons_zero, List.set_cons_succ])
    refine wpAnyH_done (by kernel_rfl) ?_ _
    go_wp2
    refine bodyPost_ret (v := .tuple #[.agg #[.bool neg, .slice A2 l2 c2], .bool (false && decide (n ≤ M))]) (by simp [results, Try.results8, go_sem, y0, y1]) rfl ⟨A2, l2, c2, by rw [HOK.out], hHeld.2.2.2.dig, hHeld.2.2.2.bel, HFR.out⟩
  case true =>
    have HOK := Hd.mk hok
    clear hok
    refine wp_region_held_drew (S := (fun W => W.cell? ⟨w.heap.size, 1, none⟩ = some (.slice A n c) ∧ W.cell? ⟨w2.heap.size, 0, none⟩ = some (.bool neg) ∧ W.cell? ⟨w2.heap.size, 1, none⟩ = some (.slice A2 l2 c2) ∧ BgS w w.heap.size (w.heap.size + 1) w2.heap.size neg A n c A2 l2 c2 (beN xs) W)) (by kernel_rfl) ?_ (fun hHeld => ?_)
    · exact S0
    refine wpAnyH_take_d (i := 0) (some 13) (v := ?_) rfl rfl (by kernel_rfl) (by kernel_rfl) (by kernel_rfl) (fun _ _ _ h => h) (Or.inl ⟨by rfl, ?_⟩) hHeld ?_
    rotate_left
    · (intro w' hSw; (try dsimp only at hSw); go_simp; all_goals (with_reducible rfl))
    (try simp only [Act.put, List.setIfInBounds_toArray, List.set_cons_zero, List.set_cons_succ])
    refine wpAnyH_take_d (i := 1) (some 14) (v := ?_) rfl rfl (by kernel_rfl) (by kernel_rfl) (by kernel_rfl) (fun _ _ _ h => h) (Or.inl ⟨by rfl, ?_⟩) hHeld ?_
    rotate_left
    · (intro w' hSw; (try dsimp only at hSw); go_simp; all_goals (with_reducible rfl))
    (try simp only [Act.put, List.setIfInBounds_toArray, List.set_cons_zero, List.set_cons_succ])
    refine wpAnyH_take_d (i := 2) (some 15) (v := ?_) rfl rfl (by kernel_rfl) (by kernel_rfl) (by kernel_rfl) (fun _ _ _ h => h) (Or.inl ⟨by rfl, ?_⟩) hHeld ?_
    rotate_left
    · (intro w' hSw; (try dsimp only at hSw); go_simp; all_goals (with_reducible rfl))
    (try simp only [Act.put, List.setIfInBounds_toArray, List.set_cons_zero, List.set_cons_succ])
    refine wpAnyH_take_d (i := 3) (some 16) (v := ?_) rfl rfl (by kernel_rfl) (by kernel_rfl) (by kernel_rfl) (fun _ _ _ h => h) (Or.inl ⟨by rfl, ?_⟩) hHeld ?_
    rotate_left
    · (intro w' hSw; (try dsimp only at hSw); go_simp; all_goals (with_reducible rfl))
    (try simp only [Act.put, List.setIfInBounds_toArray, List.set_cons_zero, List.set_cons_succ])
    refine wpAnyH_take_d (i := 4) (some 17) (v := ?_) rfl rfl (by kernel_rfl) (by kernel_rfl) (by kernel_rfl) (fun _ _ _ h => h) (Or.inl ⟨by rfl, ?_⟩) hHeld ?_
    rotate_left
    · (intro w' hSw; (try dsimp only at hSw); go_simp; all_goals (with_reducible rfl))
    (try simp only [Act.put, List.setIfInBounds_toArray, List.set_cons_zero, List.set_cons_succ])
    refine wpAnyH_take_d (i := 5) (some 18) (v := ?_) rfl rfl (by kernel_rfl) (by kernel_rfl) (by kernel_rfl) (fun _ _ _ h => h) (Or.inl ⟨by rfl, ?_⟩) hHeld ?_
    rotate_left
    · (intro w' hSw; (try dsimp only at hSw); go_simp; all_goals (with_reducible rfl))
    (try simp only [Act.put, List.setIfInBounds_toArray, List.set_cons_zero, List.set_cons_succ])
    refine wpAnyH_take_d (i := 6) (some 19) (v := ?_) rfl rfl (by kernel_rfl) (by kernel_rfl) (by kernel_rfl) (fun _ _ _ h => h) (Or.inl ⟨by rfl, ?_⟩) hHeld ?_
    rotate_left
    · (intro w' hSw; (try dsimp only at hSw); go_simp; all_goals (with_reducible rfl))
    (try simp only [Act.put, List.setIfInBounds_toArray, List.set_cons_zero, List.set_cons_succ])
    refine wpAnyH_take_d (i := 7) (some 20) (v := ?_) rfl rfl (by kernel_rfl) (by kernel_rfl) (by kernel_rfl) (fun _ _ _ h => h) (Or.inl ⟨by rfl, ?_⟩) hHeld ?_
    rotate_left
    · (intro w' hSw; (try dsimp only at hSw); go_simp; all_goals (with_reducible rfl))
    (try simp only [Act.put, List.setIfInBounds_toArray, List.set_cons_zero, List.set_cons_succ])
    refine wpAnyH_take_d (i := 8) (some 21) (v := ?_) rfl rfl (by kernel_rfl) (by kernel_rfl) (by kernel_rfl) (fun _ _ _ h => h) (Or.inl ⟨by rfl, ?_⟩) hHeld ?_
    rotate_left
    · (intro w' hSw; (try dsimp only at hSw); go_simp; all_goals (with_reducible rfl))
    (try simp only [Act.put, List.setIfInBounds_toArray, List.set_cons_zero, List.set_cons_succ])
    refine wpAnyH_ready (rs := [9]) (by kernel_rfl) (by simp) ?_
    refine AllReadyH.cons rfl (fun K hK => ?_) AllReadyH.nil
    go_simp
    refine hK.out _ _ ?_ (fun hHeld => ?_)
    · exact bgS_of ((hHeld.2.2.2.set 0 _).set 1 _)
    clear hK K
    (try simp only [Act.put, List.setIfInBounds_toArray, List.set_cons_zero, List.set_cons_succ])
    refine wpAnyH_take_d (i := 10) (some 5) (v := ?_) rfl rfl (by kernel_rfl) (by kernel_rfl) (by kernel_rfl) (fun _ _ _ h => h) (Or.inl ⟨by rfl, ?_⟩) hHeld ?_
    rotate_left
    · (intro w' hSw; (try dsimp only at hSw); go_simp; all_goals (with_reducible rfl))
    (try simp only [Act.put, List.setIfInBounds_toArray, List.set_cons_zero, List.set_cons_succ])
    refine wpAnyH_done (by kernel_rfl) ?_ _
    go_wp2
    refine bodyPost_ret (v := .tuple #[.agg #[.bool neg, .slice A2 l2 c2], .bool (true && decide (n ≤ M))]) (by simp [results, Try.results8, go_sem, y0, y1]) rfl ⟨A2, l2, c2, by rw [HOK.out], hHeld.2.2.2.dig, hHeld.2.2.2.bel, HFR.out⟩
theorem natCmpV (A : Option Addr) (la ca a : Nat) (A' : Option Addr) (lb cb b : Nat) (v : Int) (w : World) (ha : DigV .u32 LB w A la ca a) (hb : DigV .u32 LB w A' lb cb b) (hv : cmpI a b = v) :
    Calls Try.prog 19 #[.slice A la ca, .slice A' lb cb] w fun e w' => e = .returned (.int .i64 v) ∧ Below w.heap.size w w' := by subst hv; exact natCmp A la ca a A' lb cb b w ha hb
/-- The number that a decimal is, as 16 bytes. -/
def decN (neg : Bool) (a : Nat) (x : Nat) : Nat := a + x * 2 ^ 113 + (if neg = true then 2 ^ 127 else 0)
def DecNo (w : World) (e : Ending) (w' : World) : Prop := e = .returned (.tuple #[.slice none 0 0, .bool false]) ∧ Below w.heap.size w w'
def DecYes (w : World) (n : Nat) (e : Ending) (w' : World) : Prop := ∃ g, e = .returned (.tuple #[.slice (some ⟨g, 0, none⟩) 16 16, .bool true]) ∧ Blk w' g (bc (leL n 16)).toArray 5 ∧ w.heap.size ≤ g ∧ Below w.heap.size w w'
theorem two_lt (k : Nat) (h : k ≤ 480) : 2 ^ k < LB ^ 17 := by
  calc 2 ^ k ≤ 2 ^ 480 := Nat.pow_le_pow_right (by decide) h
    _ < LB ^ 17 := by decide +kernel
set_option maxRecDepth 100000 in
theorem vaDecimal_no (neg : Bool) (A : Option Addr) (l c a : Nat) (x : Int) (w : World) (h : DigV .u32 LB w A l c a) (hx : -9223372036854775808 ≤ x ∧ x ≤ 9223372036854775807) (hno : 2 ^ 113 ≤ a ∨ x < -6176 ∨ 6111 < x) :
    Calls Try.prog 9 #[.agg #[.bool neg, .slice A l c], .int .i64 x] w fun e w' => DecNo w e w' := by
  have C1 := Hd.mk (fun W => vaTwo 113 113 W rfl (by decide))
  have C2 := Hd.mk (fun W W' (v : Int) (hS : WnS w w.heap.size neg A l c a W) A' l' c' (hd : DigV .u32 LB W' A' l' c' (2 ^ 113)) (hb : Below W.heap.size W W') (hv : cmpI a (2 ^ 113) = v) => natCmpV A l c a A' l' c' (2 ^ 113) v W' (hS.on hb).dig hd hv)
  have H := Hd.mk h
  have CM : (2 ^ 113 ≤ a ∧ (cmpI a (2 ^ 113) = 0 ∨ cmpI a (2 ^ 113) = 1)) ∨ (a < 2 ^ 113 ∧ cmpI a (2 ^ 113) = -1) := by
    generalize 2 ^ 113 = P
    rcases Nat.lt_trichotomy a P with h | h | h
    · exact .inr ⟨h, cmpI_lt h⟩
    · exact .inl ⟨by omega, .inl (cmpI_eq h)⟩
    · exact .inl ⟨by omega, .inr (cmpI_gt h)⟩
  have CM2 : ((cmpI a (2 ^ 113) = 0 ∨ cmpI a (2 ^ 113) = 1)) ∨ (cmpI a (2 ^ 113) = -1 ∧ (x < -6176 ∨ ¬ x < -6176 ∧ 6111 < x)) := by
    rcases CM with ⟨_, h⟩ | ⟨h1, h⟩
    · exact .inl h
    · refine .inr ⟨h, ?_⟩
      generalize 2 ^ 113 = P at *
      omega
  clear h CM hno
  go_enter Try.func9, Try.ntmps9
  go_wp2_with fail
  have S0 := wnS_of (W := (w.alloc (.cells #[.bool neg, .slice A l c] 29)).drew) (w0 := w) (g := w.heap.size) (a := a) ⟨(Blk.new _ _ _).drew, H.out.below ((Below.refl _ _).alloc (Nat.le_refl _) _).drew, ((Below.refl _ _).alloc (Nat.le_refl _) _).drew⟩
  rcases CM2 with (hc | hc) | ⟨hc, hr | ⟨hr, hr2⟩⟩
  · have HC := Hd.mk hc
    clear hc
    refine wp_region_held_drew (S := (fun W => W.cell? ⟨w.heap.size, 0, none⟩ = some (.bool neg) ∧ W.cell? ⟨w.heap.size, 1, none⟩ = some (.slice A l c) ∧ WnS w w.heap.size neg A l c a W)) (by kernel_rfl) ?_ (fun hHeld => ?_)
    · exact S0
    refine wpAnyH_take_d (i := 0) (some 7) (v := ?_) rfl rfl (by kernel_rfl) (by kernel_rfl) (by kernel_rfl) (fun _ _ _ h => h) (Or.inl ⟨by rfl, ?_⟩) hHeld ?_
    rotate_left
    · (intro w' hSw; (try dsimp only at hSw); go_simp; all_goals (with_reducible rfl))
    (try simp only [Act.put, List.setIfInBounds_toArray, List.set_cons_zero, List.set_cons_succ])
    refine wpAnyH_take_d (i := 1) (some 8) (v := ?_) rfl rfl (by kernel_rfl) (by kernel_rfl) (by kernel_rfl) (fun _ _ _ h => h) (Or.inl ⟨by rfl, ?_⟩) hHeld ?_
    rotate_left
    · (intro w' hSw; (try dsimp only at hSw); go_simp; all_goals (with_reducible rfl))
    (try simp only [Act.put, List.setIfInBounds_toArray, List.set_cons_zero, List.set_cons_succ])
    refine wpAnyH_ready (rs := [2]) (by kernel_rfl) (by simp) ?_
    refine AllReadyH.cons rfl (fun K hK => ?_) AllReadyH.nil
    go_simp
    (with_reducible refine (C1.out _).mono ?_)
    rintro e w2 ⟨A2, l2, c2, rfl, hd2, hb2, _⟩
    refine hK.out _ _ ?_ (fun hHeld => ?_)
    · exact wnS_of (hHeld.2.2.on hb2)
    clear hK K
    (try simp only [Act.put, List.setIfInBounds_toArray, List.set_cons_zero, List.set_cons_succ])
    refine wpAnyH_ready (rs := [3]) (by kernel_rfl) (by simp) ?_
    refine AllReadyH.cons rfl (fun K hK => ?_) AllReadyH.nil
    go_simp
    (with_reducible refine (natCmpV A l c a A2 l2 c2 (2 ^ 113) (0) _ hHeld.2.2.dig hd2 HC.out).mono ?_)
    rintro e w3 ⟨rfl, hb3⟩
    refine hK.out _ _ ?_ (fun hHeld => ?_)
    · exact wnS_of (hHeld.2.2.on hb3)
    clear hK K
    (try simp only [Act.put, List.setIfInBounds_toArray, List.set_cons_zero, List.set_cons_succ])
    refine wpAnyH_take_d (i := 4) (some 11) (v := ?_) rfl rfl (by kernel_rfl) (by kernel_rfl) (by kernel_rfl) (fun _ _ _ h => h) (Or.inl ⟨by rfl, ?_⟩) hHeld ?_
    rotate_left
    · (intro w' hSw; (try dsimp only at hSw); go_simp; all_goals (with_reducible rfl))
    (try simp only [Act.put, List.setIfInBounds_toArray, List.set_cons_zero, List.set_cons_succ])
    refine wpAnyH_take_d (i := 5) (some 12) (v := ?_) rfl rfl (by kernel_rfl) (by kernel_rfl) (by kernel_rfl) (fun _ _ _ h => h) (Or.inl ⟨by rfl, ?_⟩) hHeld ?_
    rotate_left
    · (intro w' hSw; (try dsimp only at hSw); go_simp; all_goals (with_reducible rfl))
    (try simp only [Act.put, List.setIfInBounds_toArray, List.set_cons_zero, List.set_cons_succ])
    refine wpAnyH_take_d (i := 6) (some 13) (v := undef) rfl rfl (by kernel_rfl) (by kernel_rfl) (by kernel_rfl) (fun _ _ _ h => h) (Or.inr ⟨by rfl, rfl⟩) hHeld ?_
    (try simp only [Act.put, List.setIfInBounds_toArray, List.set_cons_zero, List.set_cons_succ])
    refine wpAnyH_take_d (i := 7) (some 14) (v := undef) rfl rfl (by kernel_rfl) (by kernel_rfl) (by kernel_rfl) (fun _ _ _ h => h) (Or.inr ⟨by rfl, rfl⟩) hHeld ?_
    (try simp only [Act.put, List.setIfInBounds_toArray, List.set_cons_zero, List.set_cons_succ])
    refine wpAnyH_take_d (i := 8) (some 15) (v := ?_) rfl rfl (by kernel_rfl) (by kernel_rfl) (by kernel_rfl) (fun _ _ _ h => h) (Or.inl ⟨by rfl, ?_⟩) hHeld ?_
    rotate_left
    · (intro w' hSw; (try dsimp only at hSw); go_simp; all_goals (with_reducible rfl))
    (try simp only [Act.put, List.setIfInBounds_toArray, List.set_cons_zero, List.set_cons_succ])
    refine wpAnyH_take_d (i := 9) (some 16) (v := ?_) rfl rfl (by kernel_rfl) (by kernel_rfl) (by kernel_rfl) (fun _ _ _ h => h) (Or.inl ⟨by rfl, ?_⟩) hHeld ?_
    rotate_left
    · (intro w' hSw; (try dsimp only at hSw); go_simp; all_goals (with_reducible rfl))
    (try simp only [Act.put, List.setIfInBounds_toArray, List.set_cons_zero, List.set_cons_succ])
    refine wpAnyH_take_d (i := 10) (some 17) (v := undef) rfl rfl (by kernel_rfl) (by kernel_rfl) (by kernel_rfl) (fun _ _ _ h => h) (Or.inr ⟨by rfl, rfl⟩) hHeld ?_
    (try simp only [Act.put, List.setIfInBounds_toArray, List.set_cons_zero, List.set_cons_succ])
    refine wpAnyH_take_d (i := 11) (some 18) (v := undef) rfl rfl (by kernel_rfl) (by kernel_rfl) (by kernel_rfl) (fun _ _ _ h => h) (Or.inr ⟨by rfl, rfl⟩) hHeld ?_
    (try simp only [Act.put, List.setIfInBounds_toArray, List.set_cons_zero, List.set_cons_succ])
    refine wpAnyH_take_d (i := 12) (some 19) (v := ?_) rfl rfl (by kernel_rfl) (by kernel_rfl) (by kernel_rfl) (fun _ _ _ h => h) (Or.inl ⟨by rfl, ?_⟩) hHeld ?_
    rotate_left
    · (intro w' hSw; (try dsimp only at hSw); go_simp; all_goals (with_reducible rfl))
    (try simp only [Act.put, List.setIfInBounds_toArray, List.set_cons_zero, List.set_cons_succ])
    refine wpAnyH_done (by kernel_rfl) ?_ _
    go_wp2_with fail
    go_ret2
    exact ⟨rfl, hHeld.2.2.bel⟩
  · have HC := Hd.mk hc
    clear hc
    refine wp_region_held_drew (S := (fun W => W.cell? ⟨w.heap.size, 0, none⟩ = some (.bool neg) ∧ W.cell? ⟨w.heap.size, 1, none⟩ = some (.slice A l c) ∧ WnS w w.heap.size neg A l c a W)) (by kernel_rfl) ?_ (fun hHeld => ?_)
    · exact S0
    refine wpAnyH_take_d (i := 0) (some 7) (v := ?_) rfl rfl (by kernel_rfl) (by kernel_rfl) (by kernel_rfl) (fun _ _ _ h => h) (Or.inl ⟨by rfl, ?_⟩) hHeld ?_
    rotate_left
    · (intro w' hSw; (try dsimp only at hSw); go_simp; all_goals (with_reducible rfl))
    (try simp only [Act.put, List.setIfInBounds_toArray, List.set_cons_zero, List.set_cons_succ])
    refine wpAnyH_take_d (i := 1) (some 8) (v := ?_) rfl rfl (by kernel_rfl) (by kernel_rfl) (by kernel_rfl) (fun _ _ _ h => h) (Or.inl ⟨by rfl, ?_⟩) hHeld ?_
    rotate_left
    · (intro w' hSw; (try dsimp only at hSw); go_simp; all_goals (with_reducible rfl))
    (try simp only [Act.put, List.setIfInBounds_toArray, List.set_cons_zero, List.set_cons_succ])
    refine wpAnyH_ready (rs := [2]) (by kernel_rfl) (by simp) ?_
    refine AllReadyH.cons rfl (fun K hK => ?_) AllReadyH.nil
    go_simp
    (with_reducible refine (C1.out _).mono ?_)
    rintro e w2 ⟨A2, l2, c2, rfl, hd2, hb2, _⟩
    refine hK.out _ _ ?_ (fun hHeld => ?_)
    · exact wnS_of (hHeld.2.2.on hb2)
    clear hK K
    (try simp only [Act.put, List.setIfInBounds_toArray, List.set_cons_zero, List.set_cons_succ])
    refine wpAnyH_ready (rs := [3]) (by kernel_rfl) (by simp) ?_
    refine AllReadyH.cons rfl (fun K hK => ?_) AllReadyH.nil
    go_simp
    (with_reducible refine (natCmpV A l c a A2 l2 c2 (2 ^ 113) (1) _ hHeld.2.2.dig hd2 HC.out).mono ?_)
    rintro e w3 ⟨rfl, hb3⟩
    refine hK.out _ _ ?_ (fun hHeld => ?_)
    · exact wnS_of (hHeld.2.2.on hb3)
    clear hK K
    (try simp only [Act.put, List.setIfInBounds_toArray, List.set_cons_zero, List.set_cons_succ])
    refine wpAnyH_take_d (i := 4) (some 11) (v := ?_) rfl rfl (by kernel_rfl) (by kernel_rfl) (by kernel_rfl) (fun _ _ _ h => h) (Or.inl ⟨by rfl, ?_⟩) hHeld ?_
    rotate_left
    · (intro w' hSw; (try dsimp only at hSw); go_simp; all_goals (with_reducible rfl))
    (try simp only [Act.put, List.setIfInBounds_toArray, List.set_cons_zero, List.set_cons_succ])
    refine wpAnyH_take_d (i := 5) (some 12) (v := ?_) rfl rfl (by kernel_rfl) (by kernel_rfl) (by kernel_rfl) (fun _ _ _ h => h) (Or.inl ⟨by rfl, ?_⟩) hHeld ?_
    rotate_left
    · (intro w' hSw; (try dsimp only at hSw); go_simp; all_goals (with_reducible rfl))
    (try simp only [Act.put, List.setIfInBounds_toArray, List.set_cons_zero, List.set_cons_succ])
    refine wpAnyH_take_d (i := 6) (some 13) (v := undef) rfl rfl (by kernel_rfl) (by kernel_rfl) (by kernel_rfl) (fun _ _ _ h => h) (Or.inr ⟨by rfl, rfl⟩) hHeld ?_
    (try simp only [Act.put, List.setIfInBounds_toArray, List.set_cons_zero, List.set_cons_succ])
    refine wpAnyH_take_d (i := 7) (some 14) (v := undef) rfl rfl (by kernel_rfl) (by kernel_rfl) (by kernel_rfl) (fun _ _ _ h => h) (Or.inr ⟨by rfl, rfl⟩) hHeld ?_
    (try simp only [Act.put, List.setIfInBounds_toArray, List.set_cons_zero, List.set_cons_succ])
    refine wpAnyH_take_d (i := 8) (some 15) (v := ?_) rfl rfl (by kernel_rfl) (by kernel_rfl) (by kernel_rfl) (fun _ _ _ h => h) (Or.inl ⟨by rfl, ?_⟩) hHeld ?_
    rotate_left
    · (intro w' hSw; (try dsimp only at hSw); go_simp; all_goals (with_reducible rfl))
    (try simp only [Act.put, List.setIfInBounds_toArray, List.set_cons_zero, List.set_cons_succ])
    refine wpAnyH_take_d (i := 9) (some 16) (v := ?_) rfl rfl (by kernel_rfl) (by kernel_rfl) (by kernel_rfl) (fun _ _ _ h => h) (Or.inl ⟨by rfl, ?_⟩) hHeld ?_
    rotate_left
    · (intro w' hSw; (try dsimp only at hSw); go_simp; all_goals (with_reducible rfl))
    (try simp only [Act.put, List.setIfInBounds_toArray, List.set_cons_zero, List.set_cons_succ])
    refine wpAnyH_take_d (i := 10) (some 17) (v := undef) rfl rfl (by kernel_rfl) (by kernel_rfl) (by kernel_rfl) (fun _ _ _ h => h) (Or.inr ⟨by rfl, rfl⟩) hHeld ?_
    (try simp only [Act.put, List.setIfInBounds_toArray, List.set_cons_zero, List.set_cons_succ])
    refine wpAnyH_take_d (i := 11) (some 18) (v := undef) rfl rfl (by kernel_rfl) (by kernel_rfl) (by kernel_rfl) (fun _ _ _ h => h) (Or.inr ⟨by rfl, rfl⟩) hHeld ?_
    (try simp only [Act.put, List.setIfInBounds_toArray, List.set_cons_zero, List.set_cons_succ])
    refine wpAnyH_take_d (i := 12) (some 19) (v := ?_) rfl rfl (by kernel_rfl) (by kernel_rfl) (by kernel_rfl) (fun _ _ _ h => h) (Or.inl ⟨by rfl, ?_⟩) hHeld ?_
    rotate_left
    · (intro w' hSw; (try dsimp only at hSw); go_simp; all_goals (with_reducible rfl))
    (try simp only [Act.put, List.setIfInBounds_toArray, List.set_cons_zero, List.set_cons_succ])
    refine wpAnyH_done (by kernel_rfl) ?_ _
    go_wp2_with fail
    go_ret2
    exact ⟨rfl, hHeld.2.2.bel⟩
  · have HC := Hd.mk hc
    clear hc
    have d1 : decide (x < -6176) = true := by simpa using hr
    refine wp_region_held_drew (S := (fun W => W.cell? ⟨w.heap.size, 0, none⟩ = some (.bool neg) ∧ W.cell? ⟨w.heap.size, 1, none⟩ = some (.slice A l c) ∧ WnS w w.heap.size neg A l c a W)) (by kernel_rfl) ?_ (fun hHeld => ?_)
    · exact S0
    refine wpAnyH_take_d (i := 0) (some 7) (v := ?_) rfl rfl (by kernel_rfl) (by kernel_rfl) (by kernel_rfl) (fun _ _ _ h => h) (Or.inl ⟨by rfl, ?_⟩) hHeld ?_
    rotate_left
    · (intro w' hSw; (try dsimp only at hSw); go_simp; all_goals (with_reducible rfl))
    (try simp only [Act.put, List.setIfInBounds_toArray, List.set_cons_zero, List.set_cons_succ])
    refine wpAnyH_take_d (i := 1) (some 8) (v := ?_) rfl rfl (by kernel_rfl) (by kernel_rfl) (by kernel_rfl) (fun _ _ _ h => h) (Or.inl ⟨by rfl, ?_⟩) hHeld ?_
    rotate_left
    · (intro w' hSw; (try dsimp only at hSw); go_simp; all_goals (with_reducible rfl))
    (try simp only [Act.put, List.setIfInBounds_toArray, List.set_cons_zero, List.set_cons_succ])
    refine wpAnyH_ready (rs := [2]) (by kernel_rfl) (by simp) ?_
    refine AllReadyH.cons rfl (fun K hK => ?_) AllReadyH.nil
    go_simp
    (with_reducible refine (C1.out _).mono ?_)
    rintro e w2 ⟨A2, l2, c2, rfl, hd2, hb2, _⟩
    refine hK.out _ _ ?_ (fun hHeld => ?_)
    · exact wnS_of (hHeld.2.2.on hb2)
    clear hK K
    (try simp only [Act.put, List.setIfInBounds_toArray, List.set_cons_zero, List.set_cons_succ])
    refine wpAnyH_ready (rs := [3]) (by kernel_rfl) (by simp) ?_
    refine AllReadyH.cons rfl (fun K hK => ?_) AllReadyH.nil
    go_simp
    (with_reducible refine (natCmpV A l c a A2 l2 c2 (2 ^ 113) (-1) _ hHeld.2.2.dig hd2 HC.out).mono ?_)
    rintro e w3 ⟨rfl, hb3⟩
    refine hK.out _ _ ?_ (fun hHeld => ?_)
    · exact wnS_of (hHeld.2.2.on hb3)
    clear hK K
    (try simp only [Act.put, List.setIfInBounds_toArray, List.set_cons_zero, List.set_cons_succ])
    refine wpAnyH_take_d (i := 4) (some 11) (v := ?_) rfl rfl (by kernel_rfl) (by kernel_rfl) (by kernel_rfl) (fun _ _ _ h => h) (Or.inl ⟨by rfl, ?_⟩) hHeld ?_
    rotate_left
    · (intro w' hSw; (try dsimp only at hSw); go_simp; all_goals (with_reducible rfl))
    (try simp only [Act.put, List.setIfInBounds_toArray, List.set_cons_zero, List.set_cons_succ])
    refine wpAnyH_take_d (i := 5) (some 12) (v := ?_) rfl rfl (by kernel_rfl) (by kernel_rfl) (by kernel_rfl) (fun _ _ _ h => h) (Or.inl ⟨by rfl, ?_⟩) hHeld ?_
    rotate_left
    · (intro w' hSw; (try dsimp only at hSw); go_simp; all_goals (with_reducible rfl))
    (try simp only [Act.put, List.setIfInBounds_toArray, List.set_cons_zero, List.set_cons_succ])
    refine wpAnyH_take_d (i := 6) (some 13) (v := ?_) rfl rfl (by kernel_rfl) (by kernel_rfl) (by kernel_rfl) (fun _ _ _ h => h) (Or.inl ⟨by rfl, ?_⟩) hHeld ?_
    rotate_left
    · (intro w' hSw; (try dsimp only at hSw); go_simp; all_goals (with_reducible rfl))
    (try simp only [Act.put, List.setIfInBounds_toArray, List.set_cons_zero, List.set_cons_succ])
    refine wpAnyH_take_d (i := 7) (some 14) (v := ?_) rfl rfl (by kernel_rfl) (by kernel_rfl) (by kernel_rfl) (fun _ _ _ h => h) (Or.inl ⟨by rfl, ?_⟩) hHeld ?_
    rotate_left
    · (intro w' hSw; (try dsimp only at hSw); go_simp; all_goals (with_reducible rfl))
    (try simp only [Act.put, List.setIfInBounds_toArray, List.set_cons_zero, List.set_cons_succ])
    refine wpAnyH_take_d (i := 8) (some 15) (v := ?_) rfl rfl (by kernel_rfl) (by kernel_rfl) (by kernel_rfl) (fun _ _ _ h => h) (Or.inl ⟨by rfl, ?_⟩) hHeld ?_
    rotate_left
    · (intro w' hSw; (try dsimp only at hSw); go_simp; all_goals (with_reducible rfl))
    (try simp only [Act.put, List.setIfInBounds_toArray, List.set_cons_zero, List.set_cons_succ])
    refine wpAnyH_take_d (i := 9) (some 16) (v := ?_) rfl rfl (by kernel_rfl) (by kernel_rfl) (by kernel_rfl) (fun _ _ _ h => h) (Or.inl ⟨by rfl, ?_⟩) hHeld ?_
    rotate_left
    · (intro w' hSw; (try dsimp only at hSw); go_simp; all_goals (with_reducible rfl))
    (try simp only [Act.put, List.setIfInBounds_toArray, List.set_cons_zero, List.set_cons_succ])
    refine wpAnyH_take_d (i := 10) (some 17) (v := undef) rfl rfl (by kernel_rfl) (by kernel_rfl) (by kernel_rfl) (fun _ _ _ h => h) (Or.inr ⟨by rfl, rfl⟩) hHeld ?_
    (try simp only [Act.put, List.setIfInBounds_toArray, List.set_cons_zero, List.set_cons_succ])
    refine wpAnyH_take_d (i := 11) (some 18) (v := undef) rfl rfl (by kernel_rfl) (by kernel_rfl) (by kernel_rfl) (fun _ _ _ h => h) (Or.inr ⟨by rfl, rfl⟩) hHeld ?_
    (try simp only [Act.put, List.setIfInBounds_toArray, List.set_cons_zero, List.set_cons_succ])
    refine wpAnyH_take_d (i := 12) (some 19) (v := ?_) rfl rfl (by kernel_rfl) (by kernel_rfl) (by kernel_rfl) (fun _ _ _ h => h) (Or.inl ⟨by rfl, ?_⟩) hHeld ?_
    rotate_left
    · (intro w' hSw; (try dsimp only at hSw); go_simp; all_goals (with_reducible rfl))
    (try simp only [Act.put, List.setIfInBounds_toArray, List.set_cons_zero, List.set_cons_succ])
    refine wpAnyH_done (by kernel_rfl) ?_ _
    go_wp2_with fail
    go_ret2
    exact ⟨rfl, hHeld.2.2.bel⟩
  · have HC := Hd.mk hc
    clear hc
    have d1 : decide (x < -6176) = false := by simpa using hr
    have d2 : decide (6111 < x) = true := by simpa using hr2
    refine wp_region_held_drew (S := (fun W => W.cell? ⟨w.heap.size, 0, none⟩ = some (.bool neg) ∧ W.cell? ⟨w.heap.size, 1, none⟩ = some (.slice A l c) ∧ WnS w w.heap.size neg A l c a W)) (by kernel_rfl) ?_ (fun hHeld => ?_)
    · exact S0
    refine wpAnyH_take_d (i := 0) (some 7) (v := ?_) rfl rfl (by kernel_rfl) (by kernel_rfl) (by kernel_rfl) (fun _ _ _ h => h) (Or.inl ⟨by rfl, ?_⟩) hHeld ?_
    rotate_left
    · (intro w' hSw; (try dsimp only at hSw); go_simp; all_goals (with_reducible rfl))
    (try simp only [Act.put, List.setIfInBounds_toArray, List.set_cons_zero, List.set_cons_succ])
    refine wpAnyH_take_d (i := 1) (some 8) (v := ?_) rfl rfl (by kernel_rfl) (by kernel_rfl) (by kernel_rfl) (fun _ _ _ h => h) (Or.inl ⟨by rfl, ?_⟩) hHeld ?_
    rotate_left
    · (intro w' hSw; (try dsimp only at hSw); go_simp; all_goals (with_reducible rfl))
    (try simp only [Act.put, List.setIfInBounds_toArray, List.set_cons_zero, List.set_cons_succ])
    refine wpAnyH_ready (rs := [2]) (by kernel_rfl) (by simp) ?_
    refine AllReadyH.cons rfl (fun K hK => ?_) AllReadyH.nil
    go_simp
    (with_reducible refine (C1.out _).mono ?_)
    rintro e w2 ⟨A2, l2, c2, rfl, hd2, hb2, _⟩
    refine hK.out _ _ ?_ (fun hHeld => ?_)
    · exact wnS_of (hHeld.2.2.on hb2)
    clear hK K
    (try simp only [Act.put, List.setIfInBounds_toArray, List.set_cons_zero, List.set_cons_succ])
    refine wpAnyH_ready (rs := [3]) (by kernel_rfl) (by simp) ?_
    refine AllReadyH.cons rfl (fun K hK => ?_) AllReadyH.nil
    go_simp
    (with_reducible refine (natCmpV A l c a A2 l2 c2 (2 ^ 113) (-1) _ hHeld.2.2.dig hd2 HC.out).mono ?_)
    rintro e w3 ⟨rfl, hb3⟩
    refine hK.out _ _ ?_ (fun hHeld => ?_)
    · exact wnS_of (hHeld.2.2.on hb3)
    clear hK K
    (try simp only [Act.put, List.setIfInBounds_toArray, List.set_cons_zero, List.set_cons_succ])
    refine wpAnyH_take_d (i := 4) (some 11) (v := ?_) rfl rfl (by kernel_rfl) (by kernel_rfl) (by kernel_rfl) (fun _ _ _ h => h) (Or.inl ⟨by rfl, ?_⟩) hHeld ?_
    rotate_left
    · (intro w' hSw; (try dsimp only at hSw); go_simp; all_goals (with_reducible rfl))
    (try simp only [Act.put, List.setIfInBounds_toArray, List.set_cons_zero, List.set_cons_succ])
    refine wpAnyH_take_d (i := 5) (some 12) (v := ?_) rfl rfl (by kernel_rfl) (by kernel_rfl) (by kernel_rfl) (fun _ _ _ h => h) (Or.inl ⟨by rfl, ?_⟩) hHeld ?_
    rotate_left
    · (intro w' hSw; (try dsimp only at hSw); go_simp; all_goals (with_reducible rfl))
    (try simp only [Act.put, List.setIfInBounds_toArray, List.set_cons_zero, List.set_cons_succ])
    refine wpAnyH_take_d (i := 6) (some 13) (v := ?_) rfl rfl (by kernel_rfl) (by kernel_rfl) (by kernel_rfl) (fun _ _ _ h => h) (Or.inl ⟨by rfl, ?_⟩) hHeld ?_
    rotate_left
    · (intro w' hSw; (try dsimp only at hSw); go_simp; all_goals (with_reducible rfl))
    (try simp only [Act.put, List.setIfInBounds_toArray, List.set_cons_zero, List.set_cons_succ])
    refine wpAnyH_take_d (i := 7) (some 14) (v := ?_) rfl rfl (by kernel_rfl) (by kernel_rfl) (by kernel_rfl) (fun _ _ _ h => h) (Or.inl ⟨by rfl, ?_⟩) hHeld ?_
    rotate_left
    · (intro w' hSw; (try dsimp only at hSw); go_simp; all_goals (with_reducible rfl))
    (try simp only [Act.put, List.setIfInBounds_toArray, List.set_cons_zero, List.set_cons_succ])
    refine wpAnyH_take_d (i := 8) (some 15) (v := ?_) rfl rfl (by kernel_rfl) (by kernel_rfl) (by kernel_rfl) (fun _ _ _ h => h) (Or.inl ⟨by rfl, ?_⟩) hHeld ?_
    rotate_left
    · (intro w' hSw; (try dsimp only at hSw); go_simp; all_goals (with_reducible rfl))
    (try simp only [Act.put, List.setIfInBounds_toArray, List.set_cons_zero, List.set_cons_succ])
    refine wpAnyH_take_d (i := 9) (some 16) (v := ?_) rfl rfl (by kernel_rfl) (by kernel_rfl) (by kernel_rfl) (fun _ _ _ h => h) (Or.inl ⟨by rfl, ?_⟩) hHeld ?_
    rotate_left
    · (intro w' hSw; (try dsimp only at hSw); go_simp; all_goals (with_reducible rfl))
    (try simp only [Act.put, List.setIfInBounds_toArray, List.set_cons_zero, List.set_cons_succ])
    refine wpAnyH_take_d (i := 10) (some 17) (v := ?_) rfl rfl (by kernel_rfl) (by kernel_rfl) (by kernel_rfl) (fun _ _ _ h => h) (Or.inl ⟨by rfl, ?_⟩) hHeld ?_
    rotate_left
    · (intro w' hSw; (try dsimp only at hSw); go_simp; all_goals (with_reducible rfl))
    (try simp only [Act.put, List.setIfInBounds_toArray, List.set_cons_zero, List.set_cons_succ])
    refine wpAnyH_take_d (i := 11) (some 18) (v := ?_) rfl rfl (by kernel_rfl) (by kernel_rfl) (by kernel_rfl) (fun _ _ _ h => h) (Or.inl ⟨by rfl, ?_⟩) hHeld ?_
    rotate_left
    · (intro w' hSw; (try dsimp only at hSw); go_simp; all_goals (with_reducible rfl))
    (try simp only [Act.put, List.setIfInBounds_toArray, List.set_cons_zero, List.set_cons_succ])
    refine wpAnyH_take_d (i := 12) (some 19) (v := ?_) rfl rfl (by kernel_rfl) (by kernel_rfl) (by kernel_rfl) (fun _ _ _ h => h) (Or.inl ⟨by rfl, ?_⟩) hHeld ?_
    rotate_left
    · (intro w' hSw; (try dsimp only at hSw); go_simp; all_goals (with_reducible rfl))
    (try simp only [Act.put, List.setIfInBounds_toArray, List.set_cons_zero, List.set_cons_succ])
    refine wpAnyH_done (by kernel_rfl) ?_ _
    go_wp2_with fail
    go_ret2
    exact ⟨rfl, hHeld.2.2.bel⟩
theorem decN_f (a y : Nat) : decN false a y = a + y * 2 ^ 113 := by unfold decN; rw [if_neg (by decide), Nat.add_zero]
theorem decN_t (a y : Nat) : decN true a y = a + y * 2 ^ 113 + 2 ^ 127 := by unfold decN; rw [if_pos rfl]
theorem decN_mul (a y : Nat) : y * 2 ^ 113 ≤ decN false a y := by rw [decN_f]; exact Nat.le_add_left _ _
theorem decN_lt (neg : Bool) {a y : Nat} (ha : a < 2 ^ 113) (hy : y < 16384) : decN neg a y < 256 ^ 16 := by
  unfold decN
  have h1 : (256 : Nat) ^ 16 = 2 ^ 128 := by decide +kernel
  have h2 : (2 : Nat) ^ 128 = 2 ^ 127 + 2 ^ 127 := by decide +kernel
  have h3 : (2 : Nat) ^ 127 = 16384 * 2 ^ 113 := by decide +kernel
  have h4 : y * 2 ^ 113 ≤ 16383 * 2 ^ 113 := Nat.mul_le_mul_right _ (by omega)
  rw [h1, h2]
  generalize (2 : Nat) ^ 127 = Q at *
  generalize (2 : Nat) ^ 113 = P at *
  split <;> omega
theorem decN_lt17 (neg : Bool) {a y : Nat} (ha : a < 2 ^ 113) (hy : y < 16384) : decN neg a y < LB ^ 17 := Nat.lt_trans (decN_lt neg ha hy) (by rw [show (256 : Nat) ^ 16 = 2 ^ 128 by decide +kernel]; exact two_lt 128 (by decide))
set_option maxRecDepth 100000 in
theorem vaDecimal_yes (neg : Bool) (A : Option Addr) (l c a y : Nat) (x : Int) (w : World) (h : DigV .u32 LB w A l c a) (hx : x + 6176 = y) (hy : y ≤ 12287) (ha : a < 2 ^ 113) :
    Calls Try.prog 9 #[.agg #[.bool neg, .slice A l c], .int .i64 x] w fun e w' => DecYes w (decN neg a y) e w' := by
  have C1 := Hd.mk (fun W => vaTwo 113 113 W rfl (by decide))
  have C3 := Hd.mk (fun W => vaTwo 127 127 W rfl (by decide))
  have CF := Hd.mk (fun W => natFrom y W (by omega))
  have H := Hd.mk h
  have HC := Hd.mk (cmpI_lt ha)
  have d1 : decide (x < -6176) = false := by simp; omega
  have d2 : decide (6111 < x) = false := by simp; omega
  have d3 : ¬ x < -6176 := by omega
  have d4 : ¬ 6111 < x := by omega
  have e1 : IntKind.i64.wrap (x + 6176) = (y : Int) := by rw [hx]; exact IntWalk.i64_in _ (by omega)
  have e2 : IntKind.u64.wrap (y : Int) = (y : Int) := by show (y : Int) % 18446744073709551616 = y; omega
  have fl : l ≤ 17 := h.len_le LB1 (Nat.lt_trans ha (two_lt 113 (by decide)))
  have HA := Hd.mk ha; have HY := Hd.mk hy
  have N0 := Hd.mk (decN_lt neg ha (show y < 16384 by omega))
  have N1 := Hd.mk (decN_lt17 neg ha (show y < 16384 by omega))
  have N2 := Hd.mk (decN_lt17 false ha (show y < 16384 by omega))
  clear h hx hy ha
  go_enter Try.func9, Try.ntmps9
  go_wp2_with fail
  have S0 := wnS_of (W := (w.alloc (.cells #[.bool neg, .slice A l c] 29)).drew) (w0 := w) (g := w.heap.size) (a := a) ⟨(Blk.new _ _ _).drew, H.out.below ((Below.refl _ _).alloc (Nat.le_refl _) _).drew, ((Below.refl _ _).alloc (Nat.le_refl _) _).drew⟩
  refine wp_region_held_drew (S := (fun W => W.cell? ⟨w.heap.size, 0, none⟩ = some (.bool neg) ∧ W.cell? ⟨w.heap.size, 1, none⟩ = some (.slice A l c) ∧ WnS w w.heap.size neg A l c a W)) (by kernel_rfl) ?_ (fun hHeld => ?_)
  · exact S0
  refine wpAnyH_take_d (i := 0) (some 7) (v := ?_) rfl rfl (by kernel_rfl) (by kernel_rfl) (by kernel_rfl) (fun _ _ _ h => h) (Or.inl ⟨by rfl, ?_⟩) hHeld ?_
  rotate_left
  · (intro w' hSw; (try dsimp only at hSw); go_simp; all_goals (with_reducible rfl))
  (try simp only [Act.put, List.setIfInBounds_toArray, List.set_cons_zero, List.set_cons_succ])
  refine wpAnyH_take_d (i := 1) (some 8) (v := ?_) rfl rfl (by kernel_rfl) (by kernel_rfl) (by kernel_rfl) (fun _ _ _ h => h) (Or.inl ⟨by rfl, ?_⟩) hHeld ?_
  rotate_left
  · (intro w' hSw; (try dsimp only at hSw); go_simp; all_goals (with_reducible rfl))
  (try simp only [Act.put, List.setIfInBounds_toArray, List.set_cons_zero, List.set_cons_succ])
  refine wpAnyH_ready (rs := [2]) (by kernel_rfl) (by simp) ?_
  refine AllReadyH.cons rfl (fun K hK => ?_) AllReadyH.nil
  go_simp
  (with_reducible refine (C1.out _).mono ?_)
  rintro e w2 ⟨A2, l2, c2, rfl, hd2, hb2, _⟩
  refine hK.out _ _ ?_ (fun hHeld => ?_)
  · exact wnS_of (hHeld.2.2.on hb2)
  clear hK K
  (try simp only [Act.put, List.setIfInBounds_toArray, List.set_cons_zero, List.set_cons_succ])
  refine wpAnyH_ready (rs := [3]) (by kernel_rfl) (by simp) ?_
  refine AllReadyH.cons rfl (fun K hK => ?_) AllReadyH.nil
  go_simp
  (with_reducible refine (natCmpV A l c a A2 l2 c2 (2 ^ 113) (-1) _ hHeld.2.2.dig hd2 HC.out).mono ?_)
  rintro e w3 ⟨rfl, hb3⟩
  refine hK.out _ _ ?_ (fun hHeld => ?_)
  · exact wnS_of (hHeld.2.2.on hb3)
  clear hK K
  (try simp only [Act.put, List.setIfInBounds_toArray, List.set_cons_zero, List.set_cons_succ])
  refine wpAnyH_take_d (i := 4) (some 11) (v := ?_) rfl rfl (by kernel_rfl) (by kernel_rfl) (by kernel_rfl) (fun _ _ _ h => h) (Or.inl ⟨by rfl, ?_⟩) hHeld ?_
  rotate_left
  · (intro w' hSw; (try dsimp only at hSw); go_simp; all_goals (with_reducible rfl))
  (try simp only [Act.put, List.setIfInBounds_toArray, List.set_cons_zero, List.set_cons_succ])
  refine wpAnyH_take_d (i := 5) (some 12) (v := ?_) rfl rfl (by kernel_rfl) (by kernel_rfl) (by kernel_rfl) (fun _ _ _ h => h) (Or.inl ⟨by rfl, ?_⟩) hHeld ?_
  rotate_left
  · (intro w' hSw; (try dsimp only at hSw); go_simp; all_goals (with_reducible rfl))
  (try simp only [Act.put, List.setIfInBounds_toArray, List.set_cons_zero, List.set_cons_succ])
  refine wpAnyH_take_d (i := 6) (some 13) (v := ?_) rfl rfl (by kernel_rfl) (by kernel_rfl) (by kernel_rfl) (fun _ _ _ h => h) (Or.inl ⟨by rfl, ?_⟩) hHeld ?_
  rotate_left
  · (intro w' hSw; (try dsimp only at hSw); go_simp; all_goals (with_reducible rfl))
  (try simp only [Act.put, List.setIfInBounds_toArray, List.set_cons_zero, List.set_cons_succ])
  refine wpAnyH_take_d (i := 7) (some 14) (v := ?_) rfl rfl (by kernel_rfl) (by kernel_rfl) (by kernel_rfl) (fun _ _ _ h => h) (Or.inl ⟨by rfl, ?_⟩) hHeld ?_
  rotate_left
  · (intro w' hSw; (try dsimp only at hSw); go_simp; all_goals (with_reducible rfl))
  (try simp only [Act.put, List.setIfInBounds_toArray, List.set_cons_zero, List.set_cons_succ])
  refine wpAnyH_take_d (i := 8) (some 15) (v := ?_) rfl rfl (by kernel_rfl) (by kernel_rfl) (by kernel_rfl) (fun _ _ _ h => h) (Or.inl ⟨by rfl, ?_⟩) hHeld ?_
  rotate_left
  · (intro w' hSw; (try dsimp only at hSw); go_simp; all_goals (with_reducible rfl))
  (try simp only [Act.put, List.setIfInBounds_toArray, List.set_cons_zero, List.set_cons_succ])
  refine wpAnyH_take_d (i := 9) (some 16) (v := ?_) rfl rfl (by kernel_rfl) (by kernel_rfl) (by kernel_rfl) (fun _ _ _ h => h) (Or.inl ⟨by rfl, ?_⟩) hHeld ?_
  rotate_left
  · (intro w' hSw; (try dsimp only at hSw); go_simp; all_goals (with_reducible rfl))
  (try simp only [Act.put, List.setIfInBounds_toArray, List.set_cons_zero, List.set_cons_succ])
  refine wpAnyH_take_d (i := 10) (some 17) (v := ?_) rfl rfl (by kernel_rfl) (by kernel_rfl) (by kernel_rfl) (fun _ _ _ h => h) (Or.inl ⟨by rfl, ?_⟩) hHeld ?_
  rotate_left
  · (intro w' hSw; (try dsimp only at hSw); go_simp; all_goals (with_reducible rfl))
  (try simp only [Act.put, List.setIfInBounds_toArray, List.set_cons_zero, List.set_cons_succ])
  refine wpAnyH_take_d (i := 11) (some 18) (v := ?_) rfl rfl (by kernel_rfl) (by kernel_rfl) (by kernel_rfl) (fun _ _ _ h => h) (Or.inl ⟨by rfl, ?_⟩) hHeld ?_
  rotate_left
  · (intro w' hSw; (try dsimp only at hSw); go_simp; all_goals (with_reducible rfl))
  (try simp only [Act.put, List.setIfInBounds_toArray, List.set_cons_zero, List.set_cons_succ])
  refine wpAnyH_take_d (i := 12) (some 19) (v := ?_) rfl rfl (by kernel_rfl) (by kernel_rfl) (by kernel_rfl) (fun _ _ _ h => h) (Or.inl ⟨by rfl, ?_⟩) hHeld ?_
  rotate_left
  · (intro w' hSw; (try dsimp only at hSw); go_simp; all_goals (with_reducible rfl))
  (try simp only [Act.put, List.setIfInBounds_toArray, List.set_cons_zero, List.set_cons_succ])
  refine wpAnyH_done (by kernel_rfl) ?_ _
  have HS := Hd.mk hHeld.2.2
  clear hHeld hd2 hb2 hb3
  go_wp2_with fail
  have S0 := wnS_of (HS.out.on (Below.refl _ _).drew)
  refine wp_region_held_drew (S := (fun W => W.cell? ⟨w.heap.size, 0, none⟩ = some (.bool neg) ∧ W.cell? ⟨w.heap.size, 1, none⟩ = some (.slice A l c) ∧ WnS w w.heap.size neg A l c a W)) (by kernel_rfl) ?_ (fun hHeld => ?_)
  · exact S0
  refine wpAnyH_take_d (i := 0) (some 20) (v := ?_) rfl rfl (by kernel_rfl) (by kernel_rfl) (by kernel_rfl) (fun _ _ _ h => h) (Or.inl ⟨by rfl, ?_⟩) hHeld ?_
  rotate_left
  · (intro w' hSw; (try dsimp only at hSw); go_simp; all_goals (with_reducible rfl))
  (try simp only [Act.put, List.setIfInBounds_toArray, List.set_cons_zero, List.set_cons_succ])
  refine wpAnyH_take_d (i := 1) (some 21) (v := ?_) rfl rfl (by kernel_rfl) (by kernel_rfl) (by kernel_rfl) (fun _ _ _ h => h) (Or.inl ⟨by rfl, ?_⟩) hHeld ?_
  rotate_left
  · (intro w' hSw; (try dsimp only at hSw); go_simp; all_goals (with_reducible rfl))
  (try simp only [Act.put, List.setIfInBounds_toArray, List.set_cons_zero, List.set_cons_succ])
  refine wpAnyH_take_d (i := 2) (some 22) (v := ?_) rfl rfl (by kernel_rfl) (by kernel_rfl) (by kernel_rfl) (fun _ _ _ h => h) (Or.inl ⟨by rfl, ?_⟩) hHeld ?_
  rotate_left
  · (intro w' hSw; (try dsimp only at hSw); go_simp; all_goals (with_reducible rfl))
  (try simp only [Act.put, List.setIfInBounds_toArray, List.set_cons_zero, List.set_cons_succ])
  refine wpAnyH_take_d (i := 3) (some 23) (v := ?_) rfl rfl (by kernel_rfl) (by kernel_rfl) (by kernel_rfl) (fun _ _ _ h => h) (Or.inl ⟨by rfl, ?_⟩) hHeld ?_
  rotate_left
  · (intro w' hSw; (try dsimp only at hSw); go_simp; all_goals (with_reducible rfl))
  (try simp only [Act.put, List.setIfInBounds_toArray, List.set_cons_zero, List.set_cons_succ])
  refine wpAnyH_take_d (i := 4) (some 24) (v := ?_) rfl rfl (by kernel_rfl) (by kernel_rfl) (by kernel_rfl) (fun _ _ _ h => h) (Or.inl ⟨by rfl, ?_⟩) hHeld ?_
  rotate_left
  · (intro w' hSw; (try dsimp only at hSw); go_simp; all_goals (with_reducible rfl))
  (try simp only [Act.put, List.setIfInBounds_toArray, List.set_cons_zero, List.set_cons_succ])
  refine wpAnyH_ready (rs := [5]) (by kernel_rfl) (by simp) ?_
  refine AllReadyH.cons rfl (fun K hK => ?_) AllReadyH.nil
  go_simp
  (with_reducible refine (CF.out _).mono ?_)
  rintro e w4 ⟨A4, l4, c4, rfl, hd4, hb4, _⟩
  refine hK.out _ _ ?_ (fun hHeld => ?_)
  · exact wnS_of (hHeld.2.2.on hb4)
  clear hK K
  (try simp only [Act.put, List.setIfInBounds_toArray, List.set_cons_zero, List.set_cons_succ])
  refine wpAnyH_ready (rs := [6]) (by kernel_rfl) (by simp) ?_
  refine AllReadyH.cons rfl (fun K hK => ?_) AllReadyH.nil
  go_simp
  (with_reducible refine (C1.out _).mono ?_)
  rintro e w5 ⟨A5, l5, c5, rfl, hd5, hb5, _⟩
  refine hK.out _ _ ?_ (fun hHeld => ?_)
  · exact wnS_of (hHeld.2.2.on hb5)
  clear hK K
  (try simp only [Act.put, List.setIfInBounds_toArray, List.set_cons_zero, List.set_cons_succ])
  refine wpAnyH_ready (rs := [7]) (by kernel_rfl) (by simp) ?_
  refine AllReadyH.cons rfl (fun K hK => ?_) AllReadyH.nil
  go_simp
  have f4 : l4 ≤ 17 := hd4.len_le LB1 (Nat.lt_of_lt_of_le (show y < 1000000000 from by have := HY.out; omega) (by decide +kernel))
  have f5 : l5 ≤ 17 := hd5.len_le LB1 (two_lt 113 (by decide))
  (with_reducible refine (natMul _ _ _ _ _ _ _ _ _ (hd4.below (hb5.mono (Nat.le_refl _))) hd5 (by omega) (by omega)).mono ?_)
  rintro e w6 ⟨A6, l6, c6, rfl, hd6, hb6, _⟩
  refine hK.out _ _ ?_ (fun hHeld => ?_)
  · exact wnS_of (hHeld.2.2.on hb6)
  clear hK K
  (try simp only [Act.put, List.setIfInBounds_toArray, List.set_cons_zero, List.set_cons_succ])
  refine wpAnyH_ready (rs := [8]) (by kernel_rfl) (by simp) ?_
  refine AllReadyH.cons rfl (fun K hK => ?_) AllReadyH.nil
  go_simp
  have f6 : l6 ≤ 17 := hd6.len_le LB1 (Nat.lt_of_le_of_lt (decN_mul _ _) N2.out)
  (with_reducible refine (natAdd _ _ _ _ _ _ _ _ _ hHeld.2.2.dig hd6 (by omega) (by omega)).mono ?_)
  rintro e w7 ⟨A7, l7, c7, rfl, hd7, hb7, _⟩
  refine hK.out _ _ ?_ (fun hHeld => ?_)
  · exact wnS_of (hHeld.2.2.on hb7)
  clear hK K
  (try simp only [Act.put, List.setIfInBounds_toArray, List.set_cons_zero, List.set_cons_succ])
  refine wpAnyH_take_d (i := 9) (some 6) (v := ?_) rfl rfl (by kernel_rfl) (by kernel_rfl) (by kernel_rfl) (fun _ _ _ h => h) (Or.inl ⟨by rfl, ?_⟩) hHeld ?_
  rotate_left
  · (intro w' hSw; (try dsimp only at hSw); go_simp; all_goals (with_reducible rfl))
  (try simp only [Act.put, List.setIfInBounds_toArray, List.set_cons_zero, List.set_cons_succ])
  refine wpAnyH_done (by kernel_rfl) ?_ _
  have HS7 := Hd.mk hHeld.2.2
  have HD7 := Hd.mk hd7
  have f7 : l7 ≤ 17 := hd7.len_le LB1 (by rw [← decN_f]; exact N2.out)
  clear hHeld hd4 hd5 hd6 hd7 hb4 hb5 hb6 hb7 f4 f5 f6
  have k0 : w7.cell? ⟨w.heap.size, 0, none⟩ = some (.bool neg) := HS7.out.blk.cell 0 rfl
  cases neg
  case false =>
    have C := Hd.mk (vaLittle _ _ _ _ 16 16 16 _ HD7.out (by rw [← decN_f]; exact N0.out) (by decide) (by omega) rfl (by decide))
    go_wp2_with fail
    with_reducible refine C.out.mono ?_
    rintro e w8 ⟨rfl, hb8, hl8⟩
    have HB8 := Hd.mk hb8; have HL8 := Hd.mk (HS7.out.bel.trans (hl8.mono HS7.out.bel.size))
    clear hb8 hl8 C
    go_wp2_with fail
    go_ret2
    exact ⟨_, rfl, HB8.out.cast (by rw [decN_f]), HS7.out.bel.size, HL8.out⟩
  case true =>
    go_wp2_with fail
    with_reducible refine (C3.out _).mono ?_
    rintro e w8 ⟨A8, l8, c8, rfl, hd8, hb8, _⟩
    have f8 : l8 ≤ 17 := hd8.len_le LB1 (two_lt 127 (by decide))
    have C := Hd.mk (natAdd _ _ _ _ _ _ _ _ _ (HD7.out.below hb8) hd8 (by omega) (by omega))
    have HL8 := Hd.mk (HS7.out.bel.trans (hb8.mono HS7.out.bel.size))
    clear hd8 hb8
    go_wp2_with fail
    with_reducible refine C.out.mono ?_
    rintro e w9 ⟨A9, l9, c9, rfl, hd9, hb9, _⟩
    have f9 : l9 ≤ 17 := hd9.len_le LB1 (by rw [← decN_t]; exact N1.out)
    have HL9 := Hd.mk (HL8.out.trans (hb9.mono HL8.out.size))
    have C2 := Hd.mk (vaLittle _ _ _ _ 16 16 16 _ hd9 (by rw [← decN_t]; exact N0.out) (by decide) (by omega) rfl (by decide))
    clear hd9 hb9 C
    go_wp2_with fail
    with_reducible refine C2.out.mono ?_
    rintro e w10 ⟨rfl, hb10, hl10⟩
    have HB10 := Hd.mk hb10; have HL10 := Hd.mk (HL9.out.trans (hl10.mono HL9.out.size))
    clear hb10 hl10 C2
    go_wp2_with fail
    go_ret2
    exact ⟨_, rfl, HB10.out.cast (by rw [decN_t]), HL9.out.size, HL10.out⟩
end Go.Proofs.Ytjikodjljocpmaa.Kb
