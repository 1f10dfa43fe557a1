/- Statements of a text: impl.ScanStep. (Written by mkscf.py.) -/
import Derived.Test.YtfbdbbkodgijiaaDoorScE
import Derived.Defers
import Derived.Recover
namespace Go.Proofs.YtfbdbbkodgijiaaDoor.Kb
open Go Go.RowKit
set_option linter.unusedVariables false
set_option linter.unusedSimpArgs false
set_option maxHeartbeats 4000000
theorem catch_step (a0 a1 a2 a3 : Value) (w : World) :
    CallsD Tryd.prog 13 #[a0, a1, a2, a3] .returning w fun e u' w' => e = .returned (.tuple #[]) ∧ u' = .returning ∧ w' = w := by
  refine callsD_of_wpS Tryd.func13 rfl fun c₀ cs hu => ?_
  apply wpS_seq
  apply wpS_region
  simp [wpOpsS, go_sem, recoverD, hu, Tryd.ntmps13, Exit.thenS]
  refine wpS_cond (t := false) (by simp [Act.eval, Array.replicate]) ?_
  simp only [Bool.false_eq_true, if_false]
  refine wpS_of_wp (wp_skip ?_)
  cases c₀
  simp_all [bodyPostS, results, Tryd.results13]
/-- The result cells and the scanner. -/
structure Cells (w : World) (sep : Nat) (com : Bool) (v0 v1 v2 v3 : Value) (W : World) : Prop where
  b0 : Blk W w.heap.size #[v0] 3
  b1 : Blk W (w.heap.size + 1) #[v1] 24
  b2 : Blk W (w.heap.size + 1 + 1) #[v2] 4
  b3 : Blk W (w.heap.size + 1 + 1 + 1) #[v3] 3
  bel : Below w.heap.size w W
section
variable {w W W' : World} {sep : Nat} {com : Bool} {v0 v1 v2 v3 : Value}
theorem Cells.alloc (S : Cells w sep com v0 v1 v2 v3 W) (o : Obj) : Cells w sep com v0 v1 v2 v3 (W.alloc o) := ⟨S.b0.alloc o, S.b1.alloc o, S.b2.alloc o, S.b3.alloc o, S.bel.alloc S.bel.size o⟩
theorem Cells.bel' (S : Cells w sep com v0 v1 v2 v3 W) (h : Bel W.heap.size [w.heap.size + 1 + 1 + 1 + 1] W W') : Cells w sep com v0 v1 v2 v3 W' :=
  ⟨S.b0.bel h S.b0.lt (by simp <;> omega), S.b1.bel h S.b1.lt (by simp <;> omega), S.b2.bel h S.b2.lt (by simp <;> omega), S.b3.bel h S.b3.lt (by simp), S.bel.trans (Bel.to' (h.weak (B' := w.heap.size) S.bel.size (fun x hx _ => hx)) (fun x hx => by simp at hx; omega))⟩
theorem Cells.grown (S : Cells w sep com v0 v1 v2 v3 W) {r : Option Nat} (h : W.grownBy W' r) (hr : ∀ k, r = some k → w.heap.size + 1 + 1 + 1 + 1 ≤ k) : Cells w sep com v0 v1 v2 v3 W' :=
  ⟨S.b0.grown h (fun e => by have := hr _ e; omega), S.b1.grown h (fun e => by have := hr _ e; omega), S.b2.grown h (fun e => by have := hr _ e; omega), S.b3.grown h (fun e => by have := hr _ e; omega), S.bel.grown h S.bel.size (fun k hk => by have := hr k hk; omega)⟩
theorem Cells.put (S : Cells w sep com v0 v1 v2 v3 W) (u0 u1 u2 u3 : Value) : Cells w sep com u0 u1 u2 u3 ((((W.setCell ⟨w.heap.size, 0, none⟩ u0).setCell ⟨w.heap.size + 1, 0, none⟩ u1).setCell ⟨w.heap.size + 1 + 1, 0, none⟩ u2).setCell ⟨w.heap.size + 1 + 1 + 1, 0, none⟩ u3) :=
  ⟨(((S.b0.set 0 u0).set_ne (by simp) u1).set_ne (by simp <;> omega) u2).set_ne (by simp <;> omega) u3, (((S.b1.set_ne (by simp) u0).set 0 u1).set_ne (by simp) u2).set_ne (by simp <;> omega) u3, (((S.b2.set_ne (by simp <;> omega) u0).set_ne (by simp) u1).set 0 u2).set_ne (by simp) u3, (((S.b3.set_ne (by simp <;> omega) u0).set_ne (by simp <;> omega) u1).set_ne (by simp) u2).set 0 u3,
    (((S.bel.setCell (p := ⟨w.heap.size, 0, none⟩) (by simp) u0).setCell (p := ⟨w.heap.size + 1, 0, none⟩) (by simp) u1).setCell (p := ⟨w.heap.size + 1 + 1, 0, none⟩) (by simp <;> omega) u2).setCell (p := ⟨w.heap.size + 1 + 1 + 1, 0, none⟩) (by simp <;> omega) u3⟩
theorem Cells.put0 (S : Cells w sep com v0 v1 v2 v3 W) (u0 : Value) : Cells w sep com u0 v1 v2 v3 (W.setCell ⟨w.heap.size, 0, none⟩ u0) :=
  ⟨S.b0.set 0 u0, S.b1.set_ne (by simp) u0, S.b2.set_ne (by simp <;> omega) u0, S.b3.set_ne (by simp <;> omega) u0, S.bel.setCell (p := ⟨w.heap.size, 0, none⟩) (by simp) u0⟩
end
theorem Cells.start (w : World) (sep : Nat) (com : Bool) : Cells w sep com (.int .i64 0) (.slice none 0 0) (.bool false) (.int .i64 0) ((((w.alloc (.cells #[.int .i64 0] 3)).alloc (.cells #[.slice none 0 0] 24)).alloc (.cells #[.bool false] 4)).alloc (.cells #[.int .i64 0] 3)) := by
  refine ⟨?_, ?_, ?_, ?_, ((((Below.refl _ _).alloc (Nat.le_refl _) _).alloc (by simp) _).alloc (by simp <;> omega) _).alloc (by simp <;> omega) _⟩
  · simpa using ((((Blk.new w #[.int .i64 0] 3).alloc (.cells #[.slice none 0 0] 24)).alloc (.cells #[.bool false] 4)).alloc (.cells #[.int .i64 0] 3))
  · simpa using (((Blk.new (w.alloc (.cells #[.int .i64 0] 3)) #[.slice none 0 0] 24).alloc (.cells #[.bool false] 4)).alloc (.cells #[.int .i64 0] 3))
  · simpa using ((Blk.new ((w.alloc (.cells #[.int .i64 0] 3)).alloc (.cells #[.slice none 0 0] 24)) #[.bool false] 4).alloc (.cells #[.int .i64 0] 3))
  · simpa using (Blk.new (((w.alloc (.cells #[.int .i64 0] 3)).alloc (.cells #[.slice none 0 0] 24)).alloc (.cells #[.bool false] 4)) #[.int .i64 0] 3)
theorem own_baseE {w : World} {B B' n : Nat} {e : TypeId} {s : Nat} {v : Value} {xs : List Value} (h : w.ownsRow B e s v n xs) (hB : B' ≤ B) : w.ownsRow B' e s v n xs := by
  refine ⟨h.1, ?_⟩
  rcases h.2 with h | ⟨g, cap, cur, h1, h2, h3⟩
  · exact .inl h
  · exact .inr ⟨g, cap, cur, h1, Nat.le_trans hB h2, h3⟩
/-- A step that finds a statement. -/
def StepYes (w : World) (l t : List Nat) (e : Ending) (w' : World) : Prop := ∃ v, e = .returned (.tuple #[.int .i64 ((l.length : Int) + 1), v, .bool true, .int .i64 0]) ∧ w'.ownsRow w.heap.size 5 1 v t.length (bc (nb t)) ∧ Below w.heap.size w w'
def StepNo (w : World) (e : Ending) (w' : World) : Prop := e = .returned (.tuple #[.int .i64 0, .slice none 0 0, .bool false, .int .i64 0]) ∧ Below w.heap.size w w'
set_option maxRecDepth 100000 in
theorem step_yes {w : World} {A : Option Addr} {n c sep : Nat} {com eof : Bool} {xs l t r : List Nat} (hs : sep ≠ 39 ∧ sep ≠ 34 ∧ sep < 128) (hx : xs = l ++ sep :: r) (hS : Stmt sep com l t) (hr : Rd w [] A n (nb xs)) (hn : n ≤ 40000) (h0 : xs ≠ []) :
    Calls Tryd.prog 8 #[.slice A n c, .bool eof, .int .i32 sep, .bool com] w fun e w' => StepYes w l t e w' := by
  have hmf : ∀ (fn : Fn) (first cap : Array Value) (w : World), (Instr.makeFunc fn first cap).run Tryd.prog w = .ok (.func fn first cap) w := fun _ _ _ _ => rfl
  obtain ⟨i0, hi, hz0, hz1, hz2⟩ := info_of infoB
  have I := Hd.mk (And.intro hi (And.intro hz0 (And.intro hz1 hz2)))
  have hxn : xs.length = n := by have := hr.len; simpa [nb] using this
  have CS := Hd.mk (Cells.start w sep com)
  have HX := Hd.mk (And.intro hxn h0)
  have HR := Hd.mk hr
  have HH := Hd.mk (And.intro hs (And.intro hx hS))
  clear hs hx hS
  clear hi hz0 hz1 hz2 hr hxn h0
  go_enter_defers Tryd.func8, Tryd.ntmps8
  go_wp2_with fail
  with_reducible refine (scanFunc sep com _).mono ?_
  rintro e w1 ⟨rfl, hw1⟩
  have CS1 := Hd.mk (show Cells w sep com (.int .i64 0) (.slice none 0 0) (.bool false) (.int .i64 0) w1 by rw [hw1]; exact CS.out.alloc _)
  have hs1 : Blk w1 (w.heap.size + 1 + 1 + 1 + 1) #[.int .i32 sep, .bool com, .slice none 0 0, .bool false, .slice none 0 0] 42 := by
    rw [hw1]; simpa using Blk.new ((((w.alloc (.cells #[.int .i64 0] 3)).alloc (.cells #[.slice none 0 0] 24)).alloc (.cells #[.bool false] 4)).alloc (.cells #[.int .i64 0] 3)) #[.int .i32 sep, .bool com, .slice none 0 0, .bool false, .slice none 0 0] 42
  have hz1 : w1.heap.size = w.heap.size + 1 + 1 + 1 + 1 + 1 := by rw [hw1]; simp
  have O1 := Hd.mk (World.ownsRow_lit (base := w1.heap.size) (size := 1) (e := 5) w1 #[] 0 (Nat.le_refl _) (by simp [maxLen]) rfl)
  have CS2 := Hd.mk (CS1.out.alloc (.cells #[] 5))
  have HS1 := Hd.mk (And.intro hs1 hz1)
  have R1 := Hd.mk (HR.out.below (CS2.out.bel.mono (Nat.le_refl _)))
  simp only [World.size_alloc]
  clear hw1 hs1 hz1 CS CS1 HR
  go_wp2_with (at_builtin; refine wpList_append_rd rfl (.tmp 19) (.tmp 20) 24 rfl w1.heap.size 5 i0 (.int .u8 0) Tryd.underlying24 I.out.1 I.out.2.1 I.out.2.2.1 I.out.2.2.2 rfl (.slice (some ⟨w1.heap.size, 0, none⟩) 0 0) 0 [] (by simp [Act.eval, Act.put]) O1.out A n c (nb xs) (by simp [Act.eval, Act.put]) R1.out (by omega) (by simp) ?_)
  intro v2 w2 own2 G2
  have hown : w2.ownsRow w1.heap.size 5 1 v2 n (bc (nb xs)) := by simpa using own2
  obtain ⟨g, c2, rfl, hc2, hm2, hg2, hlt2, hd2, hnx⟩ := own_data hown HX.out.2
  clear hnx
  have CS3 := Hd.mk (CS2.out.grown G2 (fun k hk => by have := HS1.out.2; simp [Value.ownBlock] at hk; omega))
  have hs2 : Blk w2 (w.heap.size + 1 + 1 + 1 + 1) #[.int .i32 sep, .bool com, .slice none 0 0, .bool false, .slice none 0 0] 42 := (HS1.out.1.alloc _).grown G2 (fun hk => by have := HS1.out.2; simp [Value.ownBlock] at hk; omega)
  have hgs : g ≠ w.heap.size + 1 + 1 + 1 + 1 := by have := HS1.out.2; omega
  have C := scan_found (w := w2) (s := w.heap.size + 1 + 1 + 1 + 1) (g := g) (off := 0) (c := c2) (eof := eof) (A := some ⟨g, 0, none⟩) (l := l) (t := t) (r := r) HH.out.1 (by have := HX.out.1; rw [HH.out.2.1] at this; simp at this; omega) (by have := HX.out.1; rw [HH.out.2.1] at this; simp at this; omega) HH.out.2.2 ⟨_, _, _, _, _, ⟨_, _, _, rfl⟩, hs2⟩ rfl (by rw [← HH.out.2.1]; exact hd2) (by rw [← HH.out.2.1, HX.out.1]; exact ⟨hc2, hm2⟩) ⟨hlt2, hgs⟩
  rw [← HH.out.2.1, HX.out.1] at C
  have C := Hd.mk C
  have HZ := Hd.mk HS1.out.2
  clear own2 G2 hown hs2 hd2 hgs O1 CS2 HS1 R1
  go_wp2_with fail
  with_reducible refine C.out.mono ?_
  intro e w3 h3
  obtain ⟨off3, A3, c3, v3, rfl, S3⟩ := h3
  have CS4 := Hd.mk (CS3.out.bel' S3.bel)
  obtain ⟨g4, c4, rfl, _, _, hg4, _, _, hnk⟩ := own_data S3.own HH.out.2.2.ne
  clear hnk
  have HO := Hd.mk S3.own
  have x0 := CS4.out.b0.cell 0 rfl; have x1 := CS4.out.b1.cell 0 rfl; have x2 := CS4.out.b2.cell 0 rfl; have x3 := CS4.out.b3.cell 0 rfl
  have f0 := CS4.out.b0.free 0; have f1 := CS4.out.b1.free 0; have f2 := CS4.out.b2.free 0; have f3 := CS4.out.b3.free 0
  obtain ⟨m, hm⟩ : ∃ m, l.length = m := ⟨_, rfl⟩
  have HM := Hd.mk hm
  rw [hm]
  obtain ⟨k, hk⟩ : ∃ k, t.length = k := ⟨_, rfl⟩
  have HK := Hd.mk hk
  rw [hk]
  have HG := Hd.mk hg4
  have hsz2 : Hd (w.heap.size + 1 + 1 + 1 + 1 ≤ w2.heap.size) := ⟨by have := CS3.out.b3.lt; omega⟩
  clear S3 C CS3 hm hk hg4
  go_wp2
  obtain ⟨V, hV⟩ : ∃ V, V = (((((w3.setCell ⟨w.heap.size, 0, none⟩ (.int .i64 ((m : Int) + 1))).setCell ⟨w.heap.size, 0, none⟩ (.int .i64 ((m : Int) + 1))).setCell ⟨w.heap.size + 1, 0, none⟩ (.slice (some ⟨g4, 0, none⟩) k c4)).setCell ⟨w.heap.size + 1 + 1, 0, none⟩ (.bool true)).setCell ⟨w.heap.size + 1 + 1 + 1, 0, none⟩ (.int .i64 0)) := ⟨_, rfl⟩
  rw [← hV]
  have T := (CS4.out.put0 (.int .i64 ((m : Int) + 1))).put (.int .i64 ((m : Int) + 1)) (.slice (some ⟨g4, 0, none⟩) k c4) (.bool true) (.int .i64 0)
  rw [← hV] at T
  have e0 := T.b0.cell 0 rfl; have e1 := T.b1.cell 0 rfl; have e2 := T.b2.cell 0 rfl; have e3 := T.b3.cell 0 rfl
  have own3 : V.ownsRow w.heap.size 5 1 (.slice (some ⟨g4, 0, none⟩) k c4) k (bc (nb t)) := by
    have hsz := hsz2.out
    have h := HO.out
    rw [HK.out] at h
    rw [hV]
    exact own_baseE (own_set_lt (own_set_lt (own_set_lt (own_set_lt (own_set_lt h (by simp; omega) _) (by simp; omega) _) (by simp; omega) _) (by simp; omega) _) (by simp; omega) _) (by omega)
  clear hV x0 x1 x2 x3 f0 f1 f2 f3
  refine leaves_cons (f := 13) (args := #[.pointer (some ⟨w.heap.size, 0, none⟩), .pointer (some ⟨w.heap.size + 1, 0, none⟩), .pointer (some ⟨w.heap.size + 1 + 1, 0, none⟩), .pointer (some ⟨w.heap.size + 1 + 1 + 1, 0, none⟩)]) (by simp) (by simp [go_sem]) ?_
  refine (catch_step _ _ _ _ _).mono ?_
  rintro e u' w'' ⟨rfl, rfl, rfl⟩
  simp [Leaves, settle, results, Tryd.results8, go_sem, e0, e1, e2, e3]
  exact ⟨_, by rw [HM.out], by rw [HK.out]; exact own3, T.bel⟩
set_option maxRecDepth 100000 in
theorem step_no {w : World} {A : Option Addr} {n c sep : Nat} {com eof : Bool} {xs l : List Nat} (hL : Left sep xs) (hr : Rd w [] A n (nb xs)) (hn : n ≤ 40000) (h0 : xs ≠ []) :
    Calls Tryd.prog 8 #[.slice A n c, .bool eof, .int .i32 sep, .bool com] w fun e w' => StepNo w  e w' := by
  have hmf : ∀ (fn : Fn) (first cap : Array Value) (w : World), (Instr.makeFunc fn first cap).run Tryd.prog w = .ok (.func fn first cap) w := fun _ _ _ _ => rfl
  obtain ⟨i0, hi, hz0, hz1, hz2⟩ := info_of infoB
  have I := Hd.mk (And.intro hi (And.intro hz0 (And.intro hz1 hz2)))
  have hxn : xs.length = n := by have := hr.len; simpa [nb] using this
  have CS := Hd.mk (Cells.start w sep com)
  have HX := Hd.mk (And.intro hxn h0)
  have HR := Hd.mk hr
  have HH := Hd.mk hL
  clear hL
  clear hi hz0 hz1 hz2 hr hxn h0
  go_enter_defers Tryd.func8, Tryd.ntmps8
  go_wp2_with fail
  with_reducible refine (scanFunc sep com _).mono ?_
  rintro e w1 ⟨rfl, hw1⟩
  have CS1 := Hd.mk (show Cells w sep com (.int .i64 0) (.slice none 0 0) (.bool false) (.int .i64 0) w1 by rw [hw1]; exact CS.out.alloc _)
  have hs1 : Blk w1 (w.heap.size + 1 + 1 + 1 + 1) #[.int .i32 sep, .bool com, .slice none 0 0, .bool false, .slice none 0 0] 42 := by
    rw [hw1]; simpa using Blk.new ((((w.alloc (.cells #[.int .i64 0] 3)).alloc (.cells #[.slice none 0 0] 24)).alloc (.cells #[.bool false] 4)).alloc (.cells #[.int .i64 0] 3)) #[.int .i32 sep, .bool com, .slice none 0 0, .bool false, .slice none 0 0] 42
  have hz1 : w1.heap.size = w.heap.size + 1 + 1 + 1 + 1 + 1 := by rw [hw1]; simp
  have O1 := Hd.mk (World.ownsRow_lit (base := w1.heap.size) (size := 1) (e := 5) w1 #[] 0 (Nat.le_refl _) (by simp [maxLen]) rfl)
  have CS2 := Hd.mk (CS1.out.alloc (.cells #[] 5))
  have HS1 := Hd.mk (And.intro hs1 hz1)
  have R1 := Hd.mk (HR.out.below (CS2.out.bel.mono (Nat.le_refl _)))
  simp only [World.size_alloc]
  clear hw1 hs1 hz1 CS CS1 HR
  go_wp2_with (at_builtin; refine wpList_append_rd rfl (.tmp 19) (.tmp 20) 24 rfl w1.heap.size 5 i0 (.int .u8 0) Tryd.underlying24 I.out.1 I.out.2.1 I.out.2.2.1 I.out.2.2.2 rfl (.slice (some ⟨w1.heap.size, 0, none⟩) 0 0) 0 [] (by simp [Act.eval, Act.put]) O1.out A n c (nb xs) (by simp [Act.eval, Act.put]) R1.out (by omega) (by simp) ?_)
  intro v2 w2 own2 G2
  have hown : w2.ownsRow w1.heap.size 5 1 v2 n (bc (nb xs)) := by simpa using own2
  obtain ⟨g, c2, rfl, hc2, hm2, hg2, hlt2, hd2, hnx⟩ := own_data hown HX.out.2
  clear hnx
  have CS3 := Hd.mk (CS2.out.grown G2 (fun k hk => by have := HS1.out.2; simp [Value.ownBlock] at hk; omega))
  have hs2 : Blk w2 (w.heap.size + 1 + 1 + 1 + 1) #[.int .i32 sep, .bool com, .slice none 0 0, .bool false, .slice none 0 0] 42 := (HS1.out.1.alloc _).grown G2 (fun hk => by have := HS1.out.2; simp [Value.ownBlock] at hk; omega)
  have hgs : g ≠ w.heap.size + 1 + 1 + 1 + 1 := by have := HS1.out.2; omega
  have C := scan_none (w := w2) (s := w.heap.size + 1 + 1 + 1 + 1) (g := g) (off := 0) (c := c2) (com := com) (eof := eof) (A := some ⟨g, 0, none⟩) (l := xs) (by have := HX.out.1; omega) HH.out HX.out.2 ⟨_, _, _, _, _, ⟨_, _, _, rfl⟩, hs2⟩ rfl hd2 (by rw [HX.out.1]; exact ⟨hc2, hm2⟩) ⟨hlt2, hgs⟩
  rw [HX.out.1] at C
  have C := Hd.mk C
  clear own2 G2 hown hs2 hd2 hgs O1 CS2 HS1 R1
  go_wp2_with fail
  with_reducible refine C.out.mono ?_
  intro e w3 h3
  obtain ⟨rfl, _, hb3⟩ := h3
  have CS4 := Hd.mk (CS3.out.bel' hb3)
  have x0 := CS4.out.b0.cell 0 rfl; have x1 := CS4.out.b1.cell 0 rfl; have x2 := CS4.out.b2.cell 0 rfl; have x3 := CS4.out.b3.cell 0 rfl
  have f0 := CS4.out.b0.free 0; have f1 := CS4.out.b1.free 0; have f2 := CS4.out.b2.free 0; have f3 := CS4.out.b3.free 0
  clear hb3 C CS3
  go_wp2
  obtain ⟨V, hV⟩ : ∃ V, V = (((((w3.setCell ⟨w.heap.size, 0, none⟩ (.int .i64 0)).setCell ⟨w.heap.size, 0, none⟩ (.int .i64 0)).setCell ⟨w.heap.size + 1, 0, none⟩ (.slice none 0 0)).setCell ⟨w.heap.size + 1 + 1, 0, none⟩ (.bool false)).setCell ⟨w.heap.size + 1 + 1 + 1, 0, none⟩ (.int .i64 0)) := ⟨_, rfl⟩
  rw [← hV]
  have T := (CS4.out.put0 (.int .i64 0)).put (.int .i64 0) (.slice none 0 0) (.bool false) (.int .i64 0)
  rw [← hV] at T
  have e0 := T.b0.cell 0 rfl; have e1 := T.b1.cell 0 rfl; have e2 := T.b2.cell 0 rfl; have e3 := T.b3.cell 0 rfl
  clear hV x0 x1 x2 x3 f0 f1 f2 f3
  refine leaves_cons (f := 13) (args := #[.pointer (some ⟨w.heap.size, 0, none⟩), .pointer (some ⟨w.heap.size + 1, 0, none⟩), .pointer (some ⟨w.heap.size + 1 + 1, 0, none⟩), .pointer (some ⟨w.heap.size + 1 + 1 + 1, 0, none⟩)]) (by simp) (by simp [go_sem]) ?_
  refine (catch_step _ _ _ _ _).mono ?_
  rintro e u' w'' ⟨rfl, rfl, rfl⟩
  simp [Leaves, settle, results, Tryd.results8, go_sem, e0, e1, e2, e3]
  exact ⟨rfl, T.bel⟩
end Go.Proofs.YtfbdbbkodgijiaaDoor.Kb
