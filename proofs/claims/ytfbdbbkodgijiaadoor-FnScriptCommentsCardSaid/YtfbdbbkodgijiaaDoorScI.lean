/- Statements of a text: impl.ScanScript. (Written by mksci.py.) -/
import Derived.Test.YtfbdbbkodgijiaaDoorScH
import Derived.Deep.RegionHeld3
import Derived.Lib.SliceRun
namespace Go.Proofs.YtfbdbbkodgijiaaDoor.Kb
open Go Go.RowKit
set_option linter.unusedVariables false
set_option linter.unusedSimpArgs false
set_option maxHeartbeats 4000000
theorem catch_script (a0 a1 a2 : Value) (w : World) :
    CallsD Tryd.prog 15 #[a0, a1, a2] .returning w fun e u' w' => e = .returned (.tuple #[]) ∧ u' = .returning ∧ w' = w := by
  refine callsD_of_wpS Tryd.func15 rfl fun c₀ cs hu => ?_
  apply wpS_seq
  apply wpS_region
  simp [wpOpsS, go_sem, recoverD, hu, Tryd.ntmps15, Exit.thenS]
  refine wpS_cond (t := false) (by simp [Act.eval, Array.replicate]) ?_
  simp only [Bool.false_eq_true, if_false]
  refine wpS_of_wp (wp_skip ?_)
  cases c₀
  simp_all [bodyPostS, results, Tryd.results15]
theorem infoStr : (Tryd.prog.info? 9).map (fun i => (i.zero, i.size, i.bytes)) = some (some (.string ByteArray.empty), 1, 16) := by kernel_rfl
/-- What the loop of ScanScript holds. -/
structure ScrI (w : World) (s sep : Nat) (com : Bool) (v0 : Value) (n : Nat) (xs : List Nat) (k : Nat) (ss : List Value) (vo vr : Value) (W : World) : Prop where
  b0 : Blk W w.heap.size #[vo] 28
  b1 : Blk W (w.heap.size + 1) #[vr] 24
  b2 : Blk W (w.heap.size + 1 + 1) #[.int .i64 0] 3
  idle : Idle s sep com W
  row : W.ownsRow (w.heap.size + 1 + 1 + 1) 5 1 v0 n (bc (nb xs))
  out : W.ownsRow (w.heap.size + 1 + 1 + 1) 9 1 vo k ss
  bel : Below w.heap.size w W
  sb : w.heap.size + 1 + 1 + 1 ≤ s
section
variable {w W W' : World} {s sep n k : Nat} {com : Bool} {v0 vo vr : Value} {xs : List Nat} {ss : List Value}
theorem Idle.alloc (h : Idle s sep com W) (o : Obj) : Idle s sep com (W.alloc o) := by
  obtain ⟨A, n, c, e, v, hv, hb⟩ := h
  exact ⟨A, n, c, e, v, hv, hb.alloc o⟩
theorem Idle.ne (h : Idle s sep com W) {b m z : Nat} {e : TypeId} {v : Value} {ys : List Value} (k : W.ownsRow b e z v m ys) (hne : 42 ≠ e) : v.ownBlock ≠ some s := by
  obtain ⟨A, n, c, e, v, hv, hb⟩ := h
  exact own_ne k hb hne
theorem Idle.grown (h : Idle s sep com W) {r : Option Nat} (hg : W.grownBy W' r) (hr : r ≠ some s) : Idle s sep com W' := by
  obtain ⟨A, n, c, e, v, hv, hb⟩ := h
  exact ⟨A, n, c, e, v, hv, hb.grown hg hr⟩
theorem Idle.set_ne (h : Idle s sep com W) {p : Addr} (hp : p.block ≠ s) (u : Value) : Idle s sep com (W.setCell p u) := by
  obtain ⟨A, n, c, e, v, hv, hb⟩ := h
  exact ⟨A, n, c, e, v, hv, hb.set_ne hp u⟩
theorem Idle.lt (h : Idle s sep com W) : s < W.heap.size := by
  obtain ⟨A, n, c, e, v, hv, hb⟩ := h
  exact hb.lt
theorem own_bel {b m z : Nat} {e : TypeId} {v : Value} {ys : List Value} (k : W.ownsRow b e z v m ys) (h : Bel W.heap.size [s] W W') (hs : v.ownBlock ≠ some s) : W'.ownsRow b e z v m ys :=
  k.kept (row := some s) ⟨h.os, h.tape, h.output, h.size, fun j hj hn => h.block j hj (by simp at hn ⊢; exact hn)⟩ (.inr hs)
theorem ScrI.bel' (S : ScrI w s sep com v0 n xs k ss vo vr W) (h : Bel W.heap.size [s] W W') (hi : Idle s sep com W') : ScrI w s sep com v0 n xs k ss vo vr W' :=
  have hsb := S.sb
  ⟨S.b0.bel h S.b0.lt (by simp; omega), S.b1.bel h S.b1.lt (by simp; omega), S.b2.bel h S.b2.lt (by simp; omega), hi, own_bel S.row h (S.idle.ne S.row (by decide)), own_bel S.out h (S.idle.ne S.out (by decide)),
    S.bel.trans (Bel.to' (h.weak (B' := w.heap.size) S.bel.size (fun x hx _ => hx)) (fun x hx => by simp at hx; omega)), S.sb⟩
theorem ScrI.alloc (S : ScrI w s sep com v0 n xs k ss vo vr W) (o : Obj) : ScrI w s sep com v0 n xs k ss vo vr (W.alloc o) :=
  ⟨S.b0.alloc o, S.b1.alloc o, S.b2.alloc o, S.idle.alloc o, S.row.alloc o, S.out.alloc o, S.bel.alloc S.bel.size o, S.sb⟩
theorem ScrI.put1 (S : ScrI w s sep com v0 n xs k ss vo vr W) (u : Value) : ScrI w s sep com v0 n xs k ss vo u (W.setCell ⟨w.heap.size + 1, 0, none⟩ u) :=
  have hsb := S.sb
  ⟨S.b0.set_ne (by simp) u, S.b1.set 0 u, S.b2.set_ne (by simp) u, S.idle.set_ne (by simp; omega) u, own_set_lt S.row (by simp) u, own_set_lt S.out (by simp) u, S.bel.setCell (p := ⟨w.heap.size + 1, 0, none⟩) (by simp) u, S.sb⟩
theorem ScrI.grow (S : ScrI w s sep com v0 n xs k ss vo vr W) (hg : W.grownBy W' vo.ownBlock) {k' : Nat} {ss' : List Value} {u : Value} (ho : W'.ownsRow (w.heap.size + 1 + 1 + 1) 9 1 u k' ss') : ScrI w s sep com v0 n xs k' ss' u vr (W'.setCell ⟨w.heap.size, 0, none⟩ u) :=
  have hsb := S.sb
  ⟨(S.b0.grown_lt S.out (by omega) hg).set 0 u, (S.b1.grown_lt S.out (by omega) hg).set_ne (by simp) u, (S.b2.grown_lt S.out (by omega) hg).set_ne (by simp <;> omega) u, (S.idle.grown hg (S.idle.ne S.out (by decide))).set_ne (by simp; omega) u,
    own_set_lt (own_grown S.row S.out (by decide) hg) (by simp <;> omega) u, own_set_lt ho (by simp <;> omega) u, (below_grown_own S.bel S.out S.bel.size (by omega) hg).setCell (p := ⟨w.heap.size, 0, none⟩) (by simp) u, S.sb⟩
theorem ScrI.fin (S : ScrI w s sep com v0 n xs k ss vo vr W) (r : Value) {V : World} (hV : V = ((((W.setCell ⟨w.heap.size + 1, 0, none⟩ r).setCell ⟨w.heap.size, 0, none⟩ vo).setCell ⟨w.heap.size + 1, 0, none⟩ r).setCell ⟨w.heap.size + 1 + 1, 0, none⟩ (.int .i64 0)).drew) :
    V.cell? ⟨w.heap.size, 0, none⟩ = some vo ∧ V.cell? ⟨w.heap.size + 1, 0, none⟩ = some r ∧ V.cell? ⟨w.heap.size + 1 + 1, 0, none⟩ = some (.int .i64 0) ∧ V.ownsRow w.heap.size 9 1 vo k ss ∧ V.ownsRow (w.heap.size + 1 + 1 + 1) 5 1 v0 n (bc (nb xs)) ∧ Below w.heap.size w V := by
  have S1 := S.put1 r
  have own : ∀ {e z m : Nat} {u : Value} {ys : List Value}, (W.setCell ⟨w.heap.size + 1, 0, none⟩ r).ownsRow (w.heap.size + 1 + 1 + 1) e z u m ys → V.ownsRow (w.heap.size + 1 + 1 + 1) e z u m ys := fun h => by
    rw [hV]; exact own_set_lt (own_set_lt (own_set_lt h (by simp <;> omega) _) (by simp) _) (by simp) _
  refine ⟨?_, ?_, ?_, own_baseE (own S1.out) (by omega), own S1.row, ?_⟩
  · rw [hV]; exact (((S1.b0.set 0 vo).set_ne (by simp) r).set_ne (by simp <;> omega) _).cell 0 rfl
  · rw [hV]; exact (((S1.b1.set_ne (by simp) vo).set 0 r).set_ne (by simp) _).cell 0 rfl
  · rw [hV]; exact (((S1.b2.set_ne (by simp <;> omega) vo).set_ne (by simp) r).set 0 _).cell 0 rfl
  · rw [hV]; exact (((S1.bel.setCell (p := ⟨w.heap.size, 0, none⟩) (by simp) vo).setCell (p := ⟨w.heap.size + 1, 0, none⟩) (by simp) r).setCell (p := ⟨w.heap.size + 1 + 1, 0, none⟩) (by simp <;> omega) _).drew
end
/-- What is left to be scanned. -/
structure RestI (g : Nat) (xs ys : List Nat) (vr : Value) : Prop where
  out : ∃ zs A c, xs = zs ++ ys ∧ vr = .slice A ys.length c ∧ (ys ≠ [] → A = some ⟨g, zs.length, none⟩) ∧ ys.length ≤ c ∧ c ≤ maxLen
/-- Statements, one behind the other, each with its sign. -/
def flat (sep : Nat) (L : List (List Nat × List Nat)) : List Nat := L.flatMap fun p => p.1 ++ [sep]
def strs (L : List (List Nat × List Nat)) : List Value := L.map fun p => Value.string (T p.2)
def LoopI (w : World) (s sep : Nat) (com : Bool) (v0 : Value) (g n : Nat) (xs : List Nat) (L : List (List Nat × List Nat)) (tail : List Nat) (W : World) : Prop :=
  ∃ (L1 L2 : List (List Nat × List Nat)) (vo vr : Value), L = L1 ++ L2 ∧ ScrI w s sep com v0 n xs L1.length (strs L1) vo vr W ∧ RestI g xs (flat sep L2 ++ tail) vr
def restLen (p : Nat) (W : World) : Nat := match W.cell? ⟨p, 0, none⟩ with | some (.slice _ n _) => n | _ => 0
/-- All statements of a text, and what is left. -/
def Script (w : World) (L : List (List Nat × List Nat)) (tail : List Nat) (e : Ending) (w' : World) : Prop :=
  ∃ vo A c, e = .returned (.tuple #[vo, .slice A tail.length c, .int .i64 0]) ∧ w'.ownsRow w.heap.size 9 1 vo L.length (strs L) ∧ Rd w' [] A tail.length (nb tail) ∧ Below w.heap.size w w'
theorem script_end {w V : World} {g k m n : Nat} {L : List (List Nat × List Nat)} {tail xs zs : List Nat} {A0 A1 Ao : Option Addr} {c0 c1 co : Nat} (hm : tail.length = m) (hk : L.length = k) (hg : xs ≠ [] → A0 = some ⟨g, 0, none⟩) (hx : xs = zs ++ tail) (hA : tail ≠ [] → A1 = some ⟨g, zs.length, none⟩)
    (ro : V.ownsRow w.heap.size 9 1 (.slice Ao k co) k (strs L)) (rr : V.ownsRow (w.heap.size + 1 + 1 + 1) 5 1 (.slice A0 n c0) n (bc (nb xs))) (rb : Below w.heap.size w V) (hl : m ≤ 40000) :
    Script w L tail (.returned (.tuple #[.slice Ao k co, .slice A1 m c1, .int .i64 0])) V := by
  refine ⟨_, _, _, by rw [hm], by rw [hk]; exact ro, ?_, rb⟩
  by_cases ht : tail = []
  · subst ht
    simp at hm
    subst hm
    exact ⟨rfl, by simp, fun j hj => by simp [nb] at hj⟩
  · have hxne : xs ≠ [] := by rw [hx]; intro h; exact ht (List.append_eq_nil_iff.1 h).2
    obtain ⟨g', c', hv, _, _, _, hlt, hd, _⟩ := own_data rr hxne
    simp only [Value.slice.injEq] at hv
    have h2 := hg hxne
    rw [hv.1] at h2
    simp only [Option.some.injEq, Addr.mk.injEq] at h2
    obtain rfl := h2.1
    rw [hx] at hd
    have hd2 := hd.drop
    rw [Nat.zero_add] at hd2
    rw [hA ht]
    exact DataAt.rd (ys := []) (by simpa using hd2) hlt (by omega)
set_option maxRecDepth 100000 in
theorem scanScript {w : World} {A : Option Addr} {n c sep : Nat} {com : Bool} {xs tail : List Nat} {L : List (List Nat × List Nat)} (hs : sep ≠ 39 ∧ sep ≠ 34 ∧ sep < 128) (hL : ∀ p ∈ L, Stmt sep com p.1 p.2) (hT : tail = [] ∨ Left sep tail) (hx : xs = flat sep L ++ tail) (hk : L.length ≤ 20) (hr : Rd w [] A n (nb xs)) (hn : n ≤ 40000) :
    Calls Tryd.prog 11 #[.slice A n c, .int .i32 sep, .bool com] w fun e w' => Script w L tail e w' := by
  have hmf : ∀ (fn : Fn) (first cap : Array Value) (w : World), (Instr.makeFunc fn first cap).run Tryd.prog w = .ok (.func fn first cap) w := fun _ _ _ _ => rfl
  have hsn : ∀ (a : Option Addr) (l c : Nat) (w : World), (binOp .eql 24 (.slice a l c) (.slice none 0 0)).run Tryd.prog w = .ok (.bool a.isNone) w := fun a l c w => Lib.run_eql_slice_nil w 24 5 a l c 0 0 Tryd.underlying24
  obtain ⟨i0, hi, hz0, hz1, hz2⟩ := info_of infoB
  have I := Hd.mk (And.intro hi (And.intro hz0 (And.intro hz1 hz2)))
  obtain ⟨j0, hj, hy0, hy1, hy2⟩ := info_of infoStr
  have J := Hd.mk (And.intro hj (And.intro hy0 (And.intro hy1 hy2)))
  have hxn : xs.length = n := by have := hr.len; simpa [nb] using this
  have HX := Hd.mk (And.intro hxn hx)
  have HS := Hd.mk hs; have HL := Hd.mk hL; have HT := Hd.mk hT
  have W3b : Below w.heap.size w (((w.alloc (.cells #[.slice none 0 0] 28)).alloc (.cells #[.slice none 0 0] 24)).alloc (.cells #[.int .i64 0] 3)) := (((Below.refl _ _).alloc (by simp <;> omega) _).alloc (by simp <;> omega) _).alloc (by simp <;> omega) _
  have g0 : Blk (((w.alloc (.cells #[.slice none 0 0] 28)).alloc (.cells #[.slice none 0 0] 24)).alloc (.cells #[.int .i64 0] 3)) (w.heap.size) #[.slice none 0 0] 28 := by simpa using (((Blk.new w #[.slice none 0 0] 28).alloc (.cells #[.slice none 0 0] 24)).alloc (.cells #[.int .i64 0] 3))
  have g1 : Blk (((w.alloc (.cells #[.slice none 0 0] 28)).alloc (.cells #[.slice none 0 0] 24)).alloc (.cells #[.int .i64 0] 3)) (w.heap.size + 1) #[.slice none 0 0] 24 := by simpa using ((Blk.new (w.alloc (.cells #[.slice none 0 0] 28)) #[.slice none 0 0] 24).alloc (.cells #[.int .i64 0] 3))
  have g2 : Blk (((w.alloc (.cells #[.slice none 0 0] 28)).alloc (.cells #[.slice none 0 0] 24)).alloc (.cells #[.int .i64 0] 3)) (w.heap.size + 1 + 1) #[.int .i64 0] 3 := by simpa using (Blk.new ((w.alloc (.cells #[.slice none 0 0] 28)).alloc (.cells #[.slice none 0 0] 24)) #[.int .i64 0] 3)
  obtain ⟨W3, hW3⟩ : ∃ W3, W3 = (((w.alloc (.cells #[.slice none 0 0] 28)).alloc (.cells #[.slice none 0 0] 24)).alloc (.cells #[.int .i64 0] 3)) := ⟨_, rfl⟩
  rw [← hW3] at W3b g0 g1 g2
  have hz3 : W3.heap.size = w.heap.size + 1 + 1 + 1 := by rw [hW3]; simp
  have O1 := Hd.mk (World.ownsRow_lit (base := W3.heap.size) (size := 1) (e := 5) W3 #[] 0 (Nat.le_refl _) (by simp [maxLen]) rfl)
  have R1 := Hd.mk (hr.below ((W3b.alloc (by omega) (.cells #[] 5)).mono (Nat.le_refl _)))
  have G := Hd.mk (And.intro g0 (And.intro g1 (And.intro g2 (And.intro W3b hz3))))
  have x1 : (W3.alloc (.cells #[] 5)).cell? ⟨w.heap.size + 1, 0, none⟩ = some (.slice none 0 0) := (g1.alloc (.cells #[] 5)).cell 0 rfl
  have f1 := (g1.alloc (.cells #[] 5)).free 0
  clear hi hz0 hz1 hz2 hj hy0 hy1 hy2 hr hs hL hT hx hxn g0 g1 g2 W3b
  subst hW3
  go_enter_defers Tryd.func11, Tryd.ntmps11
  go_wp2_with (at_builtin; refine wpList_append_rd rfl (.tmp 14) (.tmp 15) 24 rfl (((w.alloc (.cells #[.slice none 0 0] 28)).alloc (.cells #[.slice none 0 0] 24)).alloc (.cells #[.int .i64 0] 3)).heap.size 5 i0 (.int .u8 0) Tryd.underlying24 I.out.1 I.out.2.1 I.out.2.2.1 I.out.2.2.2 rfl (.slice (some ⟨(((w.alloc (.cells #[.slice none 0 0] 28)).alloc (.cells #[.slice none 0 0] 24)).alloc (.cells #[.int .i64 0] 3)).heap.size, 0, none⟩) 0 0) 0 [] (by simp [Act.eval, Act.put]) O1.out A n c (nb xs) (by simp [Act.eval, Act.put]) R1.out (by omega) (by simp) ?_)
  intro v2 w2 own2 G2
  have hown : w2.ownsRow (w.heap.size + 1 + 1 + 1) 5 1 v2 n (bc (nb xs)) := by simpa using own2
  have hG : ∀ k, (Value.slice (some ⟨w.heap.size + 1 + 1 + 1, 0, none⟩) 0 0).ownBlock = some k → w.heap.size + 1 + 1 + 1 ≤ k := fun k hk => by simp [Value.ownBlock] at hk; omega
  obtain ⟨A0, c0, rfl, hc0, hm0⟩ := own_slice hown
  have p0 := Hd.mk ((G.out.1.alloc (.cells #[] 5)).grown G2 (fun e => by have := hG _ e; omega))
  have p1 := Hd.mk ((G.out.2.1.alloc (.cells #[] 5)).grown G2 (fun e => by have := hG _ e; omega))
  have p2 := Hd.mk ((G.out.2.2.1.alloc (.cells #[] 5)).grown G2 (fun e => by have := hG _ e; omega))
  have p3 := Hd.mk ((G.out.2.2.2.1.alloc G.out.2.2.2.1.size (.cells #[] 5)).grown G2 (by have := G.out.2.2.2.1.size; simp at this ⊢; omega) (fun k hk => by have := hG k hk; omega))
  have HO := Hd.mk hown
  have y1 : w2.cell? ⟨w.heap.size + 1, 0, none⟩ = some (.slice none 0 0) := p1.out.cell 0 rfl
  have fy1 := p1.out.free 0
  have hsz2 : Hd (w.heap.size + 1 + 1 + 1 ≤ w2.heap.size) := ⟨by have := p2.out.lt; omega⟩
  clear own2 G2 hown hG O1 R1 G x1 f1
  go_wp2_with fail
  with_reducible refine (scanFunc sep com _).mono ?_
  rintro e w3 ⟨rfl, hw3⟩
  obtain ⟨s, hs⟩ : ∃ s, (w2.setCell ⟨w.heap.size + 1, 0, none⟩ (.slice A0 n c0)).heap.size = s := ⟨_, rfl⟩
  have hs2 : w.heap.size + 1 + 1 + 1 ≤ s := by rw [← hs]; have := hsz2.out; simp [World.setCell]; omega
  have hbn := Blk.new (w2.setCell ⟨w.heap.size + 1, 0, none⟩ (.slice A0 n c0)) #[.int .i32 sep, .bool com, .slice none 0 0, .bool false, .slice none 0 0] 42
  rw [← hw3, hs] at hbn
  rw [hs]
  have S0 : ScrI w s sep com (.slice A0 n c0) n xs 0 [] (.slice none 0 0) (.slice A0 n c0) w3 := by
    refine ⟨?_, ?_, ?_, ⟨_, _, _, _, _, ⟨_, _, _, rfl⟩, hbn⟩, ?_, World.ownsRow_nil _ _ _ _, ?_, hs2⟩
    · rw [hw3]; exact (p0.out.set_ne (by simp) _).alloc _
    · rw [hw3]; exact (p1.out.set 0 _).alloc _
    · rw [hw3]; exact (p2.out.set_ne (by simp) _).alloc _
    · rw [hw3]; exact (own_set_lt HO.out (by simp) _).alloc _
    · rw [hw3]; exact (p3.out.setCell (p := ⟨w.heap.size + 1, 0, none⟩) (by simp) _).alloc (by have := hsz2.out; simp [World.setCell]; omega) _
  obtain ⟨g, hg⟩ : ∃ g, xs ≠ [] → A0 = some ⟨g, 0, none⟩ := by
    by_cases h : xs = []
    · exact ⟨0, fun hn => absurd h hn⟩
    · obtain ⟨g, c', hv, _⟩ := own_data HO.out h
      simp only [Value.slice.injEq] at hv
      exact ⟨g, fun _ => hv.1⟩
  have P0 : Hd (LoopI w s sep com (.slice A0 n c0) g n xs L tail w3) := ⟨[], L, _, _, rfl, S0, ⟨[], A0, c0, by simpa using HX.out.2, by rw [← HX.out.2, HX.out.1], fun hne => hg (by rw [HX.out.2]; exact hne), by rw [← HX.out.2, HX.out.1]; exact ⟨hc0, hm0⟩⟩⟩
  have HG := Hd.mk hg
  clear S0 hbn hs hs2 hw3 p0 p1 p2 p3 HO y1 fy1 hsz2 hg hc0 hm0
  go_wp2
  go_loopw [] (fun W => LoopI w s sep com (.slice A0 n c0) g n xs L tail W) (fun W => restLen (w.heap.size + 1) W)
  case atStart => exact P0.out
  case round =>
    clear P0
    obtain ⟨L1, L2, vo, vr, hLL, S, R⟩ := hrel
    obtain ⟨zs, A1, c1, hxz, rfl, hA1, hc1, hm1⟩ := R.out
    obtain ⟨Ao, co, rfl, _, _⟩ := own_slice S.out
    have hdat : flat sep L2 ++ tail ≠ [] → DataAt wr g zs.length (flat sep L2 ++ tail) ∧ g < wr.heap.size ∧ g ≠ s := by
      intro hne
      have hxne : xs ≠ [] := by rw [hxz]; intro h; exact hne (List.append_eq_nil_iff.1 h).2
      obtain ⟨g', c', hv, _, _, _, hlt, hd, _⟩ := own_data S.row hxne
      simp only [Value.slice.injEq] at hv
      have := HG.out hxne
      rw [hv.1] at this
      simp only [Option.some.injEq, Addr.mk.injEq] at this
      obtain rfl := this.1
      refine ⟨?_, hlt, ?_⟩
      · rw [hxz] at hd
        have := hd.drop
        simpa using this
      · intro e
        have := S.idle.ne S.row (by decide)
        rw [hv.1] at this
        exact this (by rw [← e]; rfl)
    have hk1 : L1.length ≤ 20 := by have := congrArg List.length hLL; simp at this; omega
    have x0 : wr.cell? ⟨w.heap.size, 0, none⟩ = some (.slice Ao L1.length co) := S.b0.cell 0 rfl
    have x1 : wr.cell? ⟨w.heap.size + 1, 0, none⟩ = some (.slice A1 (flat sep L2 ++ tail).length c1) := S.b1.cell 0 rfl
    have fx0 := S.b0.free 0; have fx1 := S.b1.free 0
    have hki : (L1.length : Int) < 1000 := by omega
    have HSI := Hd.mk S; have HLL := Hd.mk hLL; have HXZ := Hd.mk hxz; have HA1 := Hd.mk hA1
    have hyn : (flat sep L2 ++ tail).length ≤ 40000 := by have := congrArg List.length hxz; have := HX.out.1; simp at *; omega
    have hRL : Hd (restLen (w.heap.size + 1) wr = (flat sep L2 ++ tail).length) := ⟨by simp [restLen, x1]⟩
    unfold maxLen at hm1
    cases L2 with
    | nil =>
      have C : Calls Tryd.prog 16 #[.pointer (some ⟨s, 0, none⟩), .slice A1 (flat sep [] ++ tail).length c1, .bool true] wr fun e w' => Nothing wr s sep com e w' := by
        by_cases ht : tail = []
        · subst ht; exact scan_empty S.idle
        · have hne : flat sep [] ++ tail ≠ [] := by simpa [flat] using ht
          obtain ⟨h1, h2, h3⟩ := hdat hne
          exact scan_none (by omega) (by simpa [flat] using HT.out.resolve_left ht) hne S.idle (hA1 hne) h1 ⟨hc1, by unfold maxLen; exact hm1⟩ ⟨h2, h3⟩
      have HC := Hd.mk C
      have eT : flat sep [] ++ tail = tail := rfl
      rw [eT] at HC x1 hc1 HA1 HXZ hyn
      obtain ⟨m, hm⟩ : ∃ m, tail.length = m := ⟨_, rfl⟩
      have HM := Hd.mk hm
      rw [hm] at HC x1 hc1 hyn
      obtain rfl : L1 = L := by simpa using HLL.out.symm
      obtain ⟨k, hkk⟩ : ∃ k, L1.length = k := ⟨_, rfl⟩
      have HK := Hd.mk hkk
      rw [hkk] at x0 hki
      have HS4 := HSI
      rw [eT] at HS4
      rw [hm, hkk] at HS4
      clear C S R hLL hxz hA1 hdat hRL eT hm hkk hk1 HSI
      rcases Nat.eq_zero_or_pos c1 with hc10 | hc10
      · obtain rfl : c1 = 0 := hc10
        obtain rfl : m = 0 := by omega
        rcases A1 with _ | ad
        · skip
          go_wp2_with fail
          with_reducible refine HC.out.mono ?_
          intro e w5 h5
          obtain ⟨rfl, hI, hb⟩ := h5
          have S5 := HS4.out.bel' hb hI
          have y0 : w5.cell? ⟨w.heap.size, 0, none⟩ = some (.slice Ao k co) := S5.b0.cell 0 rfl
          have y1 : w5.cell? ⟨w.heap.size + 1, 0, none⟩ = some (.slice none 0 0) := S5.b1.cell 0 rfl
          have y2 : w5.cell? ⟨w.heap.size + 1 + 1, 0, none⟩ = some (.int .i64 0) := S5.b2.cell 0 rfl
          have fy0 := S5.b0.free 0; have fy1 := S5.b1.free 0; have fy2 := S5.b2.free 0
          have HS5 := Hd.mk S5
          clear S5 hI hb HC x0 x1 fx0 fx1 HS4
          go_wp2
          refine wp_region_noPanic ?_
          go_region
          refine NoPanic.normal ?_
          go_wp2
          obtain ⟨V, hV⟩ : ∃ V, V = ((((w5.setCell ⟨w.heap.size + 1, 0, none⟩ (.slice none 0 0)).setCell ⟨w.heap.size, 0, none⟩ (.slice Ao k co)).setCell ⟨w.heap.size + 1, 0, none⟩ (.slice none 0 0)).setCell ⟨w.heap.size + 1 + 1, 0, none⟩ (.int .i64 0)).drew := ⟨_, rfl⟩
          rw [← hV]
          obtain ⟨e0, e1, e2, ro, rr, rb⟩ := HS5.out.fin (.slice none 0 0) hV
          clear hV y0 y1 y2 fy0 fy1 fy2
          refine leaves_cons (f := 15) (args := #[.pointer (some ⟨w.heap.size, 0, none⟩), .pointer (some ⟨w.heap.size + 1, 0, none⟩), .pointer (some ⟨w.heap.size + 1 + 1, 0, none⟩)]) (by simp) (by simp [go_sem]) ?_
          refine (catch_script _ _ _ _).mono ?_
          rintro e u' w'' ⟨rfl, rfl, rfl⟩
          simp [Leaves, settle, results, Tryd.results11, go_sem, e0, e1, e2]
          exact script_end HM.out HK.out HG.out HXZ.out HA1.out ro rr rb (by omega)
        · skip
          go_wp2_with fail
          with_reducible refine HC.out.mono ?_
          intro e w5 h5
          obtain ⟨rfl, hI, hb⟩ := h5
          have S5 := HS4.out.bel' hb hI
          have y0 : w5.cell? ⟨w.heap.size, 0, none⟩ = some (.slice Ao k co) := S5.b0.cell 0 rfl
          have y1 : w5.cell? ⟨w.heap.size + 1, 0, none⟩ = some (.slice (some ad) 0 0) := S5.b1.cell 0 rfl
          have y2 : w5.cell? ⟨w.heap.size + 1 + 1, 0, none⟩ = some (.int .i64 0) := S5.b2.cell 0 rfl
          have fy0 := S5.b0.free 0; have fy1 := S5.b1.free 0; have fy2 := S5.b2.free 0
          have HS5 := Hd.mk S5
          clear S5 hI hb HC x0 x1 fx0 fx1 HS4
          go_wp2
          refine wp_region_noPanic ?_
          go_region
          refine NoPanic.normal ?_
          go_wp2
          obtain ⟨V, hV⟩ : ∃ V, V = ((((w5.setCell ⟨w.heap.size + 1, 0, none⟩ (.slice (some ad) 0 0)).setCell ⟨w.heap.size, 0, none⟩ (.slice Ao k co)).setCell ⟨w.heap.size + 1, 0, none⟩ (.slice (some ad) 0 0)).setCell ⟨w.heap.size + 1 + 1, 0, none⟩ (.int .i64 0)).drew := ⟨_, rfl⟩
          rw [← hV]
          obtain ⟨e0, e1, e2, ro, rr, rb⟩ := HS5.out.fin (.slice (some ad) 0 0) hV
          clear hV y0 y1 y2 fy0 fy1 fy2
          refine leaves_cons (f := 15) (args := #[.pointer (some ⟨w.heap.size, 0, none⟩), .pointer (some ⟨w.heap.size + 1, 0, none⟩), .pointer (some ⟨w.heap.size + 1 + 1, 0, none⟩)]) (by simp) (by simp [go_sem]) ?_
          refine (catch_script _ _ _ _).mono ?_
          rintro e u' w'' ⟨rfl, rfl, rfl⟩
          simp [Leaves, settle, results, Tryd.results11, go_sem, e0, e1, e2]
          exact script_end HM.out HK.out HG.out HXZ.out HA1.out ro rr rb (by omega)
      · have hcne : ¬ c1 = 0 := by omega
        rcases A1 with _ | ⟨ag, ao, ap⟩
        · have hm0 : (0 : Int) ≤ (m : Int) := by omega
          have hmc : (m : Int) ≤ c1 := by omega
          have h0c : (0 : Int) ≤ c1 := by omega
          have hcm : (c1 : Int) ≤ 9223372036854775807 := by omega
          go_wp2_with fail
          with_reducible refine HC.out.mono ?_
          intro e w5 h5
          obtain ⟨rfl, hI, hb⟩ := h5
          have S5 := HS4.out.bel' hb hI
          have y0 : w5.cell? ⟨w.heap.size, 0, none⟩ = some (.slice Ao k co) := S5.b0.cell 0 rfl
          have y1 : w5.cell? ⟨w.heap.size + 1, 0, none⟩ = some (.slice none m c1) := S5.b1.cell 0 rfl
          have y2 : w5.cell? ⟨w.heap.size + 1 + 1, 0, none⟩ = some (.int .i64 0) := S5.b2.cell 0 rfl
          have fy0 := S5.b0.free 0; have fy1 := S5.b1.free 0; have fy2 := S5.b2.free 0
          have HS5 := Hd.mk S5
          clear S5 hI hb HC x0 x1 fx0 fx1 HS4
          go_wp2
          refine wp_region_noPanic ?_
          go_region
          refine NoPanic.normal ?_
          go_wp2
          obtain ⟨V, hV⟩ : ∃ V, V = ((((w5.setCell ⟨w.heap.size + 1, 0, none⟩ (.slice none m c1)).setCell ⟨w.heap.size, 0, none⟩ (.slice Ao k co)).setCell ⟨w.heap.size + 1, 0, none⟩ (.slice none m c1)).setCell ⟨w.heap.size + 1 + 1, 0, none⟩ (.int .i64 0)).drew := ⟨_, rfl⟩
          rw [← hV]
          obtain ⟨e0, e1, e2, ro, rr, rb⟩ := HS5.out.fin (.slice none m c1) hV
          clear hV y0 y1 y2 fy0 fy1 fy2
          refine leaves_cons (f := 15) (args := #[.pointer (some ⟨w.heap.size, 0, none⟩), .pointer (some ⟨w.heap.size + 1, 0, none⟩), .pointer (some ⟨w.heap.size + 1 + 1, 0, none⟩)]) (by simp) (by simp [go_sem]) ?_
          refine (catch_script _ _ _ _).mono ?_
          rintro e u' w'' ⟨rfl, rfl, rfl⟩
          simp [Leaves, settle, results, Tryd.results11, go_sem, e0, e1, e2]
          exact script_end HM.out HK.out HG.out HXZ.out HA1.out ro rr rb (by omega)
        · have hm0 : (0 : Int) ≤ (m : Int) := by omega
          have hmc : (m : Int) ≤ c1 := by omega
          have h0c : (0 : Int) ≤ c1 := by omega
          have hcm : (c1 : Int) ≤ 9223372036854775807 := by omega
          go_wp2_with fail
          with_reducible refine HC.out.mono ?_
          intro e w5 h5
          obtain ⟨rfl, hI, hb⟩ := h5
          have S5 := HS4.out.bel' hb hI
          have y0 : w5.cell? ⟨w.heap.size, 0, none⟩ = some (.slice Ao k co) := S5.b0.cell 0 rfl
          have y1 : w5.cell? ⟨w.heap.size + 1, 0, none⟩ = some (.slice (some ⟨ag, ao, ap⟩) m c1) := S5.b1.cell 0 rfl
          have y2 : w5.cell? ⟨w.heap.size + 1 + 1, 0, none⟩ = some (.int .i64 0) := S5.b2.cell 0 rfl
          have fy0 := S5.b0.free 0; have fy1 := S5.b1.free 0; have fy2 := S5.b2.free 0
          have HS5 := Hd.mk S5
          clear S5 hI hb HC x0 x1 fx0 fx1 HS4
          go_wp2
          refine wp_region_noPanic ?_
          go_region
          refine NoPanic.normal ?_
          go_wp2
          obtain ⟨V, hV⟩ : ∃ V, V = ((((w5.setCell ⟨w.heap.size + 1, 0, none⟩ (.slice (some ⟨ag, ao, ap⟩) m c1)).setCell ⟨w.heap.size, 0, none⟩ (.slice Ao k co)).setCell ⟨w.heap.size + 1, 0, none⟩ (.slice (some ⟨ag, ao, ap⟩) m c1)).setCell ⟨w.heap.size + 1 + 1, 0, none⟩ (.int .i64 0)).drew := ⟨_, rfl⟩
          rw [← hV]
          obtain ⟨e0, e1, e2, ro, rr, rb⟩ := HS5.out.fin (.slice (some ⟨ag, ao, ap⟩) m c1) hV
          clear hV y0 y1 y2 fy0 fy1 fy2
          refine leaves_cons (f := 15) (args := #[.pointer (some ⟨w.heap.size, 0, none⟩), .pointer (some ⟨w.heap.size + 1, 0, none⟩), .pointer (some ⟨w.heap.size + 1 + 1, 0, none⟩)]) (by simp) (by simp [go_sem]) ?_
          refine (catch_script _ _ _ _).mono ?_
          rintro e u' w'' ⟨rfl, rfl, rfl⟩
          simp [Leaves, settle, results, Tryd.results11, go_sem, e0, e1, e2]
          exact script_end HM.out HK.out HG.out HXZ.out HA1.out ro rr rb (by omega)
    | cons p L2 =>
      obtain ⟨l, t⟩ := p
      obtain ⟨r, hrr⟩ : ∃ r, flat sep L2 ++ tail = r := ⟨_, rfl⟩
      have eY : flat sep ((l, t) :: L2) ++ tail = l ++ sep :: r := by rw [← hrr]; simp [flat]
      have HRR := Hd.mk hrr
      rw [eY] at hdat hA1 hc1 x1 hyn hRL HXZ HSI
      have hne : l ++ sep :: r ≠ [] := by simp
      obtain ⟨hd1, hd2, hd3⟩ := hdat hne
      obtain rfl := hA1 hne
      have hst : Stmt sep com l t := HL.out (l, t) (by rw [hLL]; simp)
      have hlr : l.length + 1 + r.length ≤ 40000 := by have := hyn; simp at this; omega
      have C := Hd.mk (scan_found (eof := true) (A := some ⟨g, zs.length, none⟩) HS.out (by omega) (by omega) hst S.idle rfl hd1 ⟨hc1, by unfold maxLen; exact hm1⟩ ⟨hd2, hd3⟩)
      have HST := Hd.mk hst
      obtain ⟨q, hq⟩ : ∃ q, l.length = q := ⟨_, rfl⟩
      obtain ⟨M, hM⟩ : ∃ M, r.length = M := ⟨_, rfl⟩
      obtain ⟨N, hN⟩ : ∃ N, (l ++ sep :: r).length = N := ⟨_, rfl⟩
      have hNM : N = q + 1 + M := by rw [← hN, ← hq, ← hM]; simp; omega
      have HQ := Hd.mk hq
      obtain ⟨k, hkk⟩ : ∃ k, L1.length = k := ⟨_, rfl⟩
      have HK := Hd.mk hkk
      have HMM : Hd ((flat sep L2 ++ tail).length = M) := ⟨by rw [hrr]; exact hM⟩
      have HRL2 : Hd (restLen (w.heap.size + 1) wr = q + 1 + M) := ⟨by rw [hRL.out, hN, hNM]⟩
      have HC := C
      rw [hN] at HC x1 hc1 hyn HSI
      rw [hkk] at x0 hki HSI hk1
      have HS4 := HSI
      have hqN : (q : Int) + 1 ≤ N := by omega
      have hq0 : (0 : Int) ≤ (q : Int) + 1 := by omega
      have hqc : (q : Int) + 1 ≤ c1 := by omega
      have hNc : (N : Int) ≤ c1 := by omega
      have hcm : (c1 : Int) ≤ 9223372036854775807 := by omega
      have hqz : (((q : Int) + 1) == 0) = false := by simp; omega
      have hNq : N - (q + 1) = M := by omega
      have hM0 : c1 = q + 1 → M = 0 := by omega
      have HM0 := Hd.mk hM0
      have HCM : Hd (M ≤ c1 - (q + 1) ∧ c1 - (q + 1) ≤ maxLen) := ⟨by unfold maxLen; omega⟩
      clear C S R hLL hxz hdat hRL eY hrr hst hlr hq hM hN hNM hkk hd1 hd2 hd3 hne hM0
      rcases Nat.lt_or_ge (q + 1) c1 with hcq | hcq
      · have hcne : ¬ c1 = q + 1 := by omega
        skip
        go_wp2_with fail
        with_reducible refine HC.out.mono ?_
        intro e w5 h5
        obtain ⟨off5, A5, c5, v5, rfl, S5⟩ := h5
        have HI5 := S5.bel
        have hid : Idle s sep com w5 := (ScE.idle ⟨_, _, _, _, S5⟩).1
        have S6 := HS4.out.bel' HI5 hid
        obtain ⟨g4, c4, rfl, _, _, _, _, _, hnk⟩ := own_data S5.own HST.out.ne
        clear hnk
        have y0 : w5.cell? ⟨w.heap.size, 0, none⟩ = some (.slice Ao k co) := S6.b0.cell 0 rfl
        have y1 : w5.cell? ⟨w.heap.size + 1, 0, none⟩ = some (.slice (some ⟨g, zs.length, none⟩) N c1) := S6.b1.cell 0 rfl
        have fy0 := S6.b0.free 0; have fy1 := S6.b1.free 0
        have S7 := S6.put1 (.slice (some ⟨g, zs.length + (q + 1), none⟩) M (c1 - (q + 1)))
        have hw8 : w.heap.size + 1 < wr.heap.size := HS4.out.b1.lt
        have hcv := own_str (own_set_lt (p := ⟨w.heap.size + 1, 0, none⟩) S5.own hw8 (.slice (some ⟨g, zs.length + (q + 1), none⟩) M (c1 - (q + 1)))) (by have := HST.out.len; have := HQ.out; omega)
        obtain ⟨k4, hk4⟩ : ∃ k, t.length = k := ⟨_, rfl⟩
        rw [hk4] at hcv ⊢
        have HS8 := Hd.mk (S7.alloc (.cells #[.string (T t)] 9))
        have hh := Hd.mk (Blk.new (w5.setCell ⟨w.heap.size + 1, 0, none⟩ (.slice (some ⟨g, zs.length + (q + 1), none⟩) M (c1 - (q + 1)))) #[.string (T t)] 9)
        rw [HQ.out]
        clear S5 HI5 hid S6 S7 HC x0 x1 fx0 fx1 HS4 hw8 hk4
        go_wp2_with (at_builtin; refine wpList_append_one rfl (.tmp 37) (.tmp 40) 28 rfl Tryd.underlying28 J.out.1 J.out.2.1 J.out.2.2.1 J.out.2.2.2 rfl rfl HS8.out.out (by simp [Act.eval, Act.put]) hh.out rfl (by unfold maxLen; omega) (by omega) (by have := HS8.out.b2.lt; omega) ?_)
        intro v9 w9 own9 g9
        obtain ⟨A9, c9, rfl, _, _⟩ := own_slice own9
        have HS9 := Hd.mk (HS8.out.grow g9 own9)
        have b9 := HS8.out.b0.grown_lt HS8.out.out (by omega) g9
        have z0 : w9.cell? ⟨w.heap.size, 0, none⟩ = some (.slice Ao k co) := b9.cell 0 rfl
        have fz0 := b9.free 0
        clear own9 g9 b9 hh hcv y0 y1 fy0 fy1
        go_wp2
        go_roundw
        case rel =>
          refine ⟨L1 ++ [(l, t)], L2, .slice A9 (k + 1) c9, .slice (some ⟨g, zs.length + (q + 1), none⟩) M (c1 - (q + 1)), by rw [HLL.out]; simp, ?_, ⟨zs ++ (l ++ [sep]), some ⟨g, zs.length + (q + 1), none⟩, (c1 - (q + 1)), by rw [HRR.out, HXZ.out]; simp, by rw [HMM.out], ?_, ?_⟩⟩
          · have h := HS9.out
            have e1 : (L1 ++ [(l, t)]).length = k + 1 := by have := HK.out; simp; omega
            have e2 : strs (L1 ++ [(l, t)]) = strs L1 ++ [.string (T t)] := by simp [strs]
            rw [e1, e2]
            exact h
          · intro hne; have := HQ.out; simp <;> omega
          · rw [HMM.out]; exact HCM.out
        case measure =>
          have e2 : restLen (w.heap.size + 1) (w9.setCell ⟨w.heap.size, 0, none⟩ (.slice A9 (k + 1) c9)) = M := by simp [restLen, HS9.out.b1.cell 0 rfl]
          rw [e2, HRL2.out]
          omega
      · obtain rfl : c1 = q + 1 := by omega
        obtain rfl : M = 0 := HM0.out rfl
        skip
        go_wp2_with fail
        with_reducible refine HC.out.mono ?_
        intro e w5 h5
        obtain ⟨off5, A5, c5, v5, rfl, S5⟩ := h5
        have HI5 := S5.bel
        have hid : Idle s sep com w5 := (ScE.idle ⟨_, _, _, _, S5⟩).1
        have S6 := HS4.out.bel' HI5 hid
        obtain ⟨g4, c4, rfl, _, _, _, _, _, hnk⟩ := own_data S5.own HST.out.ne
        clear hnk
        have y0 : w5.cell? ⟨w.heap.size, 0, none⟩ = some (.slice Ao k co) := S6.b0.cell 0 rfl
        have y1 : w5.cell? ⟨w.heap.size + 1, 0, none⟩ = some (.slice (some ⟨g, zs.length, none⟩) N (q + 1)) := S6.b1.cell 0 rfl
        have fy0 := S6.b0.free 0; have fy1 := S6.b1.free 0
        have S7 := S6.put1 (.slice (some ⟨g, zs.length, none⟩) 0 0)
        have hw8 : w.heap.size + 1 < wr.heap.size := HS4.out.b1.lt
        have hcv := own_str (own_set_lt (p := ⟨w.heap.size + 1, 0, none⟩) S5.own hw8 (.slice (some ⟨g, zs.length, none⟩) 0 0)) (by have := HST.out.len; have := HQ.out; omega)
        obtain ⟨k4, hk4⟩ : ∃ k, t.length = k := ⟨_, rfl⟩
        rw [hk4] at hcv ⊢
        have HS8 := Hd.mk (S7.alloc (.cells #[.string (T t)] 9))
        have hh := Hd.mk (Blk.new (w5.setCell ⟨w.heap.size + 1, 0, none⟩ (.slice (some ⟨g, zs.length, none⟩) 0 0)) #[.string (T t)] 9)
        rw [HQ.out]
        clear S5 HI5 hid S6 S7 HC x0 x1 fx0 fx1 HS4 hw8 hk4
        go_wp2_with (at_builtin; refine wpList_append_one rfl (.tmp 37) (.tmp 40) 28 rfl Tryd.underlying28 J.out.1 J.out.2.1 J.out.2.2.1 J.out.2.2.2 rfl rfl HS8.out.out (by simp [Act.eval, Act.put]) hh.out rfl (by unfold maxLen; omega) (by omega) (by have := HS8.out.b2.lt; omega) ?_)
        intro v9 w9 own9 g9
        obtain ⟨A9, c9, rfl, _, _⟩ := own_slice own9
        have HS9 := Hd.mk (HS8.out.grow g9 own9)
        have b9 := HS8.out.b0.grown_lt HS8.out.out (by omega) g9
        have z0 : w9.cell? ⟨w.heap.size, 0, none⟩ = some (.slice Ao k co) := b9.cell 0 rfl
        have fz0 := b9.free 0
        clear own9 g9 b9 hh hcv y0 y1 fy0 fy1
        go_wp2
        go_roundw
        case rel =>
          refine ⟨L1 ++ [(l, t)], L2, .slice A9 (k + 1) c9, .slice (some ⟨g, zs.length, none⟩) 0 0, by rw [HLL.out]; simp, ?_, ⟨zs ++ (l ++ [sep]), some ⟨g, zs.length, none⟩, 0, by rw [HRR.out, HXZ.out]; simp, by rw [HMM.out], ?_, ?_⟩⟩
          · have h := HS9.out
            have e1 : (L1 ++ [(l, t)]).length = k + 1 := by have := HK.out; simp; omega
            have e2 : strs (L1 ++ [(l, t)]) = strs L1 ++ [.string (T t)] := by simp [strs]
            rw [e1, e2]
            exact h
          · intro hne; exact absurd (List.eq_nil_of_length_eq_zero HMM.out) hne
          · rw [HMM.out]; simp [maxLen]
        case measure =>
          have e2 : restLen (w.heap.size + 1) (w9.setCell ⟨w.heap.size, 0, none⟩ (.slice A9 (k + 1) c9)) = 0 := by simp [restLen, HS9.out.b1.cell 0 rfl]
          rw [e2, HRL2.out]
          omega
end Go.Proofs.YtfbdbbkodgijiaaDoor.Kb
