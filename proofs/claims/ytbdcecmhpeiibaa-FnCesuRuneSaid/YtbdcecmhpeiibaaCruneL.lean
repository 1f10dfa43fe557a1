/- FnCesuRune: a character, written. -/
import Derived.Test.YtbdcecmhpeiibaaCruneB
namespace Go.Proofs.Ytbdcecmhpeiibaa.Kb
open Go Go.RowKit
set_option linter.unusedVariables false
set_option linter.unusedSimpArgs false
set_option maxHeartbeats 2000000
theorem encC_len (r : Int) : (encC r).length ≤ 6 ∧ 0 < (encC r).length := by
  unfold encC
  split
  · have := encU_len r; omega
  · simp
theorem encC_byte (r : Int) (h0 : 0 ≤ r) (h1 : r ≤ 1114111) : ∀ x ∈ encC r, 0 ≤ x ∧ x < 256 := by
  unfold encC encU enc1 hiS loS
  intro x hx
  repeat' split at hx
  all_goals
    simp at hx
    omega
theorem splice_at0 (Z : List Value) (l : List Int) (i : Nat) (hi : i < l.length) (hZ : l.length ≤ Z.length) : (splice Z 0 (bc l)).toArray[i]? = some (.int .u8 (l[i]'hi)) := by
  simp [splice, List.getElem?_append, hi]
/-- Bytes out of a block. -/
theorem rd_blk {w : World} {g : Nat} {cs : Array Value} {t : TypeId} (h : Blk w g cs t) (xs : List Int) (hs : xs.length ≤ 140737488351232) (hx : ∀ j (hj : j < xs.length), cs[j]? = some (.int .u8 xs[j])) : Rd w [] (some ⟨g, 0, none⟩) xs.length xs :=
  ⟨rfl, hs, fun j hj => ⟨_, rfl, h.cellz j (hx j hj), h.lt, by simp⟩⟩
theorem catch_ceEncode (a0 a1 : Value) (w : World) :
    CallsD Try.prog 19 #[a0, a1] .returning w fun e u' w' => e = .returned (.tuple #[]) ∧ u' = .returning ∧ w' = w := by
  refine callsD_of_wpS Try.func19 rfl fun c₀ cs hu => ?_
  apply wpS_seq
  apply wpS_region
  simp [wpOpsS, go_sem, recoverD, hu, Try.ntmps19, Exit.thenS]
  refine wpS_cond (t := false) (by simp [Act.eval, Array.replicate]) ?_
  simp only [Bool.false_eq_true, if_false]
  refine wpS_of_wp (wp_skip ?_)
  cases c₀
  simp_all [bodyPostS, results, Try.results19]
theorem left_ceEncode {W : World} {g : Nat} {a0 a1 : Value} {t0 t1 : TypeId} (v0 v1 : Value) (q0 : Blk W (g) #[a0] t0) (q1 : Blk W (g + 1) #[a1] t1) (w : World) (hg : w.heap.size ≤ g) (hb : Below w.heap.size w W)
    (V : World) (hV : V = ((W.setCell ⟨g, 0, none⟩ v0).setCell ⟨g + 1, 0, none⟩ v1)) :
    V.cell? ⟨g, 0, none⟩ = some v0 ∧ V.cell? ⟨g + 1, 0, none⟩ = some v1 ∧ Below w.heap.size w V ∧ (∀ G cs U, Blk W G cs U → G ≠ g → G ≠ g + 1 → Blk V G cs U) ∧ Bel w.heap.size [] w V := by
  subst hV
  refine ⟨?_, ?_, ((hb.setCell (p := ⟨g, 0, none⟩) (by simp <;> omega) v0).setCell (p := ⟨g + 1, 0, none⟩) (by simp <;> omega) v1), ?_, Bel.of ((hb.setCell (p := ⟨g, 0, none⟩) (by simp <;> omega) v0).setCell (p := ⟨g + 1, 0, none⟩) (by simp <;> omega) v1)⟩
  · exact ((q0.set 0 v0).set_ne (p := ⟨g + 1, 0, none⟩) (by simp <;> omega) v1).cell 0 rfl
  · exact ((q1.set_ne (p := ⟨g, 0, none⟩) (by simp <;> omega) v0).set 0 v1).cell 0 rfl
  · intro G cs U h n0 n1
    exact ((h.set_ne (p := ⟨g, 0, none⟩) (Ne.symm n0) v0).set_ne (p := ⟨g + 1, 0, none⟩) (Ne.symm n1) v1)
/-- What Cesu8EncodeRune answers. -/
def DoorOut (w : World) (xs : List Int) (e : Ending) (w' : World) : Prop := ∃ A c, e = .returned (.tuple #[.slice (some A) xs.length c, .int .i64 0]) ∧ Rd w' [] (some A) xs.length xs ∧ xs.length ≤ c ∧ c ≤ maxLen ∧ Below w.heap.size w w'
set_option maxRecDepth 100000 in
theorem ceEncode (r : Int) (w : World) (h0 : 0 ≤ r) (h1 : r ≤ 1114111) :
    Calls Try.prog 7 #[.int .i32 r] w fun e w' => DoorOut w (encC r) e w' := by
  have hmf : ∀ (fn : Fn) (first cap : Array Value) (w : World), (Instr.makeFunc fn first cap).run Try.prog w = .ok (.func fn first cap) w := fun _ _ _ _ => rfl
  have hB : Below w.heap.size w ((w.alloc (.cells #[.slice none 0 0] 23)).alloc (.cells #[.int .i64 0] 3)) := (((Below.refl _ _).alloc (by simp <;> omega) _).alloc (by simp <;> omega) _)
  have g0 := ((Blk.new w #[.slice none 0 0] 23).alloc (.cells #[.int .i64 0] 3))
  have g1 := (Blk.new (w.alloc (.cells #[.slice none 0 0] 23)) #[.int .i64 0] 3)
  simp only [World.size_alloc] at g0 g1
  have HB := Hd.mk hB; have G0 := Hd.mk g0; have G1 := Hd.mk g1
  have C := Hd.mk (fun (w1 : World) (hg : Blk w1 (w.heap.size + 1 + 1) (zs 6 (.int .u8 0)).toArray 5) => cesu_enc (w.heap.size + 1 + 1) 0 6 6 (zs 6 (.int .u8 0)) 5 r w1 hg (by have := encC_len r; simp [zs_len]; omega) (encC_len r).1 (by decide) h0 h1)
  have hL := (encC_len r).1
  obtain ⟨xs, hxs⟩ : ∃ xs, encC r = xs := ⟨_, rfl⟩
  rw [hxs] at hL ⊢
  simp only [hxs] at C
  obtain ⟨k, hk⟩ : ∃ k, xs.length = k := ⟨_, rfl⟩
  rw [hk] at hL
  have HK := Hd.mk hk
  clear hxs hk hB g0 g1
  go_enter_defers Try.func7, Try.ntmps7
  go_wp2_with (refine wpList_make_z rfl _ _ 23 rfl 5 (.int .u8 0) 1 Try.underlying23 infoB rfl .i64 .i64 6 6 6 rfl rfl rfl rfl (by decide) (by decide) ?_)
  intro w1 hb hl hs
  have C1 := Hd.mk (C.out w1 hb)
  have HB1 := Hd.mk (HB.out.trans (hl.mono (by omega))); have HS := Hd.mk hs
  have K0 := Hd.mk (G0.out.below hl (by omega)); have K1 := Hd.mk (G1.out.below hl (by omega))
  clear hb hl C G0 G1 HB
  go_wp2_with fail
  with_reducible refine C1.out.mono ?_
  rintro e w2 ⟨rfl, hr, hb⟩
  rw [hs] at hb
  have n0 := K0.out.bel hb (by omega) (by simp <;> omega)
  have n1 := K1.out.bel hb (by omega) (by simp <;> omega)
  have HB2 := Hd.mk (HB1.out.trans (Bel.to' (hb.weak (B' := w.heap.size + 1 + 1) (by omega) (S' := [w.heap.size + 1 + 1]) (fun x hx _ => hx)) (by simp) |>.mono (by omega)))
  have HR := Hd.mk hr
  have f0 := n0.free 0; have f1 := n1.free 0
  have x0 : w2.cell? ⟨w.heap.size, 0, none⟩ = some (.slice none 0 0) := n0.cell 0 rfl
  have x1 : w2.cell? ⟨w.heap.size + 1, 0, none⟩ = some (.int .i64 0) := n1.cell 0 rfl
  have N0 := Hd.mk n0; have N1 := Hd.mk n1
  rw [HK.out]
  clear hb hr n0 n1 K0 K1 C1 HB1 hs HS
  go_wp2
  obtain ⟨V, hV⟩ : ∃ V, V = ((w2.setCell ⟨w.heap.size, 0, none⟩ (.slice (some ⟨w.heap.size + 1 + 1, 0, none⟩) k 6)).setCell ⟨w.heap.size + 1, 0, none⟩ (.int .i64 0)) := ⟨_, rfl⟩
  rw [← hV]
  obtain ⟨y0, y1, hbl, hkeep, _⟩ := left_ceEncode (.slice (some ⟨w.heap.size + 1 + 1, 0, none⟩) k 6) (.int .i64 0) N0.out N1.out w (Nat.le_refl _) HB2.out V hV
  have hR := hkeep _ _ _ HR.out (by omega) (by omega)
  clear hV hkeep
  refine leaves_cons (f := 19) (args := #[.pointer (some ⟨w.heap.size, 0, none⟩), .pointer (some ⟨w.heap.size + 1, 0, none⟩)]) (by simp) (by simp [go_sem]) ?_
  refine (catch_ceEncode _ _ _).mono ?_
  rintro e u' w'' ⟨rfl, rfl, rfl⟩
  simp [Leaves, settle, results, Try.results7, go_sem, y0, y1]
  have hk := HK.out
  have hrd := rd_blk hR xs (by omega) (fun j hj => by
    rw [splice_at0 _ _ _ hj (by simp [zs_len] <;> omega)])
  refine ⟨⟨w.heap.size + 1 + 1, 0, none⟩, 6, by rw [hk], hrd, by omega, by decide, hbl⟩

set_option maxRecDepth 100000 in
theorem ceRuneLen (r : Int) (w : World) (h0 : 0 ≤ r) (h1 : r ≤ 1114111) :
    Calls Try.prog 8 #[.int .i32 r] w fun e w' => e = .returned (.int .i64 (lenC r)) ∧ w' = w := by
  have C := Hd.mk (runeLen r w h0 h1)
  go_enter Try.func8, Try.ntmps8
  go_wp2_with fail
  with_reducible refine C.out.mono ?_
  rintro e w2 ⟨rfl, rfl⟩
  clear C
  go_wp2
  go_ret
  exact ⟨rfl, rfl⟩
set_option maxRecDepth 100000 in
theorem FnCesuRune (a : Int) (w : World) (hw : (Lit.int .i32 a).wf = true) :
    Calls Try.prog 3 #[.int .i32 a] w fun e w' => e = .returned (.bool true) ∧ Below w.heap.size w w' := by
  obtain ⟨x, hx⟩ : ∃ x, a % 4294967296 % 1114112 = x := ⟨_, rfl⟩
  have x0 : 0 ≤ x := by omega
  have x1 : x ≤ 1114111 := by omega
  have hm : (a % 4294967296).tmod 1114112 = x := by rw [Int.tmod_eq_emod_of_nonneg (by omega)]; exact hx
  have hw32 : wrap32 x = x := by unfold wrap32; omega
  have C := Hd.mk (ceEncode x w x0 x1)
  have HX := Hd.mk hx
  clear hx hw
  go_enter Try.func3, Try.ntmps3
  go_wp2_with fail
  with_reducible refine C.out.mono ?_
  rintro e w1 ⟨A, c, rfl, hr, hc, hcm, hb⟩
  have s1 := str_run (P := Try.prog) (src := 23) (dst := 9) (c := c) Try.underlying23 Try.underlying5 Try.underlying9 (hr.below (Below.refl _ _).drew)
  have R1 := Hd.mk hr; have HB := Hd.mk hb
  clear hr hb hc hcm C
  obtain ⟨xs, hxs⟩ : ∃ xs, encC x = xs := ⟨_, rfl⟩
  obtain ⟨l, hl⟩ : ∃ l, lenC x = l := ⟨_, rfl⟩
  have C1 := Hd.mk (fun w => ceRuneLen x w x0 x1)
  have C2 := Hd.mk (fun w => ceLen x w x0 x1)
  have C3 := Hd.mk (fun w => ceRune x w x0 x1)
  rw [hxs] at s1 R1
  simp only [hl] at C1 C2
  simp only [hxs] at C3
  simp only [hxs]
  clear hxs hl
  go_wp2_with fail
  go_region_with (first | (go_at_call 8; (with_reducible refine (C1.out _).mono ?_); rintro e w2 ⟨rfl, rfl⟩) | (go_at_call 9; (with_reducible refine (C2.out _).mono ?_); rintro e w2 ⟨rfl, rfl⟩) | (go_at_call 10; (with_reducible refine (C3.out _).mono ?_); rintro e w2 ⟨A2, c2, rfl, r2, _, _, hb2⟩; have s2 := str_run (P := Try.prog) (src := 23) (dst := 9) (c := c2) Try.underlying23 Try.underlying5 Try.underlying9 r2; have s3 := str_run (P := Try.prog) (src := 23) (dst := 9) (c := c) Try.underlying23 Try.underlying5 Try.underlying9 ((R1.out.below (Below.refl _ _).drew).below hb2); have HB2 := Hd.mk (HB.out.drew.trans (hb2.mono HB.out.drew.size)); clear r2 hb2))
  all_goals
    go_wp2
    go_ret
    exact ⟨by simp [Act.put], HB2.out⟩
end Go.Proofs.Ytbdcecmhpeiibaa.Kb
