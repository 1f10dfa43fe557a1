/- impl.CommandBytes. -/
import Derived.Test.YtmgckcngedpgoaaDoorCmE
import Derived.Defers
import Derived.Recover
namespace Go.Proofs.YtmgckcngedpgoaaDoor.Kb
open Go Go.RowKit
set_option linter.unusedVariables false
set_option linter.unusedSimpArgs false
set_option maxHeartbeats 2000000
set_option maxRecDepth 100000 in
theorem cmdSize (g off n c : Nat) (F : List Int) (w : World) (hr : Rd w [] (some ⟨g, off, none⟩) n (uB F)) (hnc : n ≤ c) (hc : c ≤ 9223372036854775807) (hn : n ≤ 100000) (hT : Go.Lib.Utf8Tabs 3 4 w) (hw2 : 4 + 1 ≤ w.heap.size) (hF : ∀ r ∈ F, good r) :
    Calls Tryd.prog 40 #[.slice (some ⟨g, off, none⟩) n c] w fun e w' => e = .returned (.int .i64 (cB F).length) ∧ Below w.heap.size w w' := by
  have C := Hd.mk (ceSize g off n c F w hr hnc hc hn hT hw2 hF)
  clear hr hT hF
  go_enter Tryd.func40, Tryd.ntmps40
  go_wp2_with fail
  with_reducible refine C.out.mono ?_
  rintro e w2 ⟨rfl, hb⟩
  have HB := Hd.mk hb
  clear hb C
  go_wp2
  go_ret
  exact ⟨rfl, HB.out⟩
/-- What the door over a command needs: an Encoder, its transformer, and a text. -/
structure CmH (K : EK) (tb g n c : Nat) (F : List Int) (w : World) (out : List Int) : Prop where
  enc : Enc K w out
  ftr : K.tr = .iface 106 (.pointer (some ⟨tb, 0, none⟩))
  ftb : Blk w tb #[.nilFunc] 139
  tbB : tb < K.B
  t1 : tb ≠ K.sb
  t2 : tb ≠ K.wr
  rd : Rd w [] (some ⟨g, 0, none⟩) n (uB F)
  far : 0 < n → g < K.B ∧ g ∉ [K.sb, K.wr]
  nc : n ≤ c
  cc : c ≤ 9223372036854775807
  nn : n ≤ 100000
  oo : out.length + 2 * n ≤ 1000000000
  tabs : Go.Lib.Utf8Tabs 3 4 w
  q1 : 4 + 1 ≤ K.sb
  q2 : 4 + 1 ≤ K.wr
  gd : ∀ r ∈ F, good r
theorem CmH.below {K : EK} {tb g n c : Nat} {F out : List Int} {w w' : World} (h : CmH K tb g n c F w out) (hb : Below w.heap.size w w') : CmH K tb g n c F w' out := by
  obtain ⟨h1, h2, h3, h4, h5, h6, h7, h8, h9, h10, h11, h12, h13, h14, h15, h16⟩ := h
  exact ⟨h1.belowE hb, h2, h3.below hb h3.lt, h4, h5, h6, h7.below hb, h8, h9, h10, h11, h12, tabs_below h13 hb (by have := h1.l2; have := h1.le; omega), h14, h15, h16⟩
theorem CmH.call {K : EK} {tb g n c : Nat} {F out : List Int} {w : World} (h : CmH K tb g n c F w out) :
    Calls Tryd.prog 59 #[.pointer (some ⟨K.e, 0, none⟩), .slice (some ⟨g, 0, none⟩) n c] w fun e w' => e = .returned (.tuple #[.int .i64 (cB F).length, .nilIface]) ∧ Wrote K w out (cB F) w' :=
  E_Cesu K out tb g n c _ F w h.enc h.ftr h.ftb h.rd h.far h.nc h.cc h.nn h.oo h.tabs h.q1 h.q2 h.gd
set_option maxRecDepth 100000 in
theorem cmdEncode (K : EK) (tb g n c : Nat) (F out : List Int) (w : World) (h : CmH K tb g n c F w out) :
    Calls Tryd.prog 41 #[.slice (some ⟨g, 0, none⟩) n c, .pointer (some ⟨K.e, 0, none⟩)] w fun e w' => e = .returned .nilIface ∧ Wrote K w out (cB F) w' := by
  have C := Hd.mk h.call
  clear h
  go_enter Tryd.func41, Tryd.ntmps41
  go_wp2_with fail
  with_reducible refine C.out.mono ?_
  rintro e w2 ⟨rfl, hb⟩
  have HB := Hd.mk hb
  clear hb C
  go_wp2
  go_ret
  exact ⟨rfl, HB.out⟩
set_option maxRecDepth 100000 in
theorem zzCommand (K : EK) (tb g n c : Nat) (F out : List Int) (w : World) (h : CmH K tb g n c F w out) :
    Calls Tryd.prog 24 #[.pointer (some ⟨K.e, 0, none⟩), .slice (some ⟨g, 0, none⟩) n c] w fun e w' => e = .returned (.tuple #[.int .i64 (cB F).length, .nilIface]) ∧ Wrote K w out (cB F) w' := by
  have C1 := Hd.mk (cmdSize g 0 n c F w h.rd h.nc h.cc h.nn h.tabs (by have := h.q1; have := h.enc.l2; have := h.enc.le; omega) h.gd)
  have H := Hd.mk h
  clear h
  go_enter Tryd.func24, Tryd.ntmps24
  go_wp2_with fail
  with_reducible refine C1.out.mono ?_
  rintro e w2 ⟨rfl, hb⟩
  have H2 := Hd.mk (H.out.below hb)
  have HB := Hd.mk (show Bel K.B [K.sb, K.wr] w w2 from (show Bel w.heap.size [] w w2 from Bel.of hb).weak H.out.enc.le (fun z hz _ => by simp at hz))
  have C2 := Hd.mk (cmdEncode K tb g n c F out w2 H2.out)
  clear hb C1
  go_wp2_with fail
  with_reducible refine C2.out.mono ?_
  rintro e w3 ⟨rfl, hw⟩
  have HW := Hd.mk (wrote_of HB.out hw)
  clear hw C2
  go_wp2
  go_ret2
  exact ⟨rfl, HW.out⟩
theorem catch_cmdBytes (a b c : Value) (w : World) :
    CallsD Tryd.prog 23 #[a, b, c] .returning w fun e u' w' => e = .returned (.tuple #[]) ∧ u' = .returning ∧ w' = w := by
  refine callsD_of_wpS Tryd.func23 rfl fun c₀ cs hu => ?_
  apply wpS_seq
  apply wpS_region
  simp [wpOpsS, go_sem, recoverD, hu, Tryd.ntmps23, Exit.thenS]
  refine wpS_cond (t := false) (by simp [Act.eval, Array.replicate]) ?_
  simp only [Bool.false_eq_true, if_false]
  refine wpS_of_wp (wp_skip ?_)
  cases c₀
  simp_all [bodyPostS, results, Tryd.results23]
/-- Three result cells: bytes and two numbers. -/
structure C3 (w0 : World) (r : Nat) (u0 u1 u2 : Value) (W : World) : Prop where
  b0 : Blk W r #[u0] 24
  b1 : Blk W (r + 1) #[u1] 3
  b2 : Blk W (r + 1 + 1) #[u2] 3
  bel : Below w0.heap.size w0 W
  le : w0.heap.size ≤ r
section
variable {w0 W W' : World} {r : Nat} {u0 u1 u2 : Value}
theorem C3.on (h : C3 w0 r u0 u1 u2 W) (hb : Below W.heap.size W W') : C3 w0 r u0 u1 u2 W' :=
  ⟨h.b0.below hb h.b0.lt, h.b1.below hb h.b1.lt, h.b2.below hb h.b2.lt, h.bel.trans (hb.mono h.bel.size), h.le⟩
theorem C3.drew (h : C3 w0 r u0 u1 u2 W) : C3 w0 r u0 u1 u2 W.drew := ⟨h.b0.drew, h.b1.drew, h.b2.drew, h.bel.drew, h.le⟩
theorem C3.s0 (h : C3 w0 r u0 u1 u2 W) (v : Value) : C3 w0 r v u1 u2 (W.setCell ⟨r, 0, none⟩ v) :=
  ⟨(h.b0.set 0 v).cast rfl, h.b1.set_ne (by simp) v, h.b2.set_ne (by simp <;> omega) v, h.bel.setCell h.le v, h.le⟩
theorem C3.s1 (h : C3 w0 r u0 u1 u2 W) (v : Value) : C3 w0 r u0 v u2 (W.setCell ⟨r + 1, 0, none⟩ v) :=
  ⟨h.b0.set_ne (by simp) v, (h.b1.set 0 v).cast rfl, h.b2.set_ne (by simp) v, h.bel.setCell (by have := h.le; simp; omega) v, h.le⟩
theorem C3.s2 (h : C3 w0 r u0 u1 u2 W) (v : Value) : C3 w0 r u0 u1 v (W.setCell ⟨r + 1 + 1, 0, none⟩ v) :=
  ⟨h.b0.set_ne (by simp <;> omega) v, h.b1.set_ne (by simp) v, (h.b2.set 0 v).cast rfl, h.bel.setCell (by have := h.le; simp; omega) v, h.le⟩
theorem C3.bel' (h : C3 w0 r u0 u1 u2 W) {B : Nat} {S : List Nat} (hb : Bel B S W W') (hB : r + 1 + 1 < B) (hS : ∀ x ∈ S, r + 1 + 1 < x) : C3 w0 r u0 u1 u2 W' := by
  have n0 : r ∉ S := fun h => by have := hS _ h; omega
  have n1 : r + 1 ∉ S := fun h => by have := hS _ h; omega
  have n2 : r + 1 + 1 ∉ S := fun h => by have := hS _ h; omega
  have hl := h.le
  exact ⟨h.b0.bel hb (by omega) n0, h.b1.bel hb (by omega) n1, h.b2.bel hb hB n2, (Bel.to' ((Bel.of h.bel).trans (hb.weak (B' := w0.heap.size) (by omega) (S' := S) (fun x hx _ => hx))) (fun x hx => by have := hS x hx; omega)), h.le⟩
end
theorem C3.start (w : World) : C3 w w.heap.size (.slice none 0 0) (.int .i64 0) (.int .i64 0) (((w.alloc (.cells #[.slice none 0 0] 24)).alloc (.cells #[.int .i64 0] 3)).alloc (.cells #[.int .i64 0] 3)) := by
  have g0 := (((Blk.new w #[.slice none 0 0] 24).alloc (.cells #[.int .i64 0] 3)).alloc (.cells #[.int .i64 0] 3))
  have g1 := ((Blk.new (w.alloc (.cells #[.slice none 0 0] 24)) #[.int .i64 0] 3).alloc (.cells #[.int .i64 0] 3))
  have g2 := Blk.new ((w.alloc (.cells #[.slice none 0 0] 24)).alloc (.cells #[.int .i64 0] 3)) #[.int .i64 0] 3
  simp only [World.size_alloc] at g0 g1 g2
  exact ⟨g0, g1, g2, (((Below.refl _ _).alloc (by simp <;> omega) _).alloc (by simp <;> omega) _).alloc (by simp <;> omega) _, Nat.le_refl _⟩
theorem rd_lt {w : World} {S : List Nat} {g off n : Nat} {xs : List Int} (h : Rd w S (some ⟨g, off, none⟩) n xs) (hn : 0 < n) : g < w.heap.size := by
  obtain ⟨ad, e1, _, e3, _⟩ := h.at_ 0 (by rw [h.len]; exact hn)
  cases e1
  exact e3
/-- What CommandBytes answers. -/
def CbOut (w : World) (xs : List Int) (e : Ending) (w' : World) : Prop := ∃ v, e = .returned (.tuple #[v, .int .i64 xs.length, .int .i64 0]) ∧ Made w xs (.returned v) w'
set_option maxRecDepth 100000 in
theorem cmdBytes (g n c : Nat) (F : List Int) (w : World) (hr : Rd w [] (some ⟨g, 0, none⟩) n (uB F)) (hnc : n ≤ c) (hc : c ≤ 9223372036854775807) (hn : n ≤ 20000) (hT : Go.Lib.Utf8Tabs 3 4 w) (hw2 : 4 + 1 ≤ w.heap.size) (hF : ∀ r ∈ F, good r) :
    Calls Tryd.prog 10 #[.slice (some ⟨g, 0, none⟩) n c] w fun e w' => CbOut w (cB F) e w' := by
  have hmf : ∀ (fn : Fn) (first cap : Array Value) (w : World), (Instr.makeFunc fn first cap).run Tryd.prog w = .ok (.func fn first cap) w := fun _ _ _ _ => rfl
  have R0 := Hd.mk (C3.start w)
  have HR := Hd.mk hr; have HT := Hd.mk hT; have HF := Hd.mk hF
  have CL := Hd.mk (show (cB F).length ≤ 2 * n by rw [← hr.len]; exact cb_le_ub F)
  have i1 : ¬ (20000 : Int) < n := by omega
  clear hr hT hF
  go_enter_defers Tryd.func10, Tryd.ntmps10
  go_wp2_with fail
  have hW := Blk.new (((w.alloc (.cells #[.slice none 0 0] 24)).alloc (.cells #[.int .i64 0] 3)).alloc (.cells #[.int .i64 0] 3)) #[.slice none 0 0] 60
  simp only [World.size_alloc] at hW
  have HW := Hd.mk hW
  have R1 := Hd.mk (R0.out.on ((Below.refl _ _).alloc (Nat.le_refl _) (.cells #[.slice none 0 0] 60)))
  clear hW
  with_reducible refine (encoder_new _ _).mono ?_
  intro e w2 k1
  obtain ⟨eb, sb, tb, rfl, he, p1, p2, p3, hl2⟩ := Enc0.of HW.out k1
  have R2 := Hd.mk (R1.out.on hl2)
  simp at p1 p2 p3
  have bb := R2.out.bel
  have CH := Hd.mk (show CmH ⟨eb, sb, w.heap.size + 1 + 1 + 1, .iface 106 (.pointer (some ⟨tb, 0, none⟩)), w2.heap.size⟩ tb g n c F w2 [] from
    ⟨Enc.start he.b1 he.b2 he.b3 he.n1 he.n2 he.n3, rfl, he.b4, he.b4.lt, he.n5, he.n6, HR.out.below bb, fun hn0 => ⟨Nat.lt_of_lt_of_le (rd_lt HR.out hn0) bb.size, by have := rd_lt HR.out hn0; simp; omega⟩, hnc, hc, by omega, by simp; omega, tabs_below HT.out bb hw2, by simp only []; omega, by simp only []; omega, HF.out⟩)
  have C := Hd.mk (zzCommand _ tb g n c F [] w2 CH.out)
  have lt2 := R2.out.b2.lt
  clear k1 he hl2 HW R1 bb
  go_wp2_with fail
  with_reducible refine C.out.mono ?_
  rintro e w3 ⟨rfl, hw⟩
  have hbw := hw.2
  obtain ⟨v, hv, hown, hbs⟩ := (Sent.of hw rfl rfl (Nat.le_refl _) (Below.refl _ _) : Sent w2 sb (w.heap.size + 1 + 1 + 1) _ w3)
  obtain ⟨A4, a4, b4, rfl⟩ := own_sliceE hown
  have R3 := Hd.mk (R2.out.bel' hbs lt2 (by simp; omega))
  have HV := Hd.mk hv; have HO := Hd.mk hown
  obtain ⟨L, hL⟩ : ∃ L, (cB F).length = L := ⟨_, rfl⟩
  have HL := Hd.mk hL
  have x0 := R3.out.b0.cell 0 rfl; have x1 := R3.out.b1.cell 0 rfl; have x2 := R3.out.b2.cell 0 rfl
  have f0 := R3.out.b0.free 0; have f1 := R3.out.b1.free 0; have f2 := R3.out.b2.free 0
  rw [hL]
  have s2 : w.heap.size + 3 < w2.heap.size := by have := HV.out.lt; have := CH.out.enc.l3; simp only [] at this; omega
  have CHH := Hd.mk CH.out.enc.l3
  clear hw hbw hv hown hbs C hL
  go_wp2_with fail
  have V1 := Hd.mk (show Blk (w3.setCell ⟨w.heap.size + 1, 0, none⟩ (.int .i64 L)) (w.heap.size + 1 + 1 + 1) #[.slice A4 a4 b4] 60 from HV.out.set_ne (by simp) _)
  have R4 := Hd.mk (R3.out.s1 (.int .i64 L))
  have O1 := Hd.mk (ownsRow_setCell_below HO.out (a := ⟨w.heap.size + 1, 0, none⟩) (by simp; omega) (.int .i64 L))
  obtain ⟨W, hW⟩ : ∃ W, W = w3.setCell ⟨w.heap.size + 1, 0, none⟩ (.int .i64 L) := ⟨_, rfl⟩
  rw [← hW] at V1 R4 O1 ⊢
  clear hW x0 x1 x2 f0 f1 f2
  have x0 := R4.out.b0.cell 0 rfl; have x1 := R4.out.b1.cell 0 rfl; have x2 := R4.out.b2.cell 0 rfl
  have f0 := R4.out.b0.free 0; have f1 := R4.out.b1.free 0; have f2 := R4.out.b2.free 0
  refine wp_region_noPanic ?_
  refine wp_region_held_drew (S := (fun V => V.cell? ⟨w.heap.size + 1 + 1 + 1, 0, none⟩ = some (.slice A4 a4 b4) ∧ V.cell? ⟨w.heap.size + 1, 0, none⟩ = some (.int .i64 L))) (by kernel_rfl) ?_ (fun hHeld => ?_)
  · exact ⟨V1.out.drew.cell 0 rfl, R4.out.drew.b1.cell 0 rfl⟩
  refine wpAnyH_take_d (i := 0) (some 22) (v := ?_) rfl rfl (by kernel_rfl) (by kernel_rfl) (by kernel_rfl) (fun _ _ _ h => h) (Or.inl ⟨by rfl, ?_⟩) hHeld ?_
  rotate_left
  · (intro w' hSw; (try dsimp only at hSw); go_simp; all_goals (with_reducible rfl))
  (try simp only [Act.put, List.setIfInBounds_toArray, List.set_cons_zero, List.set_cons_succ])
  refine wpAnyH_take_d (i := 1) (some 23) (v := ?_) rfl rfl (by kernel_rfl) (by kernel_rfl) (by kernel_rfl) (fun _ _ _ h => h) (Or.inl ⟨by rfl, ?_⟩) hHeld ?_
  rotate_left
  · (intro w' hSw; (try dsimp only at hSw); go_simp; all_goals (with_reducible rfl))
  (try simp only [Act.put, List.setIfInBounds_toArray, List.set_cons_zero, List.set_cons_succ])
  refine wpAnyH_take_d (i := 2) (some 24) (v := ?_) rfl rfl (by kernel_rfl) (by kernel_rfl) (by kernel_rfl) (fun _ _ _ h => h) (Or.inl ⟨by rfl, ?_⟩) hHeld ?_
  rotate_left
  · (intro w' hSw; (try dsimp only at hSw); go_simp; all_goals (with_reducible rfl))
  (try simp only [Act.put, List.setIfInBounds_toArray, List.set_cons_zero, List.set_cons_succ])
  refine wpAnyH_take_d (i := 3) (some 25) (v := ?_) rfl rfl (by kernel_rfl) (by kernel_rfl) (by kernel_rfl) (fun _ _ _ h => h) (Or.inl ⟨by rfl, ?_⟩) hHeld ?_
  rotate_left
  · (intro w' hSw; (try dsimp only at hSw); go_simp; all_goals (with_reducible rfl))
  (try simp only [Act.put, List.setIfInBounds_toArray, List.set_cons_zero, List.set_cons_succ])
  refine wpAnyH_take_d (i := 4) (some 26) (v := ?_) rfl rfl (by kernel_rfl) (by kernel_rfl) (by kernel_rfl) (fun _ _ _ h => h) (Or.inl ⟨by rfl, ?_⟩) hHeld ?_
  rotate_left
  · (intro w' hSw; (try dsimp only at hSw); go_simp; all_goals (with_reducible rfl))
  (try simp only [Act.put, List.setIfInBounds_toArray, List.set_cons_zero, List.set_cons_succ])
  refine wpAnyH_ready (rs := [5]) (by kernel_rfl) (by simp) ?_
  refine AllReadyH.cons rfl (fun KQ hK => ?_) AllReadyH.nil
  go_simp
  refine hK.out _ _ ?_ (fun hHeld => ?_)
  · exact ⟨(V1.out.drew.set_ne (p := ⟨w.heap.size, 0, none⟩) (by simp <;> omega) (.slice A4 a4 b4)).cell 0 rfl, (R4.out.drew.s0 (.slice A4 a4 b4)).b1.cell 0 rfl⟩
  clear hK KQ
  (try simp only [Act.put, List.setIfInBounds_toArray, List.set_cons_zero, List.set_cons_succ])
  refine wpAnyH_ready (rs := [6]) (by kernel_rfl) (by simp) ?_
  refine AllReadyH.cons rfl (fun KQ hK => ?_) AllReadyH.nil
  go_simp
  refine hK.out _ _ ?_ (fun hHeld => ?_)
  · exact ⟨((V1.out.drew.set_ne (p := ⟨w.heap.size, 0, none⟩) (by simp <;> omega) (.slice A4 a4 b4)).set_ne (p := ⟨w.heap.size + 1, 0, none⟩) (by simp <;> omega) (.int .i64 L)).cell 0 rfl, ((R4.out.drew.s0 (.slice A4 a4 b4)).s1 (.int .i64 L)).b1.cell 0 rfl⟩
  clear hK KQ
  (try simp only [Act.put, List.setIfInBounds_toArray, List.set_cons_zero, List.set_cons_succ])
  refine wpAnyH_ready (rs := [7]) (by kernel_rfl) (by simp) ?_
  refine AllReadyH.cons rfl (fun KQ hK => ?_) AllReadyH.nil
  go_simp
  refine hK.out _ _ ?_ (fun hHeld => ?_)
  · exact ⟨(((V1.out.drew.set_ne (p := ⟨w.heap.size, 0, none⟩) (by simp <;> omega) (.slice A4 a4 b4)).set_ne (p := ⟨w.heap.size + 1, 0, none⟩) (by simp <;> omega) (.int .i64 L)).set_ne (p := ⟨w.heap.size + 1 + 1, 0, none⟩) (by simp <;> omega) (.int .i64 0)).cell 0 rfl, (((R4.out.drew.s0 (.slice A4 a4 b4)).s1 (.int .i64 L)).s2 (.int .i64 0)).b1.cell 0 rfl⟩
  clear hK KQ
  (try simp only [Act.put, List.setIfInBounds_toArray, List.set_cons_zero, List.set_cons_succ])
  refine wpAnyH_done (by kernel_rfl) ?_ _
  refine NoPanic.normal ?_
  go_wp2_with fail
  have RF := (((R4.out.s0 (.slice A4 a4 b4)).s1 (.int .i64 L)).s2 (.int .i64 0)).drew
  have OF := own_below (ownsRow_setCell_below (ownsRow_setCell_below (ownsRow_setCell_below O1.out (a := ⟨w.heap.size, 0, none⟩) (by simp; omega) (.slice A4 a4 b4)) (a := ⟨w.heap.size + 1, 0, none⟩) (by simp; omega) (.int .i64 L)) (a := ⟨w.heap.size + 1 + 1, 0, none⟩) (by simp; omega) (.int .i64 0)) (Below.refl _ _).drew
  obtain ⟨V, hV⟩ : ∃ V, V = (((W.setCell ⟨w.heap.size, 0, none⟩ (.slice A4 a4 b4)).setCell ⟨w.heap.size + 1, 0, none⟩ (.int .i64 L)).setCell ⟨w.heap.size + 1 + 1, 0, none⟩ (.int .i64 0)).drew := ⟨_, rfl⟩
  rw [← hV] at RF OF ⊢
  clear hV
  have y0 := RF.b0.cell 0 rfl; have y1 := RF.b1.cell 0 rfl; have y2 := RF.b2.cell 0 rfl
  have hbl := RF.bel
  refine leaves_cons (f := 23) (args := #[.pointer (some ⟨w.heap.size, 0, none⟩), .pointer (some ⟨w.heap.size + 1, 0, none⟩), .pointer (some ⟨w.heap.size + 1 + 1, 0, none⟩)]) (by simp) (by simp [go_sem]) ?_
  refine (catch_cmdBytes _ _ _ _).mono ?_
  rintro e u' w'' ⟨rfl, rfl, rfl⟩
  simp [Leaves, settle, results, Tryd.results10, go_sem, y0, y1, y2]
  exact ⟨_, by rw [HL.out], _, rfl, own_base OF (by omega), hbl⟩
end Go.Proofs.YtmgckcngedpgoaaDoor.Kb
