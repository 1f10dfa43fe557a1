/- The command read back: impl.CommandOf. -/
import Derived.Test.YtmgckcngedpgoaaDoorCmD
import Derived.Lib.SliceRun
namespace Go.Proofs.YtmgckcngedpgoaaDoor.Kb
open Go Go.RowKit
set_option linter.unusedVariables false
set_option linter.unusedSimpArgs false
set_option maxHeartbeats 2000000
set_option maxRecDepth 100000 in
theorem resizeCmd (n : Nat) (w : World) (hn : n ≤ 100000) :
    Calls Tryd.prog 61 #[.slice none 0 0, .int .i64 n] w fun e w' => e = .returned (.slice (some ⟨w.heap.size, 0, none⟩) n n) ∧ Below w.heap.size w w' := by
  have hsn : ∀ (a : Option Addr) (l c : Nat) (w : World), (binOp .eql 88 (.slice a l c) (.slice none 0 0)).run Tryd.prog w = .ok (.bool a.isNone) w := fun a l c w => Lib.run_eql_slice_nil w 88 5 a l c 0 0 Tryd.underlying88
  go_enter Tryd.func61, Tryd.ntmps61
  go_wp2_with (refine wpList_make_z rfl _ _ 88 rfl 5 (.int .u8 0) 1 Tryd.underlying88 infoU8 rfl .i64 .i64 _ _ n rfl rfl rfl rfl (by omega) (by omega) ?_)
  intro w2 hb2 hl2 hs2
  have HL := Hd.mk hl2
  clear hb2 hl2 hs2
  go_wp2
  go_ret
  exact ⟨rfl, HL.out⟩
/-- A Decoder with its transformer, ahead of a text's bytes. -/
structure DcH (K : DK) (tb p n : Nat) (F : List Int) (w : World) : Prop where
  dec : Dec K w p .nilIface
  fit : p + n ≤ K.xs.length
  hx : (K.xs.drop p).take n = cB F
  nn : n ≤ 100000
  ftr : K.tr = .iface 92 (.pointer (some ⟨tb, 0, none⟩))
  ftb : Blk w tb #[.nilFunc] 128
  t1 : tb ≠ K.d
  t2 : tb ≠ K.sb
  tabs : Go.Lib.Utf8Tabs 3 4 w
  q1 : 4 + 1 ≤ K.d
  q2 : 4 + 1 ≤ K.sb
  gd : ∀ r ∈ F, good r
  pp : p ≤ 1000000000
theorem DcH.call {K : DK} {tb p n : Nat} {F : List Int} {w : World} (h : DcH K tb p n F w) :
    Calls Tryd.prog 62 #[.pointer (some ⟨K.d, 0, none⟩), .int .i64 n] w fun e w' => DcOut K w p n (uB F) e w' :=
  D_Cesu K tb p n _ F w h.dec h.fit h.hx h.nn h.ftr h.ftb h.t1 h.t2 h.tabs h.q1 h.q2 h.gd h.pp
theorem DcH.bel {K : DK} {tb p n : Nat} {F : List Int} {w w' : World} (h : DcH K tb p n F w) (hb : Below w.heap.size w w') : DcH K tb p n F w' := by
  obtain ⟨h1, h2, h3, h4, h5, h6, h7, h8, h9, h10, h11, h12, h13⟩ := h
  exact ⟨h1.bel (S := []) (Bel.of hb) (by simp) (by simp) (by simp), h2, h3, h4, h5, h6.below hb h6.lt, h7, h8, tabs_below h9 hb (by have := h1.b.blk.lt; omega), h10, h11, h12, h13⟩
/-- What decodeBufLen leaves: the command's slice. -/
def DbOut (K : DK) (cm : Nat) (w : World) (p n : Nat) (xs : List Int) (e : Ending) (w' : World) : Prop := ∃ g c, e = .returned .nilIface ∧ Blk w' cm #[.slice (some ⟨g, 0, none⟩) xs.length c] 88 ∧ xs.length ≤ c ∧ c ≤ maxLen ∧ Rd w' [] (some ⟨g, 0, none⟩) xs.length xs ∧ cm < g ∧ Dec K w' (p + n) .nilIface ∧ Bel w.heap.size [K.d, K.sb, cm] w w'
theorem Rd.also {w w' : World} {S S' : List Nat} {A : Option Addr} {n : Nat} {xs : List Int} (h : Rd w S A n xs) (h' : Rd w' S' A n xs) : Rd w S' A n xs := by
  refine ⟨h.len, h.small, fun j hj => ?_⟩
  obtain ⟨ad, h1, h2, h3, h4⟩ := h.at_ j hj
  obtain ⟨ad', g1, g2, g3, g4⟩ := h'.at_ j hj
  rw [h1] at g1
  cases g1
  exact ⟨ad, h1, h2, h3, g4⟩
set_option maxRecDepth 100000 in
theorem decodeCmd (K : DK) (tb cm p n : Nat) (F : List Int) (w : World) (h : DcH K tb p n F w) (hc : Blk w cm #[.slice none 0 0] 88) (d1 : cm ≠ K.d) (d2 : cm ≠ K.sb) (d3 : cm ≠ tb) (d4 : 4 + 1 ≤ cm) (d5 : Rd w [cm] K.ra K.xs.length K.xs) :
    Calls Tryd.prog 44 #[.pointer (some ⟨cm, 0, none⟩), .pointer (some ⟨K.d, 0, none⟩), .int .i64 n] w fun e w' => DbOut K cm w p n (uB F) e w' := by
  have C1 := Hd.mk (resizeCmd n w h.nn)
  have y0 := hc.cell 0 rfl
  have f0 := hc.free 0
  have clt := hc.lt
  have H := Hd.mk h; have HC := Hd.mk hc; have D5 := Hd.mk d5
  clear h hc d5
  go_enter Tryd.func44, Tryd.ntmps44
  go_wp2_with fail
  with_reducible refine C1.out.mono ?_
  rintro e w1 ⟨rfl, hb1⟩
  have HC1 := Hd.mk (HC.out.below hb1 HC.out.lt)
  have x1 := HC1.out.cell 0 rfl
  have f1 := HC1.out.free 0
  have BL := Hd.mk (show Bel w.heap.size [cm] w (w1.setCell ⟨cm, 0, none⟩ (.slice (some ⟨w.heap.size, 0, none⟩) n n)) from (Bel.of hb1).set (.inr (by simp)) _)
  have HC2 := Hd.mk (HC1.out.set 0 (.slice (some ⟨w.heap.size, 0, none⟩) n n))
  have y1 : (w1.setCell ⟨cm, 0, none⟩ (.slice (some ⟨w.heap.size, 0, none⟩) n n)).cell? ⟨cm, 0, none⟩ = some (.slice (some ⟨w.heap.size, 0, none⟩) n n) := HC2.out.cell 0 rfl
  have H2 := Hd.mk (show DcH K tb p n F (w1.setCell ⟨cm, 0, none⟩ (.slice (some ⟨w.heap.size, 0, none⟩) n n)) from by
    obtain ⟨h1, h2, h3, h4, h5, h6, h7, h8, h9, h10, h11, h12, h13⟩ := H.out
    refine ⟨h1.bel (S := [cm]) BL.out (by simp; exact Ne.symm d1) (by simp; exact Ne.symm d2) (fun x hx => .inr (by simp at hx; subst hx; exact D5.out)), h2, h3, h4, h5, h6.bel BL.out h6.lt (by simp; exact Ne.symm d3), h7, h8, tabs_belB h9 BL.out (by have := h1.b.blk.lt; omega) (by simp; exact d4), h10, h11, h12, h13⟩)
  have C2 := Hd.mk H2.out.call
  clear hb1 C1 y0 f0
  go_wp2_with fail
  obtain ⟨W, hW⟩ : ∃ W, W = w1.setCell ⟨cm, 0, none⟩ (.slice (some ⟨w.heap.size, 0, none⟩) n n) := ⟨_, rfl⟩
  rw [← hW] at BL HC2 H2 C2 ⊢
  clear hW x1 f1 y1
  with_reducible refine C2.out.mono ?_
  rintro e w3 ⟨g, cc, rfl, k1, k2, k3, k4, k5, k6⟩
  have HC3 := Hd.mk (HC2.out.bel k6 HC2.out.lt (by simp; exact ⟨d1, d2⟩))
  have x3 := HC3.out.cell 0 rfl
  have f3 := HC3.out.free 0
  have BL3 := Hd.mk (show Bel w.heap.size [K.d, K.sb, cm] w w3 from (BL.out.weak (Nat.le_refl _) (fun x hx _ => by simp at hx; subst hx; simp)).trans (k6.weak BL.out.size (fun x hx _ => by simp at hx; rcases hx with h | h <;> (rw [h]; simp))))
  have K1 := Hd.mk k1; have K2 := Hd.mk k2; have K3 := Hd.mk k3; have K5 := Hd.mk k5
  have cmg : cm < g := by have := BL.out.size; omega
  have KD := Hd.mk (show Dec K (w3.setCell ⟨cm, 0, none⟩ (.slice (some ⟨g, 0, none⟩) (uB F).length cc)) (p + n) .nilIface from k5.bel (S := [cm]) ((Bel.refl _ _ _).set (.inr (by simp)) _) (by simp; exact Ne.symm d1) (by simp; exact Ne.symm d2) (fun x hx => .inr (by
    simp at hx; subst hx
    exact k5.b.rd.also D5.out)))
  have BF := Hd.mk (show Bel w.heap.size [K.d, K.sb, cm] w (w3.setCell ⟨cm, 0, none⟩ (.slice (some ⟨g, 0, none⟩) (uB F).length cc)) from BL3.out.set (.inr (by simp)) _)
  have HCF := Hd.mk (HC3.out.set 0 (.slice (some ⟨g, 0, none⟩) (uB F).length cc))
  have RF := Hd.mk (show Rd (w3.setCell ⟨cm, 0, none⟩ (.slice (some ⟨g, 0, none⟩) (uB F).length cc)) [] (some ⟨g, 0, none⟩) (uB F).length (uB F) from by
    refine ⟨rfl, k3.small, fun j hj => ?_⟩
    obtain ⟨ad, e1, e2, e3, e4⟩ := k3.at_ j hj
    cases e1
    refine ⟨_, rfl, ?_, by simpa [World.setCell] using e3, by simp⟩
    rw [World.cell?_setCell_far _ _ _ _ (by rw [add_mk]; simp; omega)]
    exact e2)
  clear k1 k2 k3 k4 k5 k6 C2
  go_wp2_with fail
  obtain ⟨V, hV⟩ : ∃ V, V = w3.setCell ⟨cm, 0, none⟩ (.slice (some ⟨g, 0, none⟩) (uB F).length cc) := ⟨_, rfl⟩
  rw [← hV] at KD BF HCF RF ⊢
  clear hV x3 f3
  with_reducible refine (D_Error K _ _ .nilIface V KD.out.b).mono ?_
  rintro e w4 ⟨rfl, rfl⟩
  go_wp2_with fail
  go_ret
  exact ⟨g, cc, rfl, HCF.out.cast rfl, K1.out, K2.out, RF.out, cmg, KD.out, BF.out⟩
/-- What ZzCommandOf answers. -/
def ZoOut (K : DK) (w : World) (xs : List Int) (e : Ending) (w' : World) : Prop := ∃ g c, e = .returned (.tuple #[.slice (some ⟨g, 0, none⟩) xs.length c, .nilIface]) ∧ xs.length ≤ c ∧ c ≤ maxLen ∧ Rd w' [] (some ⟨g, 0, none⟩) xs.length xs ∧ w.heap.size ≤ g ∧ Bel w.heap.size [K.d, K.sb] w w'
set_option maxRecDepth 100000 in
theorem zzCommandOf (K : DK) (tb p n : Nat) (F : List Int) (w : World) (h : DcH K tb p n F w) :
    Calls Tryd.prog 27 #[.pointer (some ⟨K.d, 0, none⟩), .int .i64 n] w fun e w' => ZoOut K w (uB F) e w' := by
  have hb0 : Below w.heap.size w (w.alloc (.cells #[.slice none 0 0] 88)) := (Below.refl _ _).alloc (Nat.le_refl _) _
  have hd := h.dec.b.blk.lt
  obtain ⟨Z, hz, hZ⟩ := h.dec.sc
  have hs := hZ.lt
  have ht := h.ftb.lt
  have C := Hd.mk (decodeCmd K tb w.heap.size p n F _ (h.bel hb0) (Blk.new _ _ _) (by omega) (by omega) (by omega) (by have := h.q1; omega) ((h.dec.b.rd.more (S' := [w.heap.size]) (fun x hx _ => by simp at hx; omega)).below hb0))
  have HB0 := Hd.mk hb0
  clear h hb0 hz hZ
  go_enter Tryd.func27, Tryd.ntmps27
  go_wp2_with fail
  with_reducible refine C.out.mono ?_
  rintro e w2 ⟨g, cc, rfl, hcm, k1, k2, k3, k4, k5, k6⟩
  have y0 := hcm.cell 0 rfl
  have K1 := Hd.mk k1; have K2 := Hd.mk k2; have K3 := Hd.mk k3; have K4 := Hd.mk k4
  have BL := Hd.mk (show Bel w.heap.size [K.d, K.sb] w w2 from ((show Bel w.heap.size [] w _ from Bel.of HB0.out).weak (Nat.le_refl _) (fun x hx _ => by simp at hx)).trans (k6.weak HB0.out.size (fun x hx hlt => by simp at hx; rcases hx with h | h | h <;> first | omega | (rw [h]; simp))))
  clear hcm k1 k2 k3 k4 k5 k6 C
  go_wp2_with fail
  go_ret2
  exact ⟨g, cc, rfl, K1.out, K2.out, K3.out, Nat.le_of_lt K4.out, BL.out⟩
theorem catch_cmdOf (a b : Value) (w : World) :
    CallsD Tryd.prog 26 #[a, b] .returning w fun e u' w' => e = .returned (.tuple #[]) ∧ u' = .returning ∧ w' = w := by
  refine callsD_of_wpS Tryd.func26 rfl fun c₀ cs hu => ?_
  apply wpS_seq
  apply wpS_region
  simp [wpOpsS, go_sem, recoverD, hu, Tryd.ntmps26, Exit.thenS]
  refine wpS_cond (t := false) (by simp [Act.eval, Array.replicate]) ?_
  simp only [Bool.false_eq_true, if_false]
  refine wpS_of_wp (wp_skip ?_)
  cases c₀
  simp_all [bodyPostS, results, Tryd.results26]
/-- What CommandOf answers. -/
def CoOut (w : World) (xs : List Int) (e : Ending) (w' : World) : Prop := ∃ v, e = .returned (.tuple #[v, .int .i64 0]) ∧ Made w xs (.returned v) w'
/-- Two result cells: bytes and a number. -/
structure C2 (w0 : World) (r : Nat) (u0 u1 : Value) (W : World) : Prop where
  b0 : Blk W r #[u0] 24
  b1 : Blk W (r + 1) #[u1] 3
  bel : Below w0.heap.size w0 W
  le : w0.heap.size ≤ r
section
variable {w0 W W' : World} {r : Nat} {u0 u1 : Value}
theorem C2.on (h : C2 w0 r u0 u1 W) (hb : Below W.heap.size W W') : C2 w0 r u0 u1 W' :=
  ⟨h.b0.below hb h.b0.lt, h.b1.below hb h.b1.lt, h.bel.trans (hb.mono h.bel.size), h.le⟩
theorem C2.s0 (h : C2 w0 r u0 u1 W) (v : Value) : C2 w0 r v u1 (W.setCell ⟨r, 0, none⟩ v) :=
  ⟨(h.b0.set 0 v).cast rfl, h.b1.set_ne (by simp) v, h.bel.setCell h.le v, h.le⟩
theorem C2.s1 (h : C2 w0 r u0 u1 W) (v : Value) : C2 w0 r u0 v (W.setCell ⟨r + 1, 0, none⟩ v) :=
  ⟨h.b0.set_ne (by simp) v, (h.b1.set 0 v).cast rfl, h.bel.setCell (by have := h.le; simp; omega) v, h.le⟩
theorem C2.bel' (h : C2 w0 r u0 u1 W) {B : Nat} {S : List Nat} (hb : Bel B S W W') (hB : r + 1 < B) (hS : ∀ x ∈ S, r + 1 < x) : C2 w0 r u0 u1 W' := by
  have n0 : r ∉ S := fun h => by have := hS _ h; omega
  have n1 : r + 1 ∉ S := fun h => by have := hS _ h; omega
  have hl := h.le
  exact ⟨h.b0.bel hb (by omega) n0, h.b1.bel hb hB n1, (Bel.to' ((Bel.of h.bel).trans (hb.weak (B' := w0.heap.size) (by omega) (S' := S) (fun x hx _ => hx))) (fun x hx => by have := hS x hx; omega)), h.le⟩
end
theorem C2.start (w : World) : C2 w w.heap.size (.slice none 0 0) (.int .i64 0) ((w.alloc (.cells #[.slice none 0 0] 24)).alloc (.cells #[.int .i64 0] 3)) := by
  have g0 := (Blk.new w #[.slice none 0 0] 24).alloc (.cells #[.int .i64 0] 3)
  have g1 := Blk.new (w.alloc (.cells #[.slice none 0 0] 24)) #[.int .i64 0] 3
  simp only [World.size_alloc] at g1
  exact ⟨g0, g1, ((Below.refl _ _).alloc (by simp <;> omega) _).alloc (by simp <;> omega) _, Nat.le_refl _⟩
set_option maxRecDepth 100000 in
theorem cmdOf (A : Option Addr) (n c : Nat) (F : List Int) (w : World) (hr : Rd w [] A n (cB F)) (hnc : n ≤ c) (hc : c ≤ maxLen) (hn : n ≤ 20000) (hT : Go.Lib.Utf8Tabs 3 4 w) (hw2 : 4 + 1 ≤ w.heap.size) (hF : ∀ r ∈ F, good r) :
    Calls Tryd.prog 11 #[.slice A n c, .int .i64 n] w fun e w' => CoOut w (uB F) e w' := by
  have hmf : ∀ (fn : Fn) (first cap : Array Value) (w : World), (Instr.makeFunc fn first cap).run Tryd.prog w = .ok (.func fn first cap) w := fun _ _ _ _ => rfl
  obtain ⟨i0, hi, hz0, hz1, hz2⟩ := info_of infoU8
  have I := Hd.mk (And.intro hi (And.intro hz0 (And.intro hz1 hz2)))
  have R0 := Hd.mk (C2.start w)
  have C := Hd.mk (decoder_new A n c (cB F) false false _ (hr.below R0.out.bel) hnc hc (cB_byte hF))
  have HT := Hd.mk hT; have HF := Hd.mk hF; have LN := Hd.mk hr.len
  have UL := Hd.mk (ub_le_cb F)
  have i1 : ¬ (n : Int) < 0 := by omega
  have i2 : ¬ (20000 : Int) < n := by omega
  have i3 : ¬ (40000 : Int) < n := by omega
  clear hr hT hF hi hz0 hz1 hz2
  go_enter_defers Tryd.func11, Tryd.ntmps11
  go_wp2_with fail
  with_reducible refine C.out.mono ?_
  intro e w1 k1
  obtain ⟨K, rfl, _, _, k4, _, _, l1, l2, ⟨tb, t1, t2, t3, t4, t5⟩, hd, hb1⟩ := k1
  have R1 := Hd.mk (R0.out.on hb1)
  simp at l1 l2 t1
  have DH := Hd.mk (show DcH K tb 0 n F w1 from ⟨hd, by rw [k4, LN.out]; omega, by rw [k4, List.drop_zero, List.take_of_length_le (by rw [LN.out]; omega)], by omega, t4, t5, t2, t3, tabs_below HT.out R1.out.bel hw2, by omega, by omega, HF.out, by omega⟩)
  have C1 := Hd.mk (zzCommandOf K tb 0 n F w1 DH.out)
  have lt1 := R1.out.b1.lt
  clear hd hb1 C t4 t5 k4
  go_wp2_with fail
  with_reducible refine C1.out.mono ?_
  rintro e w2 ⟨g, cc, rfl, k1, k2, k3, k4, k5⟩
  have R2 := Hd.mk (R1.out.bel' k5 lt1 (by simp; omega))
  have RD := Hd.mk k3
  have GG := Hd.mk (show w.heap.size + 1 < g by omega)
  clear k1 k2 k3 k4 k5 C1
  have x0 := R2.out.b0.cell 0 rfl; have x1 := R2.out.b1.cell 0 rfl
  have f0 := R2.out.b0.free 0; have f1 := R2.out.b1.free 0
  have lt2 := R2.out.b1.lt
  have own0 : (w2.alloc (.cells #[] 5)).ownsRow w2.heap.size 5 1 (.slice (some ⟨w2.heap.size, 0, none⟩) 0 0) 0 [] := World.ownsRow_lit w2 #[] 0 (Nat.le_refl _) (by decide) rfl
  have O0 := Hd.mk own0
  have R3 := Hd.mk (R2.out.on ((Below.refl _ _).alloc (Nat.le_refl _) (.cells #[] 5)))
  have RD3 := Hd.mk (RD.out.below ((Below.refl _ _).alloc (Nat.le_refl _) (.cells #[] 5)))
  clear own0 x0 x1 f0 f1
  have ul := UL.out; have ln := LN.out
  go_wp2_with (at_builtin; refine wpList_append_rd rfl _ _ 24 rfl w2.heap.size 5 i0 (.int .u8 0) Tryd.underlying24 I.out.1 I.out.2.1 I.out.2.2.1 I.out.2.2.2 rfl _ _ _ rfl O0.out (some ⟨g, 0, none⟩) (uB F).length cc (uB F) rfl RD3.out (by omega) (by simp) ?_)
  intro v' w3 hown' hgrow
  have OW := Hd.mk (show w3.ownsRow w2.heap.size 5 1 v' (uB F).length (bc (uB F)) from by simpa using hown')
  have R4 := Hd.mk (R2.out.on ((((Below.refl w2.heap.size w2).alloc (Nat.le_refl _) (.cells #[] 5)).grown hgrow (by simp) (fun k hk => by simp [Value.ownBlock] at hk; omega))))
  have x0 := R4.out.b0.cell 0 rfl; have x1 := R4.out.b1.cell 0 rfl
  have f0 := R4.out.b0.free 0; have f1 := R4.out.b1.free 0
  have LE2 := Hd.mk (show w.heap.size ≤ w2.heap.size from R2.out.bel.size)
  obtain ⟨A4, a4, b4, rfl⟩ := own_sliceE OW.out
  clear hown' hgrow R3 RD3 O0
  go_wp2_with fail
  have RF := (R4.out.s0 (.slice A4 a4 b4)).s1 (.int .i64 0)
  have OF := ownsRow_setCell_below (ownsRow_setCell_below OW.out (a := ⟨w.heap.size, 0, none⟩) (by simp; omega) (.slice A4 a4 b4)) (a := ⟨w.heap.size + 1, 0, none⟩) (by simp; omega) (.int .i64 0)
  obtain ⟨V, hV⟩ : ∃ V, V = (w3.setCell ⟨w.heap.size, 0, none⟩ (.slice A4 a4 b4)).setCell ⟨w.heap.size + 1, 0, none⟩ (.int .i64 0) := ⟨_, rfl⟩
  rw [← hV] at RF OF ⊢
  clear hV x0 x1 f0 f1
  have y0 := RF.b0.cell 0 rfl; have y1 := RF.b1.cell 0 rfl
  have hbl := RF.bel
  refine leaves_cons (f := 26) (args := #[.pointer (some ⟨w.heap.size, 0, none⟩), .pointer (some ⟨w.heap.size + 1, 0, none⟩)]) (by simp) (by simp [go_sem]) ?_
  refine (catch_cmdOf _ _ _).mono ?_
  rintro e u' w'' ⟨rfl, rfl, rfl⟩
  simp [Leaves, settle, results, Tryd.results11, go_sem, y0, y1]
  exact ⟨_, rfl, _, rfl, own_base OF LE2.out, hbl⟩
end Go.Proofs.YtmgckcngedpgoaaDoor.Kb
