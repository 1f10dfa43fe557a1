/- FnVaDecimalNull: a decimal that is null, read. -/
import Derived.Test.YtjikodjljocpmaaPack
import Derived.Test.YtjikodjljocpmaaZero
import Derived.Test.YtjikodjljocpmaaRdw
namespace Go.Proofs.Ytjikodjljocpmaa.Kb
open Go Go.RowKit Go.Joins
set_option linter.unusedVariables false
set_option linter.unusedSimpArgs false
set_option maxHeartbeats 1000000
theorem null_bits : ∀ n : Fin 256, bits .and .u8 (bits .or .u8 ((n.1 : Nat) : Int) 112) 112 = 112 ∧ 0 ≤ bits .or .u8 ((n.1 : Nat) : Int) 112 ∧ bits .or .u8 ((n.1 : Nat) : Int) 112 < 256 := by decide +kernel
set_option maxRecDepth 100000 in
theorem D_DecimalNull (K : DK) (w : World) (h : Dec K w 0 .nilIface) (fit : 16 ≤ K.xs.length) (x : Int) (hx : K.xs[15]? = some x) (hb : bits .and .u8 x 112 = 112) :
    Calls Try.prog 31 #[.pointer (some ⟨K.d, 0, none⟩)] w fun e w' => e = .returned (.tuple #[.pointer none, .int .i64 0, .nilIface]) ∧ Went K w 0 16 w' := by
  obtain ⟨Z, hz, hZ⟩ := h.sc
  have hl : K.xs.length ≤ 140737488351232 := h.b.rd.small
  have c3 : w.cell? ⟨K.d, 3, none⟩ = some (.slice (some ⟨K.sb, 0, none⟩) 4096 4096) := h.b.blk.cell 3 rfl
  have C := Hd.mk (readFull_ok K 0 0 _ h.b K.sb Z 5 hZ (Ne.symm h.b.ne) (h.b.rd.sub (by simp)) 16 4096 (some ⟨K.sb, 0, none⟩) (fun _ => rfl) (by omega) (by omega) (by omega))
  have H := Hd.mk h; have HZ := Hd.mk hz; have HX := Hd.mk hx; have HF := Hd.mk fit
  clear h hZ hz hx
  go_enter Try.func31, Try.ntmps31
  go_wp2_with fail
  with_reducible refine C.out.mono ?_
  rintro e w1 ⟨rfl, hr⟩
  have hb1 := hr.2.1
  have hlt : ((K.xs.drop 0).take 16).length = 16 := by have := HF.out; simp; omega
  have g15 : (splice Z 0 (bc ((K.xs.drop 0).take 16))).toArray[15]? = some (.int .u8 x) := by
    rw [splice_at Z ((K.xs.drop 0).take 16) 15 (by omega) (by have := HZ.out; omega)]
    have e : (List.take 16 (List.drop 0 K.xs))[15]? = some x := by simpa using HX.out
    rw [List.getElem?_eq_getElem (by omega)] at e
    simpa using e
  have c15 : w1.cell? ⟨K.sb, 15, none⟩ = some (.int .u8 x) := hb1.cell 15 g15
  have HW := Hd.mk (went_of HZ.out H.out (by decide) hr (Below.refl _ _) (by have := HF.out; omega))
  clear hr hb1 hlt g15 C H HX HF
  go_wp2
  go_ret3
  exact ⟨rfl, HW.out⟩
theorem err_blk0 (d : Nat) (er : Value) (cs : Array Value) (hc : cs[2]? = some er) (w : World) (h : Blk w d cs 99) :
    Calls Try.prog 32 #[.pointer (some ⟨d, 0, none⟩)] w fun e w' => e = .returned er ∧ w = w' := by
  have c2 : w.cell? ⟨d, 2, none⟩ = some er := h.cell 2 hc
  clear h hc
  go_enter Try.func32, Try.ntmps32
  go_wp2
  go_ret
  exact ⟨rfl, rfl⟩
theorem catch_decimalOf (a0 a1 a2 a3 : Value) (w : World) :
    CallsD Try.prog 29 #[a0, a1, a2, a3] .returning w fun e u' w' => e = .returned (.tuple #[]) ∧ u' = .returning ∧ w' = w := by
  refine callsD_of_wpS Try.func29 rfl fun c₀ cs hu => ?_
  apply wpS_seq
  apply wpS_region
  simp [wpOpsS, go_sem, recoverD, hu, Try.ntmps29, Exit.thenS]
  refine wpS_cond (t := false) (by simp [Act.eval, Array.replicate]) ?_
  simp only [Bool.false_eq_true, if_false]
  refine wpS_of_wp (wp_skip ?_)
  cases c₀
  simp_all [bodyPostS, results, Try.results29]
/-- What DecimalOf answers of null. -/
def NullOut (w : World) (e : Ending) (w' : World) : Prop := e = .returned (.tuple #[.agg #[.bool false, .slice none 0 0], .int .i64 0, .bool true, .int .i64 0]) ∧ Below w.heap.size w w'
set_option maxRecDepth 100000 in
theorem decimalOf_null (A : Option Addr) (n c : Nat) (xs : List Int) (w : World) (hr : Rd w [] A n xs) (hn : n ≤ c) (hc : c ≤ maxLen) (hby : ∀ x ∈ xs, 0 ≤ x ∧ x < 256) (fit : 16 ≤ xs.length) (x : Int) (hx : xs[15]? = some x) (hb : bits .and .u8 x 112 = 112) :
    Calls Try.prog 11 #[.slice A n c] w fun e w' => NullOut w e w' := by
  have hmf : ∀ (fn : Fn) (first cap : Array Value) (w : World), (Instr.makeFunc fn first cap).run Try.prog w = .ok (.func fn first cap) w := fun _ _ _ _ => rfl
  have hB : Below w.heap.size w ((((w.alloc (.cells #[.bool false, .slice none 0 0] 24)).alloc (.cells #[.int .i64 0] 3)).alloc (.cells #[.bool false] 4)).alloc (.cells #[.int .i64 0] 3)) := (((((Below.refl _ _).alloc (by simp <;> omega) _).alloc (by simp <;> omega) _).alloc (by simp <;> omega) _).alloc (by simp <;> omega) _)
  have g0 := ((((Blk.new w #[.bool false, .slice none 0 0] 24).alloc (.cells #[.int .i64 0] 3)).alloc (.cells #[.bool false] 4)).alloc (.cells #[.int .i64 0] 3))
  have g1 := (((Blk.new (w.alloc (.cells #[.bool false, .slice none 0 0] 24)) #[.int .i64 0] 3).alloc (.cells #[.bool false] 4)).alloc (.cells #[.int .i64 0] 3))
  have g2 := ((Blk.new ((w.alloc (.cells #[.bool false, .slice none 0 0] 24)).alloc (.cells #[.int .i64 0] 3)) #[.bool false] 4).alloc (.cells #[.int .i64 0] 3))
  have g3 := (Blk.new (((w.alloc (.cells #[.bool false, .slice none 0 0] 24)).alloc (.cells #[.int .i64 0] 3)).alloc (.cells #[.bool false] 4)) #[.int .i64 0] 3)
  simp only [World.size_alloc] at g0 g1 g2 g3
  have HB := Hd.mk hB; have G0 := Hd.mk g0; have G1 := Hd.mk g1; have G2 := Hd.mk g2; have G3 := Hd.mk g3
  have C := Hd.mk (decoder_new A n c xs false false _ (hr.below hB) hn hc hby)
  have HF := Hd.mk fit; have HX := Hd.mk hx; have HBT := Hd.mk hb
  clear hr hn hc hby fit hx hb hB g0 g1 g2 g3
  go_enter_defers Try.func11, Try.ntmps11
  go_wp2_with fail
  with_reducible refine C.out.mono ?_
  intro e w1 k1
  obtain ⟨K, rfl, k2, l1, l2, hd1, hb1⟩ := k1.to
  subst k2
  have C1 := Hd.mk (D_DecimalNull K w1 hd1 HF.out x HX.out HBT.out)
  have HL := Hd.mk hb1; have L1 := Hd.mk l1; have L2 := Hd.mk l2
  clear k1 l1 l2 hd1 hb1 C HX HBT
  go_wp2_with fail
  with_reducible refine C1.out.mono ?_
  rintro e w2 ⟨rfl, hdb, hb⟩
  have hs1 := HL.out.size
  have l1 := L1.out; have l2 := L2.out
  simp at hs1 l1 l2
  have hg0 := (G0.out.below HL.out (by simp <;> omega)).bel hb (by omega) (by simp; omega)
  have hg1 := (G1.out.below HL.out (by simp <;> omega)).bel hb (by omega) (by simp; omega)
  have hg2 := (G2.out.below HL.out (by simp <;> omega)).bel hb (by omega) (by simp; omega)
  have hg3 := (G3.out.below HL.out (by simp <;> omega)).bel hb (by omega) (by simp; omega)
  have HB2 := Hd.mk (Bel.to' ((Bel.of (HB.out.trans (HL.out.mono (by simp; omega)))).trans (hb.weak (B' := w.heap.size) (by omega) (S' := [K.d, K.sb]) (fun x hx _ => hx))) (by simp; omega))
  have x0 : w2.cell? ⟨w.heap.size, 0, none⟩ = some (.bool false) := hg0.cell 0 rfl; have f0 := hg0.free 0
  have x1 : w2.cell? ⟨w.heap.size + 1, 0, none⟩ = some (.int .i64 0) := hg1.cell 0 rfl; have f1 := hg1.free 0
  have x2 : w2.cell? ⟨w.heap.size + 1 + 1, 0, none⟩ = some (.bool false) := hg2.cell 0 rfl; have f2 := hg2.free 0
  have x3 : w2.cell? ⟨w.heap.size + 1 + 1 + 1, 0, none⟩ = some (.int .i64 0) := hg3.cell 0 rfl; have f3 := hg3.free 0
  have x0b : w2.cell? ⟨w.heap.size, 1, none⟩ = some (.slice none 0 0) := hg0.cell 1 rfl; have f0b := hg0.free 1
  have GG0 := Hd.mk hg0; have GG1 := Hd.mk hg1; have GG2 := Hd.mk hg2; have GG3 := Hd.mk hg3
  have HD := Hd.mk hdb
  clear hb hdb hg0 hg1 hg2 hg3 HB HL G0 G1 G2 G3 C1
  go_wp2_with fail
  obtain ⟨W, hW⟩ : ∃ W, W = w2.setCell ⟨w.heap.size + 1, 0, none⟩ (.int .i64 0) := ⟨_, rfl⟩
  rw [← hW]
  have q0 : Blk W (w.heap.size) #[.bool false, .slice none 0 0] 24 := by
    rw [hW]
    exact (GG0.out.set_ne (p := ⟨w.heap.size + 1, 0, none⟩) (by simp <;> omega) (.int .i64 0)).cast (by simp)
  have q1 : Blk W (w.heap.size + 1) #[.int .i64 0] 3 := by
    rw [hW]
    exact (GG1.out.set 0 (.int .i64 0)).cast (by simp)
  have q2 : Blk W (w.heap.size + 1 + 1) #[.bool false] 4 := by
    rw [hW]
    exact (GG2.out.set_ne (p := ⟨w.heap.size + 1, 0, none⟩) (by simp <;> omega) (.int .i64 0)).cast (by simp)
  have q3 : Blk W (w.heap.size + 1 + 1 + 1) #[.int .i64 0] 3 := by
    rw [hW]
    exact (GG3.out.set_ne (p := ⟨w.heap.size + 1, 0, none⟩) (by simp <;> omega) (.int .i64 0)).cast (by simp)
  have hbl : Below w.heap.size w W := by
    rw [hW]
    exact HB2.out.setCell (p := ⟨w.heap.size + 1, 0, none⟩) (by simp <;> omega) _
  have q4 := HD.out.b.blk.set_ne (p := ⟨w.heap.size + 1, 0, none⟩) (by simp <;> omega) (.int .i64 0)
  rw [← hW] at q4
  have C2 := Hd.mk (err_blk0 K.d .nilIface _ rfl W q4)
  have Q0 := Hd.mk q0; have Q1 := Hd.mk q1; have Q2 := Hd.mk q2; have Q3 := Hd.mk q3; have HBL := Hd.mk hbl
  clear hW GG0 GG1 GG2 GG3 HD HB2 q4 hbl x0 x0b x1 x2 x3 f0 f0b f1 f2 f3
  with_reducible refine C2.out.mono ?_
  rintro e w3 ⟨rfl, rfl⟩
  have x0 : W.cell? ⟨w.heap.size, 0, none⟩ = some (.bool false) := q0.cell 0 rfl; have f0 := q0.free 0
  have x1 : W.cell? ⟨w.heap.size + 1, 0, none⟩ = some (.int .i64 0) := q1.cell 0 rfl; have f1 := q1.free 0
  have x2 : W.cell? ⟨w.heap.size + 1 + 1, 0, none⟩ = some (.bool false) := q2.cell 0 rfl; have f2 := q2.free 0
  have x3 : W.cell? ⟨w.heap.size + 1 + 1 + 1, 0, none⟩ = some (.int .i64 0) := q3.cell 0 rfl; have f3 := q3.free 0
  have x0b : W.cell? ⟨w.heap.size, 1, none⟩ = some (.slice none 0 0) := q0.cell 1 rfl; have f0b := q0.free 1
  clear q0 q1 q2 q3 C2
  go_wp2
  obtain ⟨V, hV⟩ : ∃ V, V = (((((W.setCell ⟨w.heap.size, 0, none⟩ (.bool false)).setCell ⟨w.heap.size, 1, none⟩ (.slice none 0 0)).setCell ⟨w.heap.size + 1, 0, none⟩ (.int .i64 0)).setCell ⟨w.heap.size + 1 + 1, 0, none⟩ (.bool true)).setCell ⟨w.heap.size + 1 + 1 + 1, 0, none⟩ (.int .i64 0)) := ⟨_, rfl⟩
  rw [← hV]
  have v0 : Blk V w.heap.size #[.bool false, .slice none 0 0] 24 := by
    rw [hV]
    exact (((((Q0.out.set 0 (.bool false)).set 1 (.slice none 0 0)).set_ne (p := ⟨w.heap.size + 1, 0, none⟩) (by simp <;> omega) (.int .i64 0)).set_ne (p := ⟨w.heap.size + 1 + 1, 0, none⟩) (by simp <;> omega) (.bool true)).set_ne (p := ⟨w.heap.size + 1 + 1 + 1, 0, none⟩) (by simp <;> omega) (.int .i64 0)).cast (by simp)
  have y1 : V.cell? ⟨w.heap.size + 1, 0, none⟩ = some (.int .i64 0) := by
    rw [hV]
    exact ((((((Q1.out.set_ne (p := ⟨w.heap.size, 0, none⟩) (by simp <;> omega) (.bool false)).set_ne (p := ⟨w.heap.size, 1, none⟩) (by simp <;> omega) (.slice none 0 0)).set 0 (.int .i64 0)).set_ne (p := ⟨w.heap.size + 1 + 1, 0, none⟩) (by simp <;> omega) (.bool true)).set_ne (p := ⟨w.heap.size + 1 + 1 + 1, 0, none⟩) (by simp <;> omega) (.int .i64 0)).cast (cs' := #[.int .i64 0]) (by simp)).cell 0 rfl
  have y2 : V.cell? ⟨w.heap.size + 1 + 1, 0, none⟩ = some (.bool true) := by
    rw [hV]
    exact ((((((Q2.out.set_ne (p := ⟨w.heap.size, 0, none⟩) (by simp <;> omega) (.bool false)).set_ne (p := ⟨w.heap.size, 1, none⟩) (by simp <;> omega) (.slice none 0 0)).set_ne (p := ⟨w.heap.size + 1, 0, none⟩) (by simp <;> omega) (.int .i64 0)).set 0 (.bool true)).set_ne (p := ⟨w.heap.size + 1 + 1 + 1, 0, none⟩) (by simp <;> omega) (.int .i64 0)).cast (cs' := #[.bool true]) (by simp)).cell 0 rfl
  have y3 : V.cell? ⟨w.heap.size + 1 + 1 + 1, 0, none⟩ = some (.int .i64 0) := by
    rw [hV]
    exact ((((((Q3.out.set_ne (p := ⟨w.heap.size, 0, none⟩) (by simp <;> omega) (.bool false)).set_ne (p := ⟨w.heap.size, 1, none⟩) (by simp <;> omega) (.slice none 0 0)).set_ne (p := ⟨w.heap.size + 1, 0, none⟩) (by simp <;> omega) (.int .i64 0)).set_ne (p := ⟨w.heap.size + 1 + 1, 0, none⟩) (by simp <;> omega) (.bool true)).set 0 (.int .i64 0)).cast (cs' := #[.int .i64 0]) (by simp)).cell 0 rfl
  have hbl : Below w.heap.size w V := by
    rw [hV]
    exact (((((HBL.out.setCell (p := ⟨w.heap.size, 0, none⟩) (by simp <;> omega) (.bool false)).setCell (p := ⟨w.heap.size, 1, none⟩) (by simp <;> omega) (.slice none 0 0)).setCell (p := ⟨w.heap.size + 1, 0, none⟩) (by simp <;> omega) (.int .i64 0)).setCell (p := ⟨w.heap.size + 1 + 1, 0, none⟩) (by simp <;> omega) (.bool true)).setCell (p := ⟨w.heap.size + 1 + 1 + 1, 0, none⟩) (by simp <;> omega) (.int .i64 0))
  have y0 : V.cell? ⟨w.heap.size, 0, none⟩ = some (.bool false) := v0.cell 0 rfl
  have y0b : V.cell? ⟨w.heap.size, 1, none⟩ = some (.slice none 0 0) := v0.cell 1 rfl
  clear hV
  refine leaves_cons (f := 29) (args := #[.pointer (some ⟨w.heap.size, 0, none⟩), .pointer (some ⟨w.heap.size + 1, 0, none⟩), .pointer (some ⟨w.heap.size + 1 + 1, 0, none⟩), .pointer (some ⟨w.heap.size + 1 + 1 + 1, 0, none⟩)]) (by simp) (by simp [go_sem]) ?_
  refine (catch_decimalOf _ _ _ _ _).mono ?_
  rintro e u' w'' ⟨rfl, rfl, rfl⟩
  simp [Leaves, settle, results, Try.results11, go_sem, y0, y0b, y1, y2, y3]
  exact ⟨rfl, hbl⟩
end Go.Proofs.Ytjikodjljocpmaa.Kb
