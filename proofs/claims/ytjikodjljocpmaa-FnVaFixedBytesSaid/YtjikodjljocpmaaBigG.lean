/- impl.DecimalBytes. -/
import Derived.Test.YtjikodjljocpmaaBigF
import Derived.Defers
import Derived.Recover
namespace Go.Proofs.Ytjikodjljocpmaa.Kb
open Go Go.RowKit
set_option linter.unusedVariables false
set_option linter.unusedSimpArgs false
set_option maxHeartbeats 2000000
theorem catch_decimalBytes (a b : Value) (w : World) :
    CallsD Try.prog 25 #[a, b] .returning w fun e u' w' => e = .returned (.tuple #[]) ∧ u' = .returning ∧ w' = w := by
  refine callsD_of_wpS Try.func25 rfl fun c₀ cs hu => ?_
  apply wpS_seq
  apply wpS_region
  simp [wpOpsS, go_sem, recoverD, hu, Try.ntmps25, Exit.thenS]
  refine wpS_cond (t := false) (by simp [Act.eval, Array.replicate]) ?_
  simp only [Bool.false_eq_true, if_false]
  refine wpS_of_wp (wp_skip ?_)
  cases c₀
  simp_all [bodyPostS, results, Try.results25]
set_option maxRecDepth 100000 in
theorem decimalBytes (neg : Bool) (A : Option Addr) (n c : Nat) (xs : List Int) (x : Int) (y : Nat) (w : World) (hr : Rd w [] A n xs) (hby : ∀ x ∈ xs, 0 ≤ x ∧ x < 256) (hn : n ≤ 400) (hnc : n ≤ c) (hc : c ≤ 9223372036854775807)
    (hx : x + 6176 = y) (hy : y ≤ 12287) (ha : beN xs < 2 ^ 113) (hneg : neg = true → beN xs ≠ 0) :
    Calls Try.prog 10 #[.agg #[.bool neg, .slice A n c], .int .i64 x] w fun e w' => ∃ v, e = .returned (.tuple #[v, .int .i64 0]) ∧ Made w (leL (decN neg (beN xs) y) 16) (.returned v) w' := by
  have hmf : ∀ (fn : Fn) (first cap : Array Value) (w : World), (Instr.makeFunc fn first cap).run Try.prog w = .ok (.func fn first cap) w := fun _ _ _ _ => rfl
  have hB : Below w.heap.size w (((w.alloc (.cells #[.bool neg, .slice A n c] 24)).alloc (.cells #[.slice none 0 0] 22)).alloc (.cells #[.int .i64 0] 3)) := (((Below.refl _ _).alloc (Nat.le_refl _) _).alloc (by simp) _).alloc (by simp; omega) _
  have g0 := (Blk.new (w.alloc (.cells #[.bool neg, .slice A n c] 24)) #[.slice none 0 0] 22).alloc (.cells #[.int .i64 0] 3)
  have g1 := Blk.new ((w.alloc (.cells #[.bool neg, .slice A n c] 24)).alloc (.cells #[.slice none 0 0] 22)) #[.int .i64 0] 3
  simp only [World.size_alloc] at g0 g1
  have CB := Hd.mk (bigOf neg A n c xs _ (hr.below hB) hby hn hnc hc)
  have eneg : (neg && decide (beN xs ≠ 0)) = neg := by
    cases neg
    · rfl
    · simp [hneg rfl]
  have HB := Hd.mk hB; have G0 := Hd.mk g0; have G1 := Hd.mk g1; have EN := Hd.mk eneg; have HNG := Hd.mk hneg
  have HX := Hd.mk hx; have HA := Hd.mk ha
  have x1 : ¬ x < -7000 := by omega
  have x2 : ¬ 7000 < x := by omega
  clear hB g0 g1 hr hby eneg hneg hx ha
  generalize beN xs = a at *
  go_enter_defers Try.func10, Try.ntmps10
  go_wp2_with fail
  with_reducible refine CB.out.mono ?_
  rintro e w1 ⟨g, A1, l1, c1, rfl, hg, hi, hl, hf⟩
  rw [EN.out] at hi
  have hW := Blk.new w1 #[.slice none 0 0] 58
  have HW := Hd.mk hW; have HI := Hd.mk hi; have HL := Hd.mk hl; have HG := Hd.mk hg
  clear hW hi hl hf CB hg
  go_wp2_with fail
  with_reducible refine (encoder_new _ _).mono ?_
  intro e w2 k1
  obtain ⟨eb, sb, tb, rfl, he, p1, p2, p3, hl2⟩ := Enc0.of HW.out k1
  have hbl : Below w1.heap.size w1 w2 := ((Below.refl _ _).alloc (Nat.le_refl _) _).trans (hl2.mono (by simp))
  simp at p1 p2
  have hsb : w1.heap.size < sb := p2
  have hgl : g < w1.heap.size := HI.out.blk.lt
  have C := Hd.mk (E_Decimal _ [] g neg A1 l1 c1 a y x w2 (Enc.start he.b1 he.b2 he.b3 he.n1 he.n2 he.n3) (HI.out.below hbl) ⟨by simp; omega, Nat.lt_of_lt_of_le hgl hbl.size⟩ (fun ad h1 h2 => by have := bigI_apart HI.out ad h1 h2; simp; omega) HX.out (by omega) HA.out (by simp) HNG.out)
  have HL2 := Hd.mk hbl
  clear k1 he p1 p2 p3 hl2 hbl HW
  go_wp2_with fail
  with_reducible refine C.out.mono ?_
  rintro e w3 ⟨rfl, hw⟩
  obtain ⟨v, hv, hown, hb⟩ := (Sent.of hw rfl rfl (by simp) (Below.refl _ _) : Sent w2 sb w1.heap.size _ w3)
  obtain ⟨A4, a4, b4, rfl⟩ := own_sliceE hown
  have c4 : w3.cell? ⟨w1.heap.size, 0, none⟩ = some (.slice A4 a4 b4) := hv.cell 0 rfl
  have s1 := HL.out.size; have s2 := HL2.out.size
  simp at s1
  have hg0 := ((G0.out.below HL.out (by simp <;> omega)).below HL2.out (by omega)).bel hb (by omega) (by simp; omega)
  have hg1 := ((G1.out.below HL.out (by simp <;> omega)).below HL2.out (by omega)).bel hb (by omega) (by simp; omega)
  have f0 := hg0.free 0; have f1 := hg1.free 0
  have x3 : w3.cell? ⟨w.heap.size + 1, 0, none⟩ = some (.slice none 0 0) := hg0.cell 0 rfl
  have x4 : w3.cell? ⟨w.heap.size + 1 + 1, 0, none⟩ = some (.int .i64 0) := hg1.cell 0 rfl
  have HO := Hd.mk hown
  have G0' := Hd.mk hg0; have G1' := Hd.mk hg1
  have hbw : Below w.heap.size w w2 := (HB.out.trans (HL.out.mono (by simp; omega))).trans (HL2.out.mono (by omega))
  have HB2 := Hd.mk (Bel.to' ((Bel.of hbw).trans (hb.weak (B' := w.heap.size) (by omega) (S' := [sb, w1.heap.size]) (fun x hx _ => hx))) (by simp; omega))
  clear hv hown hb hg0 hg1 HB HL G0 G1 C hbw hw
  go_wp2
  obtain ⟨W, hW⟩ : ∃ W, W = (w3.setCell ⟨w.heap.size + 1, 0, none⟩ (.slice A4 a4 b4)).setCell ⟨w.heap.size + 1 + 1, 0, none⟩ (.int .i64 0) := ⟨_, rfl⟩
  rw [← hW]
  have y0 : W.cell? ⟨w.heap.size + 1, 0, none⟩ = some (.slice A4 a4 b4) := by rw [hW]; exact ((G0'.out.set 0 (.slice A4 a4 b4)).set_ne (p := ⟨w.heap.size + 1 + 1, 0, none⟩) (by simp) _).cell 0 rfl
  have y1 : W.cell? ⟨w.heap.size + 1 + 1, 0, none⟩ = some (.int .i64 0) := by rw [hW]; exact ((G1'.out.set_ne (p := ⟨w.heap.size + 1, 0, none⟩) (by simp) (.slice A4 a4 b4)).set 0 (.int .i64 0)).cell 0 rfl
  have ho := ownsRow_setCell_below (ownsRow_setCell_below HO.out (a := ⟨w.heap.size + 1, 0, none⟩) (by simp; omega) (.slice A4 a4 b4)) (a := ⟨w.heap.size + 1 + 1, 0, none⟩) (by simp; omega) (.int .i64 0)
  have hbl := (HB2.out.setCell (p := ⟨w.heap.size + 1, 0, none⟩) (by simp) (.slice A4 a4 b4)).setCell (p := ⟨w.heap.size + 1 + 1, 0, none⟩) (by simp; omega) (.int .i64 0)
  rw [← hW] at ho hbl
  clear hW
  refine leaves_cons (f := 25) (args := #[.pointer (some ⟨w.heap.size + 1, 0, none⟩), .pointer (some ⟨w.heap.size + 1 + 1, 0, none⟩)]) (by simp) (by simp [go_sem]) ?_
  refine (catch_decimalBytes _ _ _).mono ?_
  rintro e u' w'' ⟨rfl, rfl, rfl⟩
  simp [Leaves, settle, results, Try.results10, go_sem, y0, y1]
  exact ⟨_, rfl, own_base ho (by omega), hbl⟩
end Go.Proofs.Ytjikodjljocpmaa.Kb
