/- impl.FixedBytes. -/
import Derived.Test.YtjikodjljocpmaaFixE
import Derived.Test.YtjikodjljocpmaaBigT
import Derived.Defers
import Derived.Recover
namespace Go.Proofs.Ytjikodjljocpmaa.Kb
open Go Go.RowKit
set_option linter.unusedVariables false
set_option linter.unusedSimpArgs false
set_option maxHeartbeats 2000000
theorem catch_fixedBytes (a b : Value) (w : World) :
    CallsD Try.prog 40 #[a, b] .returning w fun e u' w' => e = .returned (.tuple #[]) ∧ u' = .returning ∧ w' = w := by
  refine callsD_of_wpS Try.func40 rfl fun c₀ cs hu => ?_
  apply wpS_seq
  apply wpS_region
  simp [wpOpsS, go_sem, recoverD, hu, Try.ntmps40, Exit.thenS]
  refine wpS_cond (t := false) (by simp [Act.eval, Array.replicate]) ?_
  simp only [Bool.false_eq_true, if_false]
  refine wpS_of_wp (wp_skip ?_)
  cases c₀
  simp_all [bodyPostS, results, Try.results40]
/-- The number whose bytes a fixed number has: two's complement. -/
def fixR (neg : Bool) (a n : Nat) : Nat := if neg = true then 256 ^ n - a else a
theorem pow_WB (k : Nat) : 256 ^ k ≤ WB ^ k := Nat.pow_le_pow_left (by decide +kernel) k
theorem fixed_any {w w2 : World} {eb sb wb g l c a n : Nat} {neg : Bool} {tr : Value} {A : Option Addr} (z : Int) (hzn : z = n)
    (h1 : Blk w2 eb #[.pointer (some ⟨wb, 0, none⟩), .slice (some ⟨sb, 0, none⟩) 4096 4096, tr] 88) (h2 : Blk w2 sb (zs 4096 (.int .u8 0)).toArray 5) (h3 : Blk w2 wb #[.slice none 0 0] 58)
    (n1 : eb ≠ sb) (n2 : eb ≠ wb) (n3 : sb ≠ wb) (hi : BigI w2 g neg A l c a) (hw : WBlk w2 A l c a) (p1 : w.heap.size < eb) (p2 : w.heap.size < sb) (p3 : wb = w.heap.size) (hg : g < w.heap.size) (hA : ∀ ad, A = some ad → 0 < l → ad.block < w.heap.size)
    (hl : l ≤ 1000) (hn : n ≤ 16) (hneg : neg = true → a ≠ 0) (ha : neg = true → 2 * a ≤ 256 ^ n) (B : Nat) (hB1 : B ≤ g) (hB2 : ∀ ad, A = some ad → B ≤ ad.block) (hB3 : B ≤ w.heap.size) :
    ∃ S, (∀ x ∈ S, B ≤ x) ∧ Calls Try.prog 41 #[.pointer (some ⟨eb, 0, none⟩), .pointer (some ⟨g, 0, none⟩), .int .i64 z] w2 fun e w' => FixWr w2 wb S (leL (fixR neg a n) n) e w' := by
  subst hzn
  cases neg
  · refine ⟨[sb, wb], fun x hx => by simp at hx; omega, ?_⟩
    exact E_FixedP eb sb wb g tr _ A l c a n w2 h1 (zs_len _ _) h2 h3 n1 n2 n3 hi (fun ad h1 h2 => by have := hA ad h1 h2; omega) hl (by omega)
  · have h0 : 0 < l := by
      rcases Nat.eq_zero_or_pos l with e | e
      · exact absurd ((hi.dig.zero_iff WB1).1 e) (hneg rfl)
      · exact e
    obtain ⟨gw, rfl, _, _⟩ := hi.dig.at_ 0 h0
    have k1 := hA _ rfl h0; have k2 := hB2 _ rfl
    simp at k1 k2
    refine ⟨[sb, wb, g, gw], fun x hx => by simp at hx; omega, ?_⟩
    exact E_FixedN gw eb sb wb g tr _ l c a n w2 h1 (zs_len _ _) h2 h3 n1 n2 n3 hi hw (by omega) (by omega) (by omega) (by omega) (by omega) (by omega) (Nat.pos_of_ne_zero (hneg rfl)) hn (ha rfl)
set_option maxRecDepth 100000 in
theorem fixedBytes (neg : Bool) (A : Option Addr) (m c n : Nat) (xs : List Int) (z : Int) (w : World) (hr : Rd w [] A m xs) (hby : ∀ x ∈ xs, 0 ≤ x ∧ x < 256) (hm : m ≤ 400) (hmc : m ≤ c) (hc : c ≤ 9223372036854775807)
    (hz : z = n) (hn0 : 1 ≤ n) (hn : n ≤ 16) (hneg : neg = true → beN xs ≠ 0) (ha : neg = true → 2 * beN xs ≤ 256 ^ n) :
    Calls Try.prog 17 #[.agg #[.bool neg, .slice A m c], .int .i64 z] w fun e w' => ∃ v, e = .returned (.tuple #[v, .int .i64 0]) ∧ Made w (leL (fixR neg (beN xs) n) n) (.returned v) w' := by
  have hmf : ∀ (fn : Fn) (first cap : Array Value) (w : World), (Instr.makeFunc fn first cap).run Try.prog w = .ok (.func fn first cap) w := fun _ _ _ _ => rfl
  have hB : Below w.heap.size w (((w.alloc (.cells #[.bool neg, .slice A m c] 24)).alloc (.cells #[.slice none 0 0] 22)).alloc (.cells #[.int .i64 0] 3)) := (((Below.refl _ _).alloc (Nat.le_refl _) _).alloc (by simp) _).alloc (by simp; omega) _
  have g0 := (Blk.new (w.alloc (.cells #[.bool neg, .slice A m c] 24)) #[.slice none 0 0] 22).alloc (.cells #[.int .i64 0] 3)
  have g1 := Blk.new ((w.alloc (.cells #[.bool neg, .slice A m c] 24)).alloc (.cells #[.slice none 0 0] 22)) #[.int .i64 0] 3
  simp only [World.size_alloc] at g0 g1
  have CB := Hd.mk (bigOf neg A m c xs _ (hr.below hB) hby hm hmc hc)
  have eneg : (neg && decide (beN xs ≠ 0)) = neg := by
    cases neg
    · rfl
    · simp [hneg rfl]
  have AL := Hd.mk (show beN xs < WB ^ m by
    have h1 := beN_lt xs hby
    rw [hr.len] at h1
    exact Nat.lt_of_lt_of_le h1 (pow_WB m))
  have HB := Hd.mk hB; have G0 := Hd.mk g0; have G1 := Hd.mk g1; have EN := Hd.mk eneg; have HNG := Hd.mk hneg
  have HA := Hd.mk ha; have HZ := Hd.mk hz
  have x1 : ¬ z < 1 := by omega
  have x2 : ¬ 100 < z := by omega
  clear hB g0 g1 hr hby eneg hneg ha hz
  generalize beN xs = a at *
  go_enter_defers Try.func17, Try.ntmps17
  go_wp2_with fail
  with_reducible refine CB.out.mono ?_
  rintro e w1 ⟨g, A1, l1, c1, rfl, hg, hi, hl, hf, hww⟩
  rw [EN.out] at hi
  have hW := Blk.new w1 #[.slice none 0 0] 58
  have HW := Hd.mk hW; have HI := Hd.mk hi; have HL := Hd.mk hl; have HG := Hd.mk hg; have HF := Hd.mk hf; have HWW := Hd.mk hww
  clear hW hi hl hf hww CB hg
  go_wp2_with fail
  with_reducible refine (encoder_new _ _).mono ?_
  intro e w2 k1
  obtain ⟨eb, sb, tb, rfl, he, p1, p2, p3, hl2⟩ := Enc0.of HW.out k1
  have hbl : Below w1.heap.size w1 w2 := ((Below.refl _ _).alloc (Nat.le_refl _) _).trans (hl2.mono (by simp))
  simp at p1 p2
  have hsb : w1.heap.size < sb := p2
  have hgl : g < w1.heap.size := HI.out.blk.lt
  have hgg := HG.out
  simp at hgg
  have s1 := HL.out.size
  simp at s1
  obtain ⟨S, hS, C0⟩ := fixed_any (w := w1) z HZ.out he.b1 he.b2 he.b3 he.n1 he.n2 he.n3 (HI.out.below hbl) (HWW.out.keep fun ad cs h hb => hb.below hbl hb.lt) (by omega) (by omega) rfl hgl (fun ad h1 h2 => bigI_apart HI.out ad h1 h2)
    (Nat.le_trans (HI.out.dig.len_le WB1 AL.out) (by omega)) hn HNG.out HA.out (w.heap.size + 3) (by omega) (fun ad h => by have := HF.out ad h; simp at this; omega) (by omega)
  have C := Hd.mk C0; have HS := Hd.mk hS
  have HL2 := Hd.mk hbl
  clear k1 he p1 p2 p3 hl2 hbl HW C0 hS
  go_wp2_with fail
  with_reducible refine C.out.mono ?_
  rintro e w3 ⟨rfl, v, hv, hown, hb⟩
  obtain ⟨A4, a4, b4, rfl⟩ := own_sliceE hown
  have c4 : w3.cell? ⟨w1.heap.size, 0, none⟩ = some (.slice A4 a4 b4) := hv.cell 0 rfl
  have s2 := HL2.out.size
  have hnS : ∀ y, y < w.heap.size + 3 → y ∉ S := fun y hy h => by have := HS.out y h; omega
  have hg0 := ((G0.out.below HL.out (by simp <;> omega)).below HL2.out (by omega)).bel hb (by omega) (hnS _ (by omega))
  have hg1 := ((G1.out.below HL.out (by simp <;> omega)).below HL2.out (by omega)).bel hb (by omega) (hnS _ (by omega))
  have f0 := hg0.free 0; have f1 := hg1.free 0
  have x3 : w3.cell? ⟨w.heap.size + 1, 0, none⟩ = some (.slice none 0 0) := hg0.cell 0 rfl
  have x4 : w3.cell? ⟨w.heap.size + 1 + 1, 0, none⟩ = some (.int .i64 0) := hg1.cell 0 rfl
  have HO := Hd.mk hown
  have G0' := Hd.mk hg0; have G1' := Hd.mk hg1
  have hbw : Below w.heap.size w w2 := (HB.out.trans (HL.out.mono (by simp; omega))).trans (HL2.out.mono (by omega))
  have HB2 := Hd.mk (Bel.to' ((Bel.of hbw).trans (hb.weak (B' := w.heap.size) (by omega) (S' := S) (fun x hx _ => hx))) (fun x hx => by have := HS.out x hx; omega))
  clear hv hown hb hg0 hg1 HB HL G0 G1 C hbw
  go_wp2
  obtain ⟨W, hW⟩ : ∃ W, W = (w3.setCell ⟨w.heap.size + 1, 0, none⟩ (.slice A4 a4 b4)).setCell ⟨w.heap.size + 1 + 1, 0, none⟩ (.int .i64 0) := ⟨_, rfl⟩
  rw [← hW]
  have y0 : W.cell? ⟨w.heap.size + 1, 0, none⟩ = some (.slice A4 a4 b4) := by rw [hW]; exact ((G0'.out.set 0 (.slice A4 a4 b4)).set_ne (p := ⟨w.heap.size + 1 + 1, 0, none⟩) (by simp) _).cell 0 rfl
  have y1 : W.cell? ⟨w.heap.size + 1 + 1, 0, none⟩ = some (.int .i64 0) := by rw [hW]; exact ((G1'.out.set_ne (p := ⟨w.heap.size + 1, 0, none⟩) (by simp) (.slice A4 a4 b4)).set 0 (.int .i64 0)).cell 0 rfl
  have ho := ownsRow_setCell_below (ownsRow_setCell_below HO.out (a := ⟨w.heap.size + 1, 0, none⟩) (by simp; omega) (.slice A4 a4 b4)) (a := ⟨w.heap.size + 1 + 1, 0, none⟩) (by simp; omega) (.int .i64 0)
  have hbl := (HB2.out.setCell (p := ⟨w.heap.size + 1, 0, none⟩) (by simp) (.slice A4 a4 b4)).setCell (p := ⟨w.heap.size + 1 + 1, 0, none⟩) (by simp; omega) (.int .i64 0)
  rw [← hW] at ho hbl
  clear hW
  refine leaves_cons (f := 40) (args := #[.pointer (some ⟨w.heap.size + 1, 0, none⟩), .pointer (some ⟨w.heap.size + 1 + 1, 0, none⟩)]) (by simp) (by simp [go_sem]) ?_
  refine (catch_fixedBytes _ _ _).mono ?_
  rintro e u' w'' ⟨rfl, rfl, rfl⟩
  simp [Leaves, settle, results, Try.results17, go_sem, y0, y1]
  exact ⟨_, rfl, own_base ho (by omega), hbl⟩
end Go.Proofs.Ytjikodjljocpmaa.Kb
