/- The contract of the reference's JuMoment: what it returns, as a plain function of what its callees return. No condition but a second that is above 0. -/
import Derived.Test.YtbblgpgjgkmcbaaPJrox3
import Derived.RegionTactic
import Derived.BigRegion
namespace Go.Proofs.Ytbblgpgjgkmcbaa.PJro
open Go.RowKit Go.Proofs.YtbblgpgjgkmcbaaW.PrintWords Go.Proofs.YtbblgpgjgkmcbaaW.PrintLast Go.Proofs.YtbblgpgjgkmcbaaW.PrintMore
set_option linter.unusedVariables false

theorem bset {B b o : Nat} {s : Option Nat} {a w : World} (h : Below B a w) (hp : B ≤ b) (u : Value) : Below B a (w.setCell ⟨b, o, s⟩ u) := Below.setCell h hp u
theorem bcell {W w1 : World} (hb : Below W.heap.size W w1) : (∀ b o, b < W.heap.size → w1.cell? ⟨b, o, none⟩ = W.cell? ⟨b, o, none⟩) ∧ (∀ b o, b < W.heap.size → w1.frozen? ⟨b, o, none⟩ = W.frozen? ⟨b, o, none⟩) :=
  ⟨fun b o h => hb.cell (p := ⟨b, o, none⟩) h, fun b o h => hb.frozen (p := ⟨b, o, none⟩) h⟩

set_option maxHeartbeats 2000000 in
set_option maxRecDepth 100000 in
theorem moment_calls (n sc : Int) (hs : 0 < sc) (y m d h mi s f : Int) (k : Nat) (w : World)
    (e : spec_JuDateOf.f k (wrap64 (1721424 + jf n (wrap64 (86400 * sc)))) = some (y, m, d, h, mi, s, f)) (hu : wrap64 (86400 * sc) ≠ 0) :
    Calls Try.prog 22 #[.int .i64 n, .int .i64 sc] w fun e w' =>
      e = .returned (.agg #[.int .i64 y, .int .i64 m, .int .i64 d,
        .int .i64 (wrap64 (Int.tdiv (wrap64 (Int.tdiv (wrap64 (n - wrap64 (jf n (wrap64 (86400 * sc)) * wrap64 (86400 * sc)))) sc)) 3600)),
        .int .i64 (Int.tmod (wrap64 (Int.tdiv (wrap64 (Int.tdiv (wrap64 (n - wrap64 (jf n (wrap64 (86400 * sc)) * wrap64 (86400 * sc)))) sc)) 60)) 60),
        .int .i64 (Int.tmod (wrap64 (Int.tdiv (wrap64 (n - wrap64 (jf n (wrap64 (86400 * sc)) * wrap64 (86400 * sc)))) sc)) 60),
        .int .i64 (wrap64 (Int.tmod (wrap64 (n - wrap64 (jf n (wrap64 (86400 * sc)) * wrap64 (86400 * sc)))) sc * (1000000000 / sc)))]) ∧ Below w.heap.size w w' := by
  have E := Aside0.mk e
  clear e
  have hs0 : ¬ sc = 0 := by omega
  go_enter Try.func22, Try.ntmps22
  go_wp2_with (first | (go_at_call 25; refine (fl_any _ _ hu _).mono ?_; rintro e w' ⟨rfl, rfl⟩) | (go_at_call 13; refine (spec_JuDateOf.calls k _ y m d h mi s f _ E.out).mono ?_; rintro e w1 ⟨rfl, hb⟩; obtain ⟨hc, hf⟩ := bcell hb; have hz : w.heap.size < w1.heap.size := by have := hb.size; simp at this; omega); have c0 : w1.cell? ⟨w.heap.size, 0, none⟩ = some (.int .i64 0) := (hc _ _ (by simp)).trans (by simp [go_sem]); have c1 : w1.cell? ⟨w.heap.size, 1, none⟩ = some (.int .i64 0) := (hc _ _ (by simp)).trans (by simp [go_sem]); have c2 : w1.cell? ⟨w.heap.size, 2, none⟩ = some (.int .i64 0) := (hc _ _ (by simp)).trans (by simp [go_sem]); have c3 : w1.cell? ⟨w.heap.size, 3, none⟩ = some (.int .i64 0) := (hc _ _ (by simp)).trans (by simp [go_sem]); have c4 : w1.cell? ⟨w.heap.size, 4, none⟩ = some (.int .i64 0) := (hc _ _ (by simp)).trans (by simp [go_sem]); have c5 : w1.cell? ⟨w.heap.size, 5, none⟩ = some (.int .i64 0) := (hc _ _ (by simp)).trans (by simp [go_sem]); have c6 : w1.cell? ⟨w.heap.size, 6, none⟩ = some (.int .i64 0) := (hc _ _ (by simp)).trans (by simp [go_sem]); have f0 : w1.frozen? ⟨w.heap.size, 0, none⟩ = false := (hf _ _ (by simp)).trans (by simp [go_sem]); have f1 : w1.frozen? ⟨w.heap.size, 1, none⟩ = false := (hf _ _ (by simp)).trans (by simp [go_sem]); have f2 : w1.frozen? ⟨w.heap.size, 2, none⟩ = false := (hf _ _ (by simp)).trans (by simp [go_sem]); have f3 : w1.frozen? ⟨w.heap.size, 3, none⟩ = false := (hf _ _ (by simp)).trans (by simp [go_sem]); have f4 : w1.frozen? ⟨w.heap.size, 4, none⟩ = false := (hf _ _ (by simp)).trans (by simp [go_sem]); have f5 : w1.frozen? ⟨w.heap.size, 5, none⟩ = false := (hf _ _ (by simp)).trans (by simp [go_sem]); have f6 : w1.frozen? ⟨w.heap.size, 6, none⟩ = false := (hf _ _ (by simp)).trans (by simp [go_sem]); have HB := Aside0.mk hb; clear hb hc hf)
  go_region
  go_wp2
  refine bodyPost_ret (v := .agg #[.int .i64 y, .int .i64 m, .int .i64 d, .int .i64 (wrap64 (Int.tdiv (wrap64 (Int.tdiv (wrap64 (n - wrap64 (jf n (wrap64 (86400 * sc)) * wrap64 (86400 * sc)))) sc)) 3600)), .int .i64 (Int.tmod (wrap64 (Int.tdiv (wrap64 (Int.tdiv (wrap64 (n - wrap64 (jf n (wrap64 (86400 * sc)) * wrap64 (86400 * sc)))) sc)) 60)) 60), .int .i64 (Int.tmod (wrap64 (Int.tdiv (wrap64 (n - wrap64 (jf n (wrap64 (86400 * sc)) * wrap64 (86400 * sc)))) sc)) 60), .int .i64 (wrap64 (Int.tmod (wrap64 (n - wrap64 (jf n (wrap64 (86400 * sc)) * wrap64 (86400 * sc)))) sc * (1000000000 / sc)))]) (by simp [results, Try.results22, go_sem, c0, c1, c2, c3, c4, c5, c6, hz]) rfl ⟨rfl, ?_⟩
  have hB : Below w.heap.size w w1 := ((Below.refl w.heap.size w).alloc (Nat.le_refl _) _).trans (HB.out.mono (by simp))
  clear HB E c0 c1 c2 c3 c4 c5 c6 f0 f1 f2 f3 f4 f5 f6
  with_reducible refine Below.drew ?_
  with_reducible refine Below.alloc ?_ ?_ _
  · repeat (first | (with_reducible exact hB) | (with_reducible refine bset ?_ (Nat.le_refl _) _))
  · simp; omega
end Go.Proofs.Ytbblgpgjgkmcbaa.PJro
