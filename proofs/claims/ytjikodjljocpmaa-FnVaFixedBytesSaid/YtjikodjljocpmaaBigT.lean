/- math/big: NewInt(1); Int.Add of it in place. -/
import Derived.Test.YtjikodjljocpmaaBigS
namespace Go.Proofs.Ytjikodjljocpmaa.Kb
open Go Go.RowKit
set_option linter.unusedVariables false
set_option linter.unusedSimpArgs false
set_option maxHeartbeats 1000000
theorem gb_undrewN {w w' : World} {n : Nat} {row : Option Nat} (h : (w.drewN n).grownBy w' row) : w.grownBy w' row := ⟨h.os, h.tape, h.output, h.size, h.block⟩
/-- What NewInt(1) answers. -/
def OneOut (w : World) (e : Ending) (w' : World) : Prop := e = .returned (.pointer (some ⟨w.heap.size + 1, 0, none⟩)) ∧ w' = (w.alloc (.cells #[.int .u64 1] 91)).alloc (.cells #[.bool false, .slice (some ⟨w.heap.size, 0, none⟩) 1 1] 80)
set_option maxRecDepth 100000 in
theorem newOne (w : World) : Calls Try.prog 70 #[.int .i64 1] w fun e w' => OneOut w e w' := by
  go_enter Try.func70, Try.ntmps70
  go_wp2
  go_ret
  exact ⟨by simp, rfl⟩
set_option maxRecDepth 100000 in
theorem natOne (w : World) : Calls Try.prog 59 #[] w fun e w' => OneOut w e w' := by
  have C := Hd.mk (newOne w)
  go_enter Try.func59, Try.ntmps59
  go_wp2_with fail
  with_reducible refine C.out.mono ?_
  rintro e w2 ⟨rfl, rfl⟩
  go_wp2
  go_ret
  exact ⟨rfl, rfl⟩
/-- What Int.Add answers, in place. -/
def AddIOut (w : World) (p g n : Nat) (e : Ending) (w' : World) : Prop := ∃ A l c, e = .returned (.pointer (some ⟨p, 0, none⟩)) ∧ BigI w' p false A l c n ∧ Bel w.heap.size [g, p] w w' ∧ ∀ ad, A = some ad → ad.block = g ∨ w.heap.size ≤ ad.block
theorem add_end {p g n l2 c2 : Nat} {A2 : Option Addr} {w w2 : World} {cs : Value} (HP2 : Blk w2 p #[.bool false, cs] 80) (H2 : DigV .u64 WB w2 A2 l2 c2 n) (HF2 : ∀ ad, A2 = some ad → ad.block = g ∨ w.heap.size ≤ ad.block) (HG2 : w.grownBy w2 (some g)) (plt : p < w.heap.size) (hpg : p ≠ g) :
    AddIOut w p g n (.returned (.pointer (some ⟨p, 0, none⟩))) ((w2.setCell ⟨p, 1, none⟩ (.slice A2 l2 c2)).setCell ⟨p, 0, none⟩ (.bool false)) := by
  have ne : ∀ ad, A2 = some ad → ad.block ≠ p := fun ad h e => by
    rcases HF2 ad h with h1 | h1
    · exact hpg (e.symm.trans h1)
    · omega
  have ne2 : ∀ ad, A2 = some ad → some p ≠ some ad.block := fun ad h e => ne ad h (by cases e; rfl)
  refine ⟨A2, l2, c2, rfl, ⟨(HP2.set 1 _).set 0 _, (H2.grown (gb_set w2 p 1 _) ne2).grown (gb_set _ p 0 _) ne2, ne⟩, ?_, HF2⟩
  have k1 := gb_set w2 p 1 (.slice A2 l2 c2)
  have k2 := gb_set (w2.setCell ⟨p, 1, none⟩ (.slice A2 l2 c2)) p 0 (.bool false)
  refine ⟨(k2.os.trans k1.os).trans HG2.os, (k2.tape.trans k1.tape).trans HG2.tape, (k2.output.trans k1.output).trans HG2.output, Nat.le_trans HG2.size (Nat.le_trans k1.size k2.size), fun j hj hs => ?_⟩
  have n1 : some j ≠ some g := fun e => hs (by cases e; simp)
  have n2 : some j ≠ some p := fun e => hs (by cases e; simp)
  have s1 := Nat.lt_of_lt_of_le hj HG2.size
  exact ((k2.block j (Nat.lt_of_lt_of_le s1 k1.size) n2).trans (k1.block j s1 n2)).trans (HG2.block j hj n1)
set_option maxRecDepth 100000 in
theorem intAddW (p g l c cy gy q a b : Nat) (f : Nat → Value) (t : List Value) (w : World) (hp : Blk w p #[.bool false, .slice (some ⟨g, 0, none⟩) l c] 80) (hq : Blk w q #[.bool false, .slice (some ⟨gy, 0, none⟩) 1 cy] 80)
    (hz : Blk w g (mapR f c t) 91) (hlc : l ≤ c) (hc0 : 1 ≤ c) (hc : c ≤ 1000) (ha : a < WB ^ l) (hf : ∀ j, j < l → f j = .int .u64 (limb WB a j))
    (hb0 : 0 < b) (hb : b < WB) (hy : w.cell? ⟨gy, 0, none⟩ = some (.int .u64 b)) (hy2 : gy < w.heap.size) (hy3 : gy ≠ g) (hcy : 1 ≤ cy) (hpg : p ≠ g) :
    Calls Try.prog 58 #[.pointer (some ⟨p, 0, none⟩), .pointer (some ⟨p, 0, none⟩), .pointer (some ⟨q, 0, none⟩)] w fun e w' => AddIOut w p g (a + b) e w' := by
  have C := Hd.mk (fun (W : World) (hw : W.heap = w.heap) => natAddW g l c cy gy a b f t W (by unfold Blk at *; rw [hw]; exact hz) hlc hc0 hc ha hf hb0 hb (by simp only [World.cell?, hw]; exact hy) (by rw [hw]; exact hy2) hy3 hcy)
  have HP := Hd.mk hp; have glt := hz.lt; have plt := hp.lt
  have p0 := hp.cell 0 rfl; have p1 := hp.cell 1 rfl; have q0 := hq.cell 0 rfl; have q1 := hq.cell 1 rfl
  clear hp hq hz ha hf hb hy
  go_enter Try.func58, Try.ntmps58
  go_wp2
  go_quiet (fail)
  go_wp2
  go_region_with (go_at_call 67; (with_reducible refine (C.out (w.drewN _) rfl).mono ?_); rintro e w2 ⟨A2, l2, c2, rfl, hd2, hg2, hf2⟩; have H2 := Hd.mk hd2; have HF2 := Hd.mk hf2; have HP2 := Hd.mk (HP.out.grown (gb_undrewN hg2) (by simp; omega)); have HG2 := Hd.mk (gb_undrewN hg2); clear hd2 hg2 hf2; have r1 := HP2.out.cell 1 rfl; have r2 := HP2.out.free 1)
  all_goals
    have r3 : (w2.setCell ⟨p, 1, none⟩ (.slice A2 l2 c2)).cell? ⟨p, 1, none⟩ = some (.slice A2 l2 c2) := (HP2.out.set 1 _).cell 1 rfl
    have r4 : (w2.setCell ⟨p, 1, none⟩ (.slice A2 l2 c2)).cell? ⟨p, 0, none⟩ = some (.bool false) := (HP2.out.set 1 _).cell 0 rfl
    have r5 := (HP2.out.set 1 (.slice A2 l2 c2)).free 0
    have E := Hd.mk (add_end (w := w) HP2.out H2.out HF2.out HG2.out plt hpg)
    clear H2 HF2 HP2 HG2 r1 r2 C
    go_wp2
  all_goals
    go_ret
    exact E.out
end Go.Proofs.Ytjikodjljocpmaa.Kb
