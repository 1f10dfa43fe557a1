/- math/big: nat.add of one word to one or to none; nat.set. -/
import Derived.Test.YtjikodjljocpmaaBigO
import Derived.Lib.SlBuf
import Derived.Laws.IdiomCopy
namespace Go.Proofs.Ytjikodjljocpmaa.Kb
open Go Go.RowKit
set_option linter.unusedVariables false
set_option linter.unusedSimpArgs false
set_option maxHeartbeats 1000000
set_option maxRecDepth 100000 in
theorem addFresh (g cy gy a b : Nat) (f : Nat → Value) (t : List Value) (w : World) (hz : Blk w g (mapR f 1 t) 91) (ha : a < WB) (hf : f 0 = .int .u64 a)
    (hb : b < WB) (hy : w.cell? ⟨gy, 0, none⟩ = some (.int .u64 b)) (hy2 : gy < w.heap.size) (hcy : 1 ≤ cy) :
    Calls Try.prog 67 #[.slice (some ⟨g, 0, none⟩) 1 1, .slice (some ⟨g, 0, none⟩) 1 1, .slice (some ⟨gy, 0, none⟩) 1 cy] w fun e w' => SumOut w g (a + b) e w' := by
  have hb0 : limb WB b 0 = b := by unfold limb; rw [Nat.pow_zero, Nat.div_one]; exact Nat.mod_eq_of_lt hb
  have ha0 : limb WB a 0 = a := by unfold limb; rw [Nat.pow_zero, Nat.div_one]; exact Nat.mod_eq_of_lt ha
  have hsum : a + b < WB ^ 2 := by
    have : WB ^ 2 = WB * WB := by rw [Nat.pow_succ, Nat.pow_one]
    have : WB * 2 ≤ WB * WB := Nat.mul_le_mul_left _ WB1
    omega
  have CM := Hd.mk (show Calls Try.prog 71 #[.slice (some ⟨g, 0, none⟩) 1 1, .int .i64 2] w fun e w' => MakeOut w 2 e w' from natMake (some ⟨g, 0, none⟩) 1 1 2 w (by omega) (by omega) (by omega))
  have HZ := Hd.mk hz
  have CV := Hd.mk (fun (w2 : World) (c : Nat) (h2 : 2 ≤ c) (hb2 : Blk w2 w.heap.size (zs c (.int .u64 0)).toArray 91) (hl : Below w.heap.size w w2) =>
    addVV w.heap.size 1 c c (fun _ => .int .u64 0) [] (some ⟨g, 0, none⟩) (some ⟨gy, 0, none⟩) 1 cy a b w2.drew (by rw [← zs_mapR]; exact hb2.drew) (by omega) (by omega)
      (fun j h1 h2 => by
        obtain rfl : j = 0 := by omega
        exact ⟨g, rfl, by rw [ha0, ← hf]; exact ((hz.below hl hz.lt).cell 0 (mapR_get (by omega))), Nat.lt_of_lt_of_le hz.lt hl.size⟩)
      (fun j h1 h2 => by
        obtain rfl : j = 0 := by omega
        exact ⟨gy, rfl, by rw [hb0]; exact (hl.cell (p := ⟨gy, 0, none⟩) hy2).trans hy, Nat.lt_of_lt_of_le hy2 hl.size⟩)
      (fun ad h => by cases h; show gy ≠ w.heap.size; omega))
  have LO := Hd.mk (limb_out (l := 1) (by rwa [Nat.pow_one]) (by rwa [Nat.pow_one]) : limb WB (a + b) 1 = cin WB a b 1); have HS := Hd.mk hsum
  clear hz hf hb0 ha0 hsum hb hy ha
  have i2 : (1 : Int) ≤ cy := by omega
  go_enter Try.func67, Try.ntmps67
  go_wp2_with fail
  with_reducible refine CM.out.mono ?_
  rintro e w2 ⟨c, rfl, hc1, hc2, hb2, hl2⟩
  have hl3 := Hd.mk (show w.grownBy w2 (some g) from ⟨hl2.os, hl2.tape, hl2.output, hl2.size, fun k hk _ => hl2.block k hk⟩)
  have CV2 := Hd.mk (CV.out w2 c hc1 hb2 hl2)
  clear CM CV hb2 hl2
  have i1 : (1 : Int) ≤ c := by omega
  go_wp2_with fail
  first
    | (go_region_held3 (fun W => True) (first | assumption | trivial)
        (first | (go_at_call 76; (with_reducible refine CV2.out.mono ?_); rintro e w3 ⟨rfl, h1, h2⟩)))
    | fail
  have H1 := Hd.mk h1
  have G1 := Hd.mk (show w.grownBy w3 (some g) from by
    have h3 := grownBy_of_drew h2
    exact ⟨h3.os.trans hl3.out.os, h3.tape.trans hl3.out.tape, h3.output.trans hl3.out.output, Nat.le_trans hl3.out.size h3.size, fun k hk hne => (h3.block k (Nat.lt_of_lt_of_le hk hl3.out.size) (fun e => by cases e; omega)).trans (hl3.out.block k hk hne)⟩)
  clear h1 h2 CV2
  have f3 := H1.out.free 1
  obtain ⟨v3, s3⟩ : ∃ v, w3.cell? ⟨w.heap.size, 1, none⟩ = some v := ⟨_, H1.out.cell 1 (mapR_get (by omega))⟩
  have HN := Hd.mk (natNorm (some ⟨w.heap.size, 0, none⟩) 2 c (a + b) _ (blk_dig (H1.out.set 1 (.int .u64 (cin WB a b 1 : Nat))|>.cast (by rw [mapR_set (by omega)])) hc1 hc1 (by omega) HS.out (fun j hj => by
      by_cases e : j = 1
      · subst e; rw [if_pos rfl, LO.out]
      · rw [if_neg e, if_pos (by omega)])))
  have GS := Hd.mk (show w.grownBy (w3.setCell ⟨w.heap.size, 1, none⟩ (.int .u64 (cin WB a b 1 : Nat))) (some g) from by
    have h3 := gb_set w3 w.heap.size 1 (.int .u64 (cin WB a b 1 : Nat))
    have h4 := G1.out
    exact ⟨h3.os.trans h4.os, h3.tape.trans h4.tape, h3.output.trans h4.output, Nat.le_trans h4.size h3.size, fun k hk hne => (h3.block k (Nat.lt_of_lt_of_le hk h4.size) (fun e => by cases e; omega)).trans (h4.block k hk hne)⟩)
  go_wp2_with fail
  with_reducible refine HN.out.mono ?_
  rintro e w4 ⟨⟨m, rfl, hm⟩, rfl⟩
  have HM := Hd.mk hm
  clear hm HN
  go_wp2
  go_ret
  exact ⟨_, _, _, rfl, HM.out, GS.out, fun ad h => by cases h; exact .inr (Nat.le_refl _)⟩
set_option maxRecDepth 100000 in
theorem natSet1 (g l c gy cy b N : Nat) (f : Nat → Value) (t : List Value) (w : World) (hz : Blk w g (mapR f N t) 91) (hN : 1 ≤ N) (hc0 : 1 ≤ c) (hc : c ≤ 8796093022208) (hy : w.cell? ⟨gy, 0, none⟩ = some (.int .u64 b)) :
    Calls Try.prog 73 #[.slice (some ⟨g, 0, none⟩) l c, .slice (some ⟨gy, 0, none⟩) 1 cy] w fun e w' => e = .returned (.slice (some ⟨g, 0, none⟩) 1 c) ∧ w' = w.setCell ⟨g, 0, none⟩ (.int .u64 b) := by
  have CM := Hd.mk (fun w => natMake_fitsI (some ⟨g, 0, none⟩) l c 1 1 w hc0 (by omega) rfl)
  have hr := run_copy_cells (P := Try.prog) w 78 78 3 91 g 0 1 c ⟨gy, 0, none⟩ 1 cy [.int .u64 b] Try.underlying78 (by kernel_rfl) rfl
    (fun j v h => by
      cases j with
      | zero => cases h; exact hy
      | succ j => cases h)
    (fun j h => by
      obtain rfl : j = 0 := by simpa using h
      rw [show w.cell? ⟨g, 0 + 0, none⟩ = some (f 0) from hz.cell 0 (mapR_get (by omega))]; rfl)
    (fun j h => by
      obtain rfl : j = 0 := by simpa using h
      exact hz.free 0) (fun v hv => by simp at hv; subst hv; rfl)
  go_enter Try.func73, Try.ntmps73
  go_wp2_with fail
  with_reducible refine (CM.out _).mono ?_
  rintro e w2 ⟨rfl, rfl⟩
  go_wp2_with (at_builtin; refine Lib.wpList_copy_run _ rfl _ _ 78 78 rfl _ _ rfl rfl hr ?_)
  go_ret
  exact ⟨rfl, rfl⟩
end Go.Proofs.Ytjikodjljocpmaa.Kb
