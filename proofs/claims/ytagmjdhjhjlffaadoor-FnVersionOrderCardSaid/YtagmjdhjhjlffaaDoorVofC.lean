/- Versions: hdbFeatureAvailability: a map of two features. -/
import Derived.Test.YtagmjdhjhjlffaaDoorVofB
import Derived.Laws.IdiomRangeMap
import Derived.Carry
import Derived.MapKept
namespace Go.Proofs.YtagmjdhjhjlffaaDoor.Kb
open Go Go.RowKit
set_option linter.unusedVariables false
set_option linter.unusedSimpArgs false
set_option maxHeartbeats 6400000
/-- The world behind a store of a new key. -/
def mapPut (w : World) (r : Nat) (es : Array MapEntry) (clock : Nat) (key val : Value) : World := { w with heap := w.heap.setIfInBounds r (.map (es.push ⟨key, val, clock⟩) (clock + 1)) }
theorem run_put {P : Program} {w : World} {mty kt et : TypeId} {d : TypeDesc} {r : Nat} {es : Array MapEntry} {clock : Nat} {key val : Value} (hm : P.underlying mty = some (.map kt et)) (hd : P.underlying kt = some d) (hb : w.heap[r]? = some (.map es clock))
    (hk : MapKept.IsKey d key) (h1 : Instr.findNow d key es.toList 0 = some none) : (Instr.mapUpdate mty (.map (some r)) key val).run P w = .ok () (mapPut w r es clock key val) := by
  simp [Instr.mapUpdate, run_underlying hm, MapKept.run_getObj_map hb, MapKept.run_checkKey hd hk, MapKept.run_findKey hd h1, MapKept.run_setObj_map _ hb, Result.andThen, mapPut]
theorem put_map {w : World} {r : Nat} {es : Array MapEntry} {clock : Nat} (hb : w.heap[r]? = some (.map es clock)) (key val : Value) : (mapPut w r es clock key val).heap[r]? = some (.map (es.push ⟨key, val, clock⟩) (clock + 1)) := by
  have hlt : r < w.heap.size := (Array.getElem?_eq_some_iff.1 hb).1
  simp [mapPut, hlt]
theorem put_blk {w : World} {r : Nat} {es : Array MapEntry} {clock : Nat} {key val : Value} {g : Nat} {cs : Array Value} {t : TypeId} (h : Blk w g cs t) (hne : g ≠ r) : Blk (mapPut w r es clock key val) g cs t := by
  unfold Blk at *
  simp only [mapPut]
  rw [Array.getElem?_setIfInBounds_ne (Ne.symm hne)]
  exact h
theorem put_below {a w : World} {B r : Nat} {es : Array MapEntry} {clock : Nat} {key val : Value} (h : Below B a w) (hr : B ≤ r) : Below B a (mapPut w r es clock key val) :=
  h.trans ⟨rfl, rfl, rfl, by simp [mapPut], fun k hk => by simp only [mapPut]; rw [Array.getElem?_setIfInBounds_ne (by omega)]⟩
/-- The two features. -/
def feats (g1 g2 : Nat) : Array MapEntry := #[⟨.int .u64 2, .slice (some ⟨g1, 0, none⟩) 5 5, 0⟩, ⟨.int .u64 4, .slice (some ⟨g2, 0, none⟩) 5 5, 1⟩]
def Feats (w : World) (e : Ending) (w' : World) : Prop := ∃ g1 g2, e = .returned (.map (some w.heap.size)) ∧ w'.heap[w.heap.size]? = some (.map (feats g1 g2) 2) ∧ Blk w' g1 (five (ver3 2 0 0)) 22 ∧ Blk w' g2 (five (ver3 2 0 42)) 22 ∧ Below w.heap.size w w'
set_option maxRecDepth 100000 in
theorem features (w : World) : Calls Tryd.prog 26 #[] w fun e w' => Feats w e w' := by
  have C1 := Hd.mk (fun W => ver2_0_0 W)
  have C2 := Hd.mk (fun W => ver2_0_42 W)
  have hmk := run_makeMap (P := Tryd.prog) 54 w
  have L0 := Hd.mk ((Below.refl w.heap.size w).alloc (Nat.le_refl _) (.map #[] 0))
  have M0 : Hd ((w.alloc (.map #[] 0)).heap[w.heap.size]? = some (.map #[] 0)) := ⟨heap_alloc_new w _⟩
  go_enter Tryd.func26, Tryd.ntmps26
  go_wp2_with fail
  with_reducible refine (C1.out _).mono ?_
  intro e w1 h1
  obtain ⟨g1, rfl, hg1, hB1, hb1⟩ := h1
  have hm : w1.heap[w.heap.size]? = some (.map #[] 0) := (hb1.block _ (by simp)).trans M0.out
  have hp := run_put (P := Tryd.prog) (mty := 54) (key := .int .u64 2) (val := .slice (some ⟨g1, 0, none⟩) 5 5) Tryd.underlying54 Tryd.underlying22 hm rfl rfl
  have B1 := Hd.mk (put_blk (es := #[]) (clock := 0) (key := .int .u64 2) (val := .slice (some ⟨g1, 0, none⟩) 5 5) hB1 (r := w.heap.size) (by simp at hg1; omega))
  have L1 := Hd.mk (put_below (es := #[]) (clock := 0) (key := .int .u64 2) (val := .slice (some ⟨g1, 0, none⟩) 5 5) (L0.out.trans (hb1.mono L0.out.size)) (Nat.le_refl _))
  have M1 := Hd.mk (put_map hm (.int .u64 2) (.slice (some ⟨g1, 0, none⟩) 5 5))
  obtain ⟨W1, hW1⟩ : ∃ W1, W1 = mapPut w1 w.heap.size #[] 0 (.int .u64 2) (.slice (some ⟨g1, 0, none⟩) 5 5) := ⟨_, rfl⟩
  rw [← hW1] at hp B1 L1 M1
  have G1 := Hd.mk hg1
  clear hm hB1 hb1 hW1 hg1
  go_wp2_with fail
  with_reducible refine (C2.out _).mono ?_
  intro e w2 h2
  obtain ⟨g2, rfl, hg2, hB2, hb2⟩ := h2
  have hlt : w.heap.size < W1.heap.size := (Array.getElem?_eq_some_iff.1 M1.out).1
  have hm2 := (hb2.block _ hlt).trans M1.out
  have hp2 := run_put (P := Tryd.prog) (mty := 54) (key := .int .u64 4) (val := .slice (some ⟨g2, 0, none⟩) 5 5) Tryd.underlying54 Tryd.underlying22 hm2 rfl rfl
  have hM2 := put_map hm2 (.int .u64 4) (.slice (some ⟨g2, 0, none⟩) 5 5)
  have hne1 : g1 ≠ w.heap.size := by have := G1.out; simp at this; omega
  have hA2 := put_blk (es := #[].push ⟨.int .u64 2, .slice (some ⟨g1, 0, none⟩) 5 5, 0⟩) (clock := 0 + 1) (key := .int .u64 4) (val := .slice (some ⟨g2, 0, none⟩) 5 5) (B1.out.below hb2 B1.out.lt) (r := w.heap.size) hne1
  have hB2' := put_blk (es := #[].push ⟨.int .u64 2, .slice (some ⟨g1, 0, none⟩) 5 5, 0⟩) (clock := 0 + 1) (key := .int .u64 4) (val := .slice (some ⟨g2, 0, none⟩) 5 5) hB2 (r := w.heap.size) (by omega)
  have hL2 := put_below (es := #[].push ⟨.int .u64 2, .slice (some ⟨g1, 0, none⟩) 5 5, 0⟩) (clock := 0 + 1) (key := .int .u64 4) (val := .slice (some ⟨g2, 0, none⟩) 5 5) (L1.out.trans (hb2.mono L1.out.size)) (Nat.le_refl _)
  obtain ⟨W2, hW2⟩ : ∃ W2, W2 = mapPut w2 w.heap.size (#[].push ⟨.int .u64 2, .slice (some ⟨g1, 0, none⟩) 5 5, 0⟩) (0 + 1) (.int .u64 4) (.slice (some ⟨g2, 0, none⟩) 5 5) := ⟨_, rfl⟩
  rw [← hW2] at hp2 hM2 hA2 hB2' hL2
  have M2 := Hd.mk hM2; have A2 := Hd.mk hA2; have B2 := Hd.mk hB2'; have L2 := Hd.mk hL2
  clear hm2 hM2 hA2 hB2' hL2 hB2 hb2 hW2 hg2 hlt hne1
  go_wp2
  go_ret
  exact ⟨g1, g2, rfl, M2.out, A2.out, B2.out, L2.out⟩
end Go.Proofs.YtagmjdhjhjlffaaDoor.Kb
