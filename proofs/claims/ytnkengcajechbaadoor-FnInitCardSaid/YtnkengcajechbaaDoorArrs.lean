/- Results that lie in memory: arrays. -/
import Derived.Test.YtnkengcajechbaaDoorPack
import Derived.Laws.ResultCell
import Derived.BigRegion
import Derived.OpenShut
import Derived.ChangeKeysEq
namespace Go.Proofs.YtnkengcajechbaaDoor.Kb
open Go Go.RowKit
set_option linter.unusedVariables false
set_option linter.unusedSimpArgs false
theorem res_c1 {P : Program} {fn : Func} {p u : Tmp} {ty : TypeId} (h : fn.results = #[.cell p ty, .tmp u]) (tmps : Array Value) (w : World) (g : Nat) (hp : tmps.getD p undef = .pointer (some ⟨g, 0, none⟩)) (cs : Array Value) (t : TypeId) (d : TypeDesc)
    (hb : Blk w g cs t) (hu : P.underlying ty = some d) (hd : (match d with | .struct _ | .array _ _ => true | _ => false) = true) (hi : (P.info? ty).map (·.size) = some cs.size) :
    (results fn tmps).run P w = .ok (.tuple #[.agg cs, tmps.getD u undef]) w := by
  have hl := run_loadVar_row (P := P) w g t ty cs (0, 0) d hb hu hd hi
  rw [results_cell_tmp h, hp]
  simp [asAddr, Result.andThen, hl]
theorem res_c2 {P : Program} {fn : Func} {p u v : Tmp} {ty : TypeId} (h : fn.results = #[.cell p ty, .tmp u, .tmp v]) (tmps : Array Value) (w : World) (g : Nat) (hp : tmps.getD p undef = .pointer (some ⟨g, 0, none⟩)) (cs : Array Value) (t : TypeId) (d : TypeDesc)
    (hb : Blk w g cs t) (hu : P.underlying ty = some d) (hd : (match d with | .struct _ | .array _ _ => true | _ => false) = true) (hi : (P.info? ty).map (·.size) = some cs.size) :
    (results fn tmps).run P w = .ok (.tuple #[.agg cs, tmps.getD u undef, tmps.getD v undef]) w := by
  have hl := run_loadVar_row (P := P) w g t ty cs (0, 0) d hb hu hd hi
  have hp' : tmps[p]?.getD undef = .pointer (some ⟨g, 0, none⟩) := by simpa using hp
  simp only [results, h]
  simp [Sem.run_bind, Result.andThen, hp', asAddr, hl]
/-- An array of whole numbers equals itself. -/
theorem eq_ints {P : Program} (k : IntKind) (w : World) (d n : Nat) {t e : TypeId} (xs : List Int) {i : TypeInfo} (ht : P.underlying t = some (.array n e)) (he : P.underlying e = some (.int k)) (hi : P.info? e = some i) (hc : P.cellsOf e = 1) (hn : xs.length = n) :
    (Op.equalIn (d + 2) t (.agg (xs.map (Value.int k)).toArray) (.agg (xs.map (Value.int k)).toArray)).run P w = .ok true w := by
  rw [run_equalIn_array w (d + 1) _ _ ht hi, hc]
  have hl : ∀ i ∈ List.range n, i < n := fun i hi => List.mem_range.1 hi
  generalize List.range n = l at hl
  induction l with
  | nil => simp [Op.eqItems]
  | cons j l ih =>
    have hj : j < xs.length := by rw [hn]; exact hl j List.mem_cons_self
    have px : (part e (xs.map (Value.int k)).toArray (j * 1)).run P w = .ok (.int k xs[j]) w := by
      simp [part, isAgg, run_underlying he, hj]
    have pe : (Op.equalIn (d + 1) e (.int k xs[j]) (.int k xs[j])).run P w = .ok (xs[j] == xs[j]) w := run_equalIn_int w d e k k _ _ he
    simp only [Op.eqItems, Sem.run_bind, px, pe, Result.andThen_ok]
    simp only [beq_self_eq_true, Bool.not_true, Bool.false_eq_true, if_false]
    exact ih (fun i hi => hl i (List.mem_cons_of_mem _ hi))
/-- What is read stays where it is, across writes to other blocks. -/
theorem Rd.cross {w w' : World} {S S' : List Nat} {A : Option Addr} {n : Nat} {xs : List Int} (h : Rd w S' A n xs) (hS : Rd w S A n xs) (hb : Bel w.heap.size S w w') : Rd w' S' A n xs :=
  ((h.join hS).bel (hb.weak (Nat.le_refl _) (fun x hx _ => List.mem_append_right _ hx))).sub (fun x hx => List.mem_append_left _ hx)
set_option maxRecDepth 100000 in
theorem cnt_blk (d c : Nat) (cs : Array Value) (hc : cs[5]? = some (.int .i64 c)) (w : World) (h : Blk w d cs 64) :
    Calls Tryd.prog 14 #[.pointer (some ⟨d, 0, none⟩)] w fun e w' => e = .returned (.int .i64 c) ∧ w = w' := by
  have c5 := h.cell 5 hc
  clear h hc
  go_enter Tryd.func14, Tryd.ntmps14
  go_wp2
  go_ret
  exact ⟨rfl, rfl⟩
theorem infoI : (Tryd.prog.info? 3).map (fun i => (i.zero, i.size, i.bytes)) = some (some (.int .i64 0), 1, 8) := by kernel_rfl
end Go.Proofs.YtnkengcajechbaaDoor.Kb
