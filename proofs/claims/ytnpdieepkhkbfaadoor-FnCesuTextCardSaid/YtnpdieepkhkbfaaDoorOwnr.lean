/- Rows of the call's own: the lemmas of XZero and XSpec that need no Encoder. -/
import Derived.Test.YtnpdieepkhkbfaaDoorKb
import Derived.Laws.AppendOwn
import Derived.Laws.OwnMore
import Derived.Lib.SmallJoins
import Derived.Lib.AppendZerosOnto
import Derived.Deep.RegionLaw
import Derived.OwnWalk
namespace Go.Proofs.YtnpdieepkhkbfaaDoor.Kb
open Go Go.RowKit
set_option linter.unusedVariables false
set_option linter.unusedSimpArgs false
theorem own_rd {w : World} {B n : Nat} {e : TypeId} {v : Value} {xs : List Int} (h : w.ownsRow B e 1 v n (bc xs)) (hs : n ≤ 140737488351232) : ∃ A c, v = .slice A n c ∧ n ≤ c ∧ c ≤ maxLen ∧ Rd w [] A n xs ∧ (0 < n → A.isSome = true) ∧ ∀ ad, A = some ad → B ≤ ad.block := by
  obtain ⟨h1, h2⟩ := h
  have hl : xs.length = n := by simpa using h1
  rcases h2 with ⟨rfl, h0⟩ | ⟨g, cap, cur, rfl, hg, hh, h3, h4, h5, h6⟩
  · subst h0
    obtain rfl : xs = [] := List.eq_nil_of_length_eq_zero hl
    exact ⟨none, 0, rfl, Nat.le_refl _, Nat.zero_le _, ⟨rfl, by omega, fun j hj => by simp at hj⟩, fun h => by omega, fun ad h => by cases h⟩
  · refine ⟨_, cap, rfl, h3, h4, ⟨hl, hs, fun j hj => ⟨_, rfl, ?_, (Array.getElem?_eq_some_iff.1 hh).1, by simp⟩⟩, fun _ => rfl, fun ad h => by cases h; exact hg⟩
    refine Blk.cellz hh j ?_
    have : (cur.toList.take (n * 1))[j]? = (bc xs)[j]? := by rw [h6]
    rw [List.getElem?_take, if_pos (by omega)] at this
    rw [← Array.getElem?_toList, this]
    simp [hj]
theorem own_ne {w : World} {base n s g : Nat} {e t : TypeId} {v : Value} {xs : List Value} {cs : Array Value} (h : w.ownsRow base e s v n xs) (hb : Blk w g cs t) (ne : t ≠ e) : v.ownBlock ≠ some g := by
  intro hv
  rcases h.2 with ⟨rfl, _⟩ | ⟨g', cap, cur, rfl, _, hg, _⟩
  · simp [Value.ownBlock] at hv
  · simp [Value.ownBlock] at hv
    subst hv
    unfold Blk at hb
    rw [hg] at hb
    simp at hb
    exact ne hb.2.symm
theorem own_set {w : World} {base n s : Nat} {e : TypeId} {v : Value} {xs : List Value} (h : w.ownsRow base e s v n xs) {p : Addr} (ne : v.ownBlock ≠ some p.block) (u : Value) : (w.setCell p u).ownsRow base e s v n xs :=
  h.kept (row := some p.block) ⟨rfl, rfl, rfl, by simp [World.setCell], fun k hk hs => Below.heap_setCell _ _ _ _ (fun e => hs (by rw [e]))⟩ (.inr ne)
theorem own_below {w w' : World} {base n s : Nat} {e : TypeId} {v : Value} {xs : List Value} (h : w.ownsRow base e s v n xs) (hb : Below w.heap.size w w') : w'.ownsRow base e s v n xs :=
  h.kept (row := none) ⟨hb.os, hb.tape, hb.output, hb.size, fun k hk _ => hb.block k hk⟩ (by cases h : Value.ownBlock _ with | none => exact .inl rfl | some k => exact .inr (by simp))
/-- append of bytes that can be read, nil or not, onto a row of the call's own. -/
theorem run_append_rd {P : Program} (w : World) (base : Nat) (t ty e : TypeId) (i : TypeInfo) (z : Value) (ht : P.underlying t = some (.slice e)) (hi : P.info? e = some i) (hz : i.zero = some z)
    (hs : i.size = 1) (hby : i.bytes = 1) (hzs : z.cells.size = 1) (v : Value) (n : Nat) (xs : List Value) (hown : w.ownsRow base e 1 v n xs) (A : Option Addr) (m c : Nat) (ns : List Int) (hr : Rd w [] A m ns)
    (hbytes : n + m ≤ 140737488355328) (hbase : base ≤ w.heap.size) :
    ∃ v' w', (Builtin.append_ #[t, t] ty #[v, .slice A m c]).run P w = .ok v' w' ∧ w'.ownsRow base e 1 v' (n + m) (xs ++ bc ns) ∧ w.grownBy w' v.ownBlock := by
  cases A with
  | none =>
    have hl : ns.length = 0 := by
      rcases Nat.eq_zero_or_pos ns.length with h | h
      · exact h
      · obtain ⟨_, h1, _⟩ := hr.at_ 0 h
        cases h1
    have h0 : ns = [] := List.eq_nil_of_length_eq_zero hl
    have hm : m = 0 := by rw [← hr.len]; exact hl
    subst h0
    subst hm
    refine ⟨v, w, ?_, by simpa using hown, World.grownBy.refl w _⟩
    rcases hown.2 with ⟨rfl, rfl⟩ | ⟨g, cap, cur, rfl, _, _, hnc, _⟩
    · simp [Builtin.append_, run_underlying ht, sizeOf, typeInfo, hi, Builtin.lenOf, Builtin.firstCells]
    · simp [Builtin.append_, run_underlying ht, sizeOf, typeInfo, hi, Builtin.lenOf, Builtin.firstCells, hnc, storeCells]
  | some ad =>
    have hnews : ∀ j u, (bc ns)[j]? = some u → w.cell? (ad.add j) = some u := by
      intro j u hu
      rw [List.getElem?_map] at hu
      simp at hu
      obtain ⟨x, hx, rfl⟩ := hu
      obtain ⟨hj, rfl⟩ := List.getElem?_eq_some_iff.1 hx
      obtain ⟨ad', h1, h2, _⟩ := hr.at_ j hj
      cases h1
      exact h2
    obtain ⟨v', w', h1, h2, h3, _⟩ := run_append_own w base t ty e i z 1 1 ht hi hz hs hby hzs (by decide) v n xs hown ad m c (bc ns) (by simp [hr.len]) hnews (fun u hu => by obtain ⟨x, _, rfl⟩ := List.mem_map.1 hu; rfl) (by unfold maxLen; omega) (by omega) hbase
    exact ⟨v', w', h1, h2, h3⟩
theorem wpList_append_rd {P : Program} {w : World} {ops : Array Oper} {rest : List Oper} {o : Oper} {a : Act} {Q : Exit → Act → World → Prop} (hgd : o.guard = none) (s x : Operand) (t : TypeId)
    (ho : o.op = .call { callee := .builtin .append, args := #[s, x], argTypes := #[t, t] })
    (base : Nat) (e : TypeId) (i : TypeInfo) (z : Value) (ht : P.underlying t = some (.slice e)) (hi : P.info? e = some i) (hz : i.zero = some z) (hs : i.size = 1) (hby : i.bytes = 1) (hzs : z.cells.size = 1)
    (v : Value) (n : Nat) (xs : List Value) (hv : a.eval s = v) (hown : w.ownsRow base e 1 v n xs) (A : Option Addr) (m c : Nat) (ns : List Int) (hx : a.eval x = .slice A m c) (hr : Rd w [] A m ns)
    (hbytes : n + m ≤ 140737488355328) (hbase : base ≤ w.heap.size)
    (h : ∀ v' w', w'.ownsRow base e 1 v' (n + m) (xs ++ bc ns) → w.grownBy w' v.ownBlock → wpList P ops Q rest (a.put o.dst v') w') : wpList P ops Q (o :: rest) a w := by
  obtain ⟨v', w', h1, h2, h3⟩ := run_append_rd (P := P) w base t o.type e i z ht hi hz hs hby hzs v n xs hown A m c ns hr hbytes hbase
  exact Lib.wpList_append_run w hgd s x t t ho v _ hv hx v' w' h1 (h v' w' h2 h3)
theorem step_append_rd {P : Program} {ops : Array Oper} {o : Oper} {a : Act} {w : World} {K : Act → World → Prop} {Q : Exit → Act → World → Prop} {E : Prop} (hgd : o.guard = none) (s x : Operand) (t : TypeId)
    (ho : o.op = .call { callee := .builtin .append, args := #[s, x], argTypes := #[t, t] })
    (base : Nat) (e : TypeId) (i : TypeInfo) (z : Value) (ht : P.underlying t = some (.slice e)) (hi : P.info? e = some i) (hz : i.zero = some z) (hs : i.size = 1) (hby : i.bytes = 1) (hzs : z.cells.size = 1)
    (v : Value) (n : Nat) (xs : List Value) (hv : a.eval s = v) (hown : w.ownsRow base e 1 v n xs) (A : Option Addr) (m c : Nat) (ns : List Int) (hx : a.eval x = .slice A m c) (hr : Rd w [] A m ns)
    (hbytes : n + m ≤ 140737488355328) (hbase : base ≤ w.heap.size)
    (h : ∀ v' w', w'.ownsRow base e 1 v' (n + m) (xs ++ bc ns) → w.grownBy w' v.ownBlock → K (a.put o.dst v') w') : if Region.wanted o (yielded ops a.tmps) = true then Oper.wp P o a w K Q else E := by
  have hw : Region.wanted o (yielded ops a.tmps) = true := by simp [Region.wanted, hgd]
  rw [if_pos hw]
  obtain ⟨v', w', h1, h2, h3⟩ := run_append_rd (P := P) w base t o.type e i z ht hi hz hs hby hzs v n xs hown A m c ns hr hbytes hbase
  unfold Oper.wp execOp
  simp only [ho, resolve, invoke, builtin, Sem.run_bind, Sem.run_pure, Result.andThen_ok, List.map_toArray, List.map_cons, List.map_nil, hv, hx, h1]
  exact h v' w' h2 h3
end Go.Proofs.YtnpdieepkhkbfaaDoor.Kb
