/- append of one element onto a row of the call's own, in a region that draws and outside; own rows of other element types are kept. -/
import Derived.Test.YtjikodjljocpmaaZero
namespace Go.Proofs.Ytjikodjljocpmaa.Kb
open Go Go.RowKit
set_option linter.unusedVariables false
set_option linter.unusedSimpArgs false
section
variable {P : Program} {w w' : World} {base n b by_ : Nat} {t e : TypeId} {i : TypeInfo} {z u v : Value} {xs : List Value}
theorem one_news (hb : Blk w b #[u] t) : ∀ j v, ([u] : List Value)[j]? = some v → w.cell? ((⟨b, 0, none⟩ : Addr).add j) = some v := fun j v hj => hb.cellz j (by simpa using hj)
theorem run_append_one (ty : TypeId) (ht : P.underlying t = some (.slice e)) (hi : P.info? e = some i) (hz : i.zero = some z) (hs : i.size = 1) (hby : i.bytes = by_) (hzs : z.cells.size = 1)
    (hown : w.ownsRow base e 1 v n xs) (hb : Blk w b #[u] e) (h1 : u.oneCell' = true) (h63 : n + 1 ≤ maxLen) (hbytes : (n + 1) * by_ ≤ 140737488355328) (hbase : base ≤ w.heap.size) :
    ∃ v' w', (Builtin.append_ #[t, t] ty #[v, .slice (some ⟨b, 0, none⟩) 1 1]).run P w = .ok v' w' ∧ w'.ownsRow base e 1 v' (n + 1) (xs ++ [u]) ∧ w.grownBy w' v.ownBlock := by
  obtain ⟨v', w', h1, h2, h3, _⟩ := run_append_own w base t ty e i z 1 by_ ht hi hz hs hby hzs (by decide) v n xs hown ⟨b, 0, none⟩ 1 1 [u] rfl (one_news hb) (fun x hx => by simp at hx; subst hx; exact h1) h63 hbytes hbase
  exact ⟨v', w', h1, h2, h3⟩
theorem step_append_one {ops : Array Oper} {o : Oper} {a : Act} {K : Act → World → Prop} {Q : Exit → Act → World → Prop} {E : Prop} (hgd : o.guard = none) (s x : Operand) (t : TypeId)
    (ho : o.op = .call { callee := .builtin .append, args := #[s, x], argTypes := #[t, t] }) (ht : P.underlying t = some (.slice e)) (hi : P.info? e = some i) (hz : i.zero = some z) (hs : i.size = 1) (hby : i.bytes = by_) (hzs : z.cells.size = 1)
    (hv : a.eval s = v) (hown : w.ownsRow base e 1 v n xs) (hx : a.eval x = .slice (some ⟨b, 0, none⟩) 1 1) (hb : Blk w b #[u] e) (h1 : u.oneCell' = true) (h63 : n + 1 ≤ maxLen) (hbytes : (n + 1) * by_ ≤ 140737488355328) (hbase : base ≤ w.heap.size)
    (h : ∀ v' w', w'.ownsRow base e 1 v' (n + 1) (xs ++ [u]) → w.grownBy w' v.ownBlock → K (a.put o.dst v') w') : if Region.wanted o (yielded ops a.tmps) = true then Oper.wp P o a w K Q else E := by
  have hw : Region.wanted o (yielded ops a.tmps) = true := by simp [Region.wanted, hgd]
  rw [if_pos hw]
  obtain ⟨v', w', h1, h2, h3⟩ := run_append_one (P := P) (t := t) o.type ht hi hz hs hby hzs hown hb h1 h63 hbytes hbase
  unfold Oper.wp execOp
  simp only [ho, resolve, invoke, builtin, Sem.run_bind, Sem.run_pure, Result.andThen_ok, List.map_toArray, List.map_cons, List.map_nil, hv, hx, h1]
  exact h v' w' h2 h3
theorem wpList_append_one {ops : Array Oper} {rest : List Oper} {o : Oper} {a : Act} {Q : Exit → Act → World → Prop} (hgd : o.guard = none) (s x : Operand) (t : TypeId)
    (ho : o.op = .call { callee := .builtin .append, args := #[s, x], argTypes := #[t, t] }) (ht : P.underlying t = some (.slice e)) (hi : P.info? e = some i) (hz : i.zero = some z) (hs : i.size = 1) (hby : i.bytes = by_) (hzs : z.cells.size = 1)
    (hv : a.eval s = v) (hown : w.ownsRow base e 1 v n xs) (hx : a.eval x = .slice (some ⟨b, 0, none⟩) 1 1) (hb : Blk w b #[u] e) (h1 : u.oneCell' = true) (h63 : n + 1 ≤ maxLen) (hbytes : (n + 1) * by_ ≤ 140737488355328) (hbase : base ≤ w.heap.size)
    (h : ∀ v' w', w'.ownsRow base e 1 v' (n + 1) (xs ++ [u]) → w.grownBy w' v.ownBlock → wpList P ops Q rest (a.put o.dst v') w') : wpList P ops Q (o :: rest) a w := by
  obtain ⟨v', w', h1, h2, h3⟩ := run_append_one (P := P) (t := t) o.type ht hi hz hs hby hzs hown hb h1 h63 hbytes hbase
  exact Lib.wpList_append_run w hgd s x t t ho v _ hv hx v' w' h1 (h v' w' h2 h3)
end
/-- Rows of other element types lie in other blocks. -/
theorem own_apart {w : World} {b1 b2 n1 n2 s1 s2 : Nat} {e1 e2 : TypeId} {v1 v2 : Value} {xs ys : List Value} (h : w.ownsRow b1 e1 s1 v1 n1 xs) (k : w.ownsRow b2 e2 s2 v2 n2 ys) (ne : e1 ≠ e2) : v1.ownBlock = none ∨ v1.ownBlock ≠ v2.ownBlock := by
  rcases h.2 with ⟨rfl, _⟩ | ⟨g, _, cs, rfl, _, hg, _⟩
  · exact .inl rfl
  · refine .inr fun he => ?_
    rcases k.2 with ⟨rfl, _⟩ | ⟨g', _, cs', rfl, _, hg', _⟩
    · simp [Value.ownBlock] at he
    · simp [Value.ownBlock] at he
      subst he
      rw [hg] at hg'
      simp at hg'
      exact ne hg'.2
theorem own_grown {w w' : World} {b1 b2 n1 n2 s1 s2 : Nat} {e1 e2 : TypeId} {v1 v2 : Value} {xs ys : List Value} (h : w.ownsRow b1 e1 s1 v1 n1 xs) (k : w.ownsRow b2 e2 s2 v2 n2 ys) (ne : e1 ≠ e2) (hg : w.grownBy w' v2.ownBlock) : w'.ownsRow b1 e1 s1 v1 n1 xs :=
  h.kept hg (own_apart h k ne)
/-- A block of another type than the row that grows. -/
theorem Blk.grown_ne {w w' : World} {b2 n2 s2 g : Nat} {cs : Array Value} {t e2 : TypeId} {v2 : Value} {ys : List Value} (h : Blk w g cs t) (k : w.ownsRow b2 e2 s2 v2 n2 ys) (ne : t ≠ e2) (hg : w.grownBy w' v2.ownBlock) : Blk w' g cs t :=
  h.grown hg (own_ne k h ne)
/-- A block below the base of the row that grows. -/
theorem Blk.grown_lt {w w' : World} {b2 n2 s2 g : Nat} {cs : Array Value} {t e2 : TypeId} {v2 : Value} {ys : List Value} (h : Blk w g cs t) (k : w.ownsRow b2 e2 s2 v2 n2 ys) (hlt : g < b2) (hg : w.grownBy w' v2.ownBlock) : Blk w' g cs t :=
  h.grown hg (fun he => by have := (k.lt g he).1; omega)
theorem own_slice {w : World} {b n s : Nat} {e : TypeId} {v : Value} {xs : List Value} (h : w.ownsRow b e s v n xs) : ∃ A c, v = .slice A n c ∧ n ≤ c ∧ c ≤ maxLen := by
  rcases h.2 with ⟨rfl, rfl⟩ | ⟨g, c, cs, rfl, _, _, h1, h2, _⟩
  · exact ⟨_, _, rfl, Nat.le_refl _, Nat.zero_le _⟩
  · exact ⟨_, _, rfl, h1, h2⟩
theorem below_grown_own {B : Nat} {a w w' : World} {b2 n2 s2 : Nat} {e2 : TypeId} {v2 : Value} {ys : List Value} (h : Below B a w) (k : w.ownsRow b2 e2 s2 v2 n2 ys) (hB : B ≤ w.heap.size) (hb : B ≤ b2) (hg : w.grownBy w' v2.ownBlock) : Below B a w' :=
  h.grown hg hB (fun j hj => Nat.le_trans hb (k.lt j hj).1)
theorem own_set_lt {w : World} {b n s : Nat} {e : TypeId} {v : Value} {xs : List Value} (h : w.ownsRow b e s v n xs) {p : Addr} (hp : p.block < b) (u : Value) : (w.setCell p u).ownsRow b e s v n xs :=
  own_set h (fun he => by have := (h.lt _ he).1; omega) u
/-- The cell at place j of an own row. -/
theorem own_at {w : World} {b n : Nat} {e : TypeId} {v : Value} {xs : List Value} (h : w.ownsRow b e 1 v n xs) (j : Nat) (hj : j < xs.length) : ∃ g c, v = .slice (some ⟨g, 0, none⟩) n c ∧ n ≤ c ∧ w.cell? ⟨g, j, none⟩ = some xs[j] ∧ w.frozen? ⟨g, j, none⟩ = false ∧ b ≤ g := by
  have hl := h.1
  rcases h.2 with ⟨_, rfl⟩ | ⟨g, c, cs, rfl, hb, hg, h1, h2, h3, h4⟩
  · omega
  · refine ⟨g, c, rfl, h1, ?_, Blk.free (t := e) hg j, hb⟩
    refine Blk.cell (t := e) hg j ?_
    have : (cs.toList.take (n * 1))[j]? = some xs[j] := by rw [h4]; simp [hj]
    rw [List.getElem?_take, if_pos (by omega)] at this
    rw [← Array.getElem?_toList, this]
end Go.Proofs.Ytjikodjljocpmaa.Kb
