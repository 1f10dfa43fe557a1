/- append(s, make([]T, k)...) onto a row that the call itself made, elements of one cell. -/
import Derived.Test.YtmgckcngedpgoaaDoorPack
import Derived.Lib.AppendZerosOnto
import Derived.Laws.OwnMore
import Derived.Lib.SmallJoins
import Derived.Deep.RegionLaw
import Derived.OwnWalk
namespace Go.Proofs.YtmgckcngedpgoaaDoor.Kb
open Go Go.RowKit
set_option linter.unusedVariables false
set_option linter.unusedSimpArgs false
theorem toList_zeroCells (z : Value) (k : Nat) : (Builtin.zeroCells #[z] k).toList = List.replicate k z := by
  apply List.ext_getElem
  · simp [Builtin.zeroCells]
  · intro i h1 h2
    simp [Builtin.zeroCells, Nat.mod_one]
theorem zeroCells_eq (z : Value) (k : Nat) : Builtin.zeroCells #[z] k = (List.replicate k z).toArray := by
  rw [← toList_zeroCells]
theorem run_append_room_zeros {P : Program} (w : World) (t tn ty e : TypeId) (i : TypeInfo) (z : Value) (kn kq : IntKind) (ht : P.underlying t = some (.slice e)) (htn : P.underlying tn = some (.int kn)) (hi : P.info? e = some i) (hz : i.zero = some z)
    (hs : i.size = 1) (hzc : z.cells = #[z]) (h1 : z.oneCell' = true) (g sLen sCap : Nat) (cur : Array Value) (hg : w.heap[g]? = some (.cells cur e (0, 0)))
    (k : Nat) (h0 : 0 < k) (h48 : k * i.bytes ≤ 281474976710656) (h63 : k ≤ 9223372036854775807) (hroom : sLen + k ≤ sCap) (hfit : sLen + k ≤ cur.size) :
    (Builtin.append_ #[t, tn] ty #[.slice (some ⟨g, 0, none⟩) sLen sCap, .int kq k]).run P w =
      .ok (.slice (some ⟨g, 0, none⟩) (sLen + k) sCap) (w.setRow g (cur.toList.take sLen ++ List.replicate k z ++ cur.toList.drop (sLen + k)).toArray) := by
  have hst := run_storeCells_at P g sLen e (List.replicate k z) 0 cur w hg (by simpa using hfit) (fun u hu => by rw [(List.mem_replicate.1 hu).2]; exact h1)
  simp only [Nat.add_zero, List.length_replicate] at hst
  have hk : k ≠ 0 := by omega
  have hw : IntKind.i64.wrap (k : Int) = k := by rw [IntKind.wrap_i64]; omega
  have h48i : ¬ (281474976710656 < (k : Int) * (i.bytes : Int)) := by
    rw [← Int.natCast_mul]
    omega
  have hneg : ¬ ((k : Int) < 0) := by omega
  have hcells : (Builtin.zeroCells #[z] k).toList = List.replicate k z := toList_zeroCells z k
  simp [Builtin.append_, run_underlying ht, run_underlying htn, sizeOf, typeInfo, zeroValue, hi, hz, hs, asInt, asIntOf, hw, hneg, hk, h48i, hroom, hzc, hcells, Addr.add_lit, hst]
theorem run_append_own_zeros {P : Program} (w : World) (base : Nat) (t tn ty e : TypeId) (i : TypeInfo) (z : Value) (kn kq : IntKind) (ht : P.underlying t = some (.slice e)) (htn : P.underlying tn = some (.int kn)) (hi : P.info? e = some i) (hz : i.zero = some z)
    (hs : i.size = 1) (hzc : z.cells = #[z]) (h1 : z.oneCell' = true) (v : Value) (n : Nat) (xs : List Value) (hown : w.ownsRow base e 1 v n xs) (k : Nat) (h0 : 0 < k)
    (h63 : n + k ≤ maxLen) (hbytes : (n + k) * i.bytes ≤ 140737488355328) (hbase : base ≤ w.heap.size) :
    ∃ v' w', (Builtin.append_ #[t, tn] ty #[v, .int kq k]).run P w = .ok v' w' ∧ w'.ownsRow base e 1 v' (n + k) (xs ++ List.replicate k z) ∧ w.grownBy w' v.ownBlock := by
  have hsmall : n + k ≤ 9223372036854775807 := by simp only [maxLen] at h63; omega
  have hlen : (xs ++ List.replicate k z).length = (n + k) * 1 := by rw [List.length_append, hown.1, List.length_replicate]; omega
  have hkb : k * i.bytes ≤ (n + k) * i.bytes := Nat.mul_le_mul_right _ (by omega)
  have grown : ∀ (old : Nat), old < n + k → ∀ (row : Option Nat),
      (w.drew.alloc (.cells (xs.toArray ++ Builtin.zeroCells z.cells k ++ Builtin.zeroCells z.cells (grownCap w (n + k) old e - (n + k))) e)).ownsRow base e 1
        (.slice (some ⟨w.heap.size, 0, none⟩) (n + k) (grownCap w (n + k) old e)) (n + k) (xs ++ List.replicate k z) ∧
      w.grownBy (w.drew.alloc (.cells (xs.toArray ++ Builtin.zeroCells z.cells k ++ Builtin.zeroCells z.cells (grownCap w (n + k) old e - (n + k))) e)) row := by
    intro old ho row
    have hge := grownCap_ge w (n + k) old e
    have hcm : grownCap w (n + k) old e ≤ maxLen := grownCap_le_maxLen w (n + k) old e h63
    refine ⟨⟨hlen, .inr ⟨w.heap.size, _, _, rfl, hbase, _root_.Go.heap_alloc_new w.drew _, hge, hcm, ?_, ?_⟩⟩, ⟨rfl, rfl, rfl, by simp, fun k hk _ => _root_.Go.heap_alloc_old w.drew _ hk⟩⟩
    · have h2 := hown.1
      rw [hzc]
      simp only [Array.size_append, List.size_toArray, size_zeroCells]
      simp at *
      omega
    · rw [hzc, Array.toList_append, Array.toList_append, toList_zeroCells, ← hlen]
      exact List.take_left
  rcases hown.2 with ⟨rfl, rfl⟩ | ⟨g, cap, cur, rfl, hbg, hg, hnc, hcm, hcs, htake⟩
  · have hx : xs = [] := List.eq_nil_of_length_eq_zero (by simpa using hown.1)
    subst hx
    have hr := Lib.run_append_nil_zeros (P := P) w t tn ty e i z kq kn ht htn hi hz k h0 (by omega) (by omega) (by omega)
    have hgr := grown 0 (by omega) (Value.ownBlock (.slice none 0 0))
    simp only [Nat.zero_add, List.nil_append, Array.empty_append] at hgr ⊢
    exact ⟨_, _, hr, hgr.1, hgr.2⟩
  · by_cases hroom : n + k ≤ cap
    · have hfit : n + k ≤ cur.size := by omega
      have hr := run_append_room_zeros (P := P) w t tn ty e i z kn kq ht htn hi hz hs hzc h1 g n cap cur hg k h0 (by omega) (by omega) hroom hfit
      refine ⟨_, _, hr, ⟨hlen, .inr ⟨g, cap, _, rfl, hbg, setRow_heap w g cur _ e _ hg, hroom, hcm, ?_, ?_⟩⟩, ⟨rfl, rfl, rfl, by simp, fun k _ hk => setRow_other w g k _ (fun e => hk (by simp [Value.ownBlock, e]))⟩⟩
      · simp only [List.size_toArray, List.length_append, List.length_take, List.length_drop, Array.length_toList, List.length_replicate]
        omega
      · rw [Nat.mul_one] at htake
        rw [htake, ← hlen]
        exact List.take_left
    · have holds : ∀ j u, xs[j]? = some u → w.cell? ((⟨g, 0, none⟩ : Addr).add j) = some u := hown.cells (g := g) rfl
      have hold : (Builtin.firstCells i.size n (.slice (some ⟨g, 0, none⟩) n cap)).run P w.drew = .ok xs.toArray w.drew := run_firstCells_some (P := P) w.drew i.size n ⟨g, 0, none⟩ n cap xs (by rw [hs]; exact hown.1) (by simpa using holds)
      have hr := Lib.run_append_grow_zeros (P := P) w t tn ty e i z kq kn ht htn hi hz (some ⟨g, 0, none⟩) n cap xs hold k h0 (by omega) (by omega) (by omega) (by omega) (growslice_fits (by omega) hbytes)
      have hgr := grown cap (by omega) (Value.ownBlock (.slice (some ⟨g, 0, none⟩) n cap))
      exact ⟨_, _, hr, hgr.1, hgr.2⟩
theorem wpList_append_own_zeros {P : Program} {w : World} {ops : Array Oper} {rest : List Oper} {o : Oper} {a : Act} {Q : Exit → Act → World → Prop} (hgd : o.guard = none) (s x : Operand) (t tn : TypeId)
    (ho : o.op = .call { callee := .builtin .append, args := #[s, x], argTypes := #[t, tn] })
    (base : Nat) (e : TypeId) (i : TypeInfo) (z : Value) (kn kq : IntKind) (ht : P.underlying t = some (.slice e)) (htn : P.underlying tn = some (.int kn)) (hi : P.info? e = some i) (hz : i.zero = some z)
    (hs : i.size = 1) (hzc : z.cells = #[z]) (h1 : z.oneCell' = true) (v : Value) (n : Nat) (xs : List Value) (hv : a.eval s = v) (hown : w.ownsRow base e 1 v n xs) (k : Nat) (m : Int) (hx : a.eval x = .int kq m) (hm : m = k) (h0 : 0 < k)
    (h63 : n + k ≤ maxLen) (hbytes : (n + k) * i.bytes ≤ 140737488355328) (hbase : base ≤ w.heap.size)
    (h : ∀ v' w', w'.ownsRow base e 1 v' (n + k) (xs ++ List.replicate k z) → w.grownBy w' v.ownBlock → wpList P ops Q rest (a.put o.dst v') w') : wpList P ops Q (o :: rest) a w := by
  subst hm
  obtain ⟨v', w', hr, h2, h3⟩ := run_append_own_zeros (P := P) w base t tn o.type e i z kn kq ht htn hi hz hs hzc h1 v n xs hown k h0 h63 hbytes hbase
  exact Lib.wpList_append_run w hgd s x t tn ho v (.int kq k) hv hx v' w' hr (h v' w' h2 h3)
/-- heRow2 with the blocks' number named. -/
theorem heRow3 (L : List (Int × Nat)) (n : Nat) (cs1 cs2 : Array Value) (t1 t2 : TypeId) (w : World) (g : Nat) (hg : w.heap.size = g) (hn : L.length = n) (h1 : cs1 = (L.map fun p => Value.int .i64 p.1).toArray) (h2 : cs2 = (L.map fun p => Value.int .i64 (p.2 : Int)).toArray)
    (hL : ∀ p ∈ L, 0 < p.2 ∧ p.2 ≤ 1000) (hm : n ≤ 1000) (xs : List Int) (hx : rowB L = xs) :
    Calls Tryd.prog 7 #[.slice (some ⟨g, 0, none⟩) n n, .slice (some ⟨g + 1, 0, none⟩) n n] ((w.alloc (.cells cs1 t1)).alloc (.cells cs2 t2)) fun e w' => Made w xs e w' := by
  subst hg
  exact heRow2 L n cs1 cs2 t1 t2 w hn h1 h2 hL hm xs hx
/-- A row of its own is no block of another type. -/
theorem own_ne {w : World} {base n s g : Nat} {e t : TypeId} {v : Value} {xs : List Value} {cs : Array Value} (h : w.ownsRow base e s v n xs) (hb : Blk w g cs t) (ne : t ≠ e) : v.ownBlock ≠ some g := by
  intro hv
  rcases h.2 with ⟨rfl, _⟩ | ⟨g', cap, cur, rfl, _, hg, _⟩
  · simp [Value.ownBlock] at hv
  · simp [Value.ownBlock] at hv
    subst hv
    unfold Blk at hb
    rw [hg] at hb
    simp at hb
    exact ne hb.2.symm
theorem own_set {w : World} {base n s : Nat} {e : TypeId} {v : Value} {xs : List Value} (h : w.ownsRow base e s v n xs) {p : Addr} (ne : v.ownBlock ≠ some p.block) (u : Value) : (w.setCell p u).ownsRow base e s v n xs :=
  h.kept (row := some p.block) ⟨rfl, rfl, rfl, by simp [World.setCell], fun k hk hs => Below.heap_setCell _ _ _ _ (fun e => hs (by rw [e]))⟩ (.inr ne)
theorem own_below {w w' : World} {base n s : Nat} {e : TypeId} {v : Value} {xs : List Value} (h : w.ownsRow base e s v n xs) (hb : Below w.heap.size w w') : w'.ownsRow base e s v n xs :=
  h.kept (row := none) ⟨hb.os, hb.tape, hb.output, hb.size, fun k hk _ => hb.block k hk⟩ (by cases h : Value.ownBlock _ with | none => exact .inl rfl | some k => exact .inr (by simp))
/-- append of bytes that can be read, nil or not, onto a row of the call's own. -/
theorem run_append_rd {P : Program} (w : World) (base : Nat) (t ty e : TypeId) (i : TypeInfo) (z : Value) (ht : P.underlying t = some (.slice e)) (hi : P.info? e = some i) (hz : i.zero = some z)
    (hs : i.size = 1) (hby : i.bytes = 1) (hzs : z.cells.size = 1) (v : Value) (n : Nat) (xs : List Value) (hown : w.ownsRow base e 1 v n xs) (A : Option Addr) (m c : Nat) (ns : List Int) (hr : Rd w [] A m ns)
    (hbytes : n + m ≤ 140737488355328) (hbase : base ≤ w.heap.size) :
    ∃ v' w', (Builtin.append_ #[t, t] ty #[v, .slice A m c]).run P w = .ok v' w' ∧ w'.ownsRow base e 1 v' (n + m) (xs ++ bc ns) ∧ w.grownBy w' v.ownBlock := by
  cases A with
  | none =>
    have hl : ns.length = 0 := by
      rcases Nat.eq_zero_or_pos ns.length with h | h
      · exact h
      · obtain ⟨_, h1, _⟩ := hr.at_ 0 h
        cases h1
    have h0 : ns = [] := List.eq_nil_of_length_eq_zero hl
    have hm : m = 0 := by rw [← hr.len]; exact hl
    subst h0
    subst hm
    refine ⟨v, w, ?_, by simpa using hown, World.grownBy.refl w _⟩
    rcases hown.2 with ⟨rfl, rfl⟩ | ⟨g, cap, cur, rfl, _, _, hnc, _⟩
    · simp [Builtin.append_, run_underlying ht, sizeOf, typeInfo, hi, Builtin.lenOf, Builtin.firstCells]
    · simp [Builtin.append_, run_underlying ht, sizeOf, typeInfo, hi, Builtin.lenOf, Builtin.firstCells, hnc, storeCells]
  | some ad =>
    have hnews : ∀ j u, (bc ns)[j]? = some u → w.cell? (ad.add j) = some u := by
      intro j u hu
      rw [List.getElem?_map] at hu
      simp at hu
      obtain ⟨x, hx, rfl⟩ := hu
      obtain ⟨hj, rfl⟩ := List.getElem?_eq_some_iff.1 hx
      obtain ⟨ad', h1, h2, _⟩ := hr.at_ j hj
      cases h1
      exact h2
    obtain ⟨v', w', h1, h2, h3, _⟩ := run_append_own w base t ty e i z 1 1 ht hi hz hs hby hzs (by decide) v n xs hown ad m c (bc ns) (by simp [hr.len]) hnews (fun u hu => by obtain ⟨x, _, rfl⟩ := List.mem_map.1 hu; rfl) (by unfold maxLen; omega) (by omega) hbase
    exact ⟨v', w', h1, h2, h3⟩
theorem wpList_append_rd {P : Program} {w : World} {ops : Array Oper} {rest : List Oper} {o : Oper} {a : Act} {Q : Exit → Act → World → Prop} (hgd : o.guard = none) (s x : Operand) (t : TypeId)
    (ho : o.op = .call { callee := .builtin .append, args := #[s, x], argTypes := #[t, t] })
    (base : Nat) (e : TypeId) (i : TypeInfo) (z : Value) (ht : P.underlying t = some (.slice e)) (hi : P.info? e = some i) (hz : i.zero = some z) (hs : i.size = 1) (hby : i.bytes = 1) (hzs : z.cells.size = 1)
    (v : Value) (n : Nat) (xs : List Value) (hv : a.eval s = v) (hown : w.ownsRow base e 1 v n xs) (A : Option Addr) (m c : Nat) (ns : List Int) (hx : a.eval x = .slice A m c) (hr : Rd w [] A m ns)
    (hbytes : n + m ≤ 140737488355328) (hbase : base ≤ w.heap.size)
    (h : ∀ v' w', w'.ownsRow base e 1 v' (n + m) (xs ++ bc ns) → w.grownBy w' v.ownBlock → wpList P ops Q rest (a.put o.dst v') w') : wpList P ops Q (o :: rest) a w := by
  obtain ⟨v', w', h1, h2, h3⟩ := run_append_rd (P := P) w base t o.type e i z ht hi hz hs hby hzs v n xs hown A m c ns hr hbytes hbase
  exact Lib.wpList_append_run w hgd s x t t ho v _ hv hx v' w' h1 (h v' w' h2 h3)
theorem step_append_rd {P : Program} {ops : Array Oper} {o : Oper} {a : Act} {w : World} {K : Act → World → Prop} {Q : Exit → Act → World → Prop} {E : Prop} (hgd : o.guard = none) (s x : Operand) (t : TypeId)
    (ho : o.op = .call { callee := .builtin .append, args := #[s, x], argTypes := #[t, t] })
    (base : Nat) (e : TypeId) (i : TypeInfo) (z : Value) (ht : P.underlying t = some (.slice e)) (hi : P.info? e = some i) (hz : i.zero = some z) (hs : i.size = 1) (hby : i.bytes = 1) (hzs : z.cells.size = 1)
    (v : Value) (n : Nat) (xs : List Value) (hv : a.eval s = v) (hown : w.ownsRow base e 1 v n xs) (A : Option Addr) (m c : Nat) (ns : List Int) (hx : a.eval x = .slice A m c) (hr : Rd w [] A m ns)
    (hbytes : n + m ≤ 140737488355328) (hbase : base ≤ w.heap.size)
    (h : ∀ v' w', w'.ownsRow base e 1 v' (n + m) (xs ++ bc ns) → w.grownBy w' v.ownBlock → K (a.put o.dst v') w') : if Region.wanted o (yielded ops a.tmps) = true then Oper.wp P o a w K Q else E := by
  have hw : Region.wanted o (yielded ops a.tmps) = true := by simp [Region.wanted, hgd]
  rw [if_pos hw]
  obtain ⟨v', w', h1, h2, h3⟩ := run_append_rd (P := P) w base t o.type e i z ht hi hz hs hby hzs v n xs hown A m c ns hr hbytes hbase
  unfold Oper.wp execOp
  simp only [ho, resolve, invoke, builtin, Sem.run_bind, Sem.run_pure, Result.andThen_ok, List.map_toArray, List.map_cons, List.map_nil, hv, hx, h1]
  exact h v' w' h2 h3
/-- heRow3, the second row made first. -/
theorem heRow3b (L : List (Int × Nat)) (n : Nat) (cs1 cs2 : Array Value) (t1 t2 : TypeId) (w : World) (g : Nat) (hg : w.heap.size = g) (hn : L.length = n) (h1 : cs1 = (L.map fun p => Value.int .i64 p.1).toArray) (h2 : cs2 = (L.map fun p => Value.int .i64 (p.2 : Int)).toArray)
    (hL : ∀ p ∈ L, 0 < p.2 ∧ p.2 ≤ 1000) (hm : n ≤ 1000) (xs : List Int) (hx : rowB L = xs) :
    Calls Tryd.prog 7 #[.slice (some ⟨g + 1, 0, none⟩) n n, .slice (some ⟨g, 0, none⟩) n n] ((w.alloc (.cells cs2 t2)).alloc (.cells cs1 t1)) fun e w' => Made w xs e w' := by
  subst hg
  have hb : Below w.heap.size w ((w.alloc (.cells cs2 t2)).alloc (.cells cs1 t1)) := ((Below.refl _ _).alloc (Nat.le_refl _) _).alloc (by simp) _
  have b2 : Blk ((w.alloc (.cells cs2 t2)).alloc (.cells cs1 t1)) (w.heap.size + 1) cs1 t1 := by
    have := Blk.new (w.alloc (.cells cs2 t2)) cs1 t1
    simpa using this
  refine (heRow L (w.heap.size + 1) w.heap.size n n n cs1 cs2 t1 t2 _ hn hL hm b2 ((Blk.new _ _ _).alloc _) ?_ ?_).mono ?_
  · intro j hj; subst h1; simp [hj]
  · intro j hj; subst h2; simp [hj]
  · rintro e w' ⟨v, rfl, hown, hbel⟩
    subst hx
    exact ⟨v, rfl, own_base hown hb.size, hb.trans (hbel.mono hb.size)⟩
/-- heRow3 and heRow3b behind a draw. -/
theorem heRow3d (L : List (Int × Nat)) (n : Nat) (cs1 cs2 : Array Value) (t1 t2 : TypeId) (w : World) (g : Nat) (hg : w.heap.size = g) (hn : L.length = n) (h1 : cs1 = (L.map fun p => Value.int .i64 p.1).toArray) (h2 : cs2 = (L.map fun p => Value.int .i64 (p.2 : Int)).toArray)
    (hL : ∀ p ∈ L, 0 < p.2 ∧ p.2 ≤ 1000) (hm : n ≤ 1000) (xs : List Int) (hx : rowB L = xs) :
    Calls Tryd.prog 7 #[.slice (some ⟨g, 0, none⟩) n n, .slice (some ⟨g + 1, 0, none⟩) n n] ((w.alloc (.cells cs1 t1)).alloc (.cells cs2 t2)).drew fun e w' => Made w.drew xs e w' :=
  heRow3 L n cs1 cs2 t1 t2 w.drew g hg hn h1 h2 hL hm xs hx
theorem heRow3bd (L : List (Int × Nat)) (n : Nat) (cs1 cs2 : Array Value) (t1 t2 : TypeId) (w : World) (g : Nat) (hg : w.heap.size = g) (hn : L.length = n) (h1 : cs1 = (L.map fun p => Value.int .i64 p.1).toArray) (h2 : cs2 = (L.map fun p => Value.int .i64 (p.2 : Int)).toArray)
    (hL : ∀ p ∈ L, 0 < p.2 ∧ p.2 ≤ 1000) (hm : n ≤ 1000) (xs : List Int) (hx : rowB L = xs) :
    Calls Tryd.prog 7 #[.slice (some ⟨g + 1, 0, none⟩) n n, .slice (some ⟨g, 0, none⟩) n n] ((w.alloc (.cells cs2 t2)).alloc (.cells cs1 t1)).drew fun e w' => Made w.drew xs e w' :=
  heRow3b L n cs1 cs2 t1 t2 w.drew g hg hn h1 h2 hL hm xs hx
end Go.Proofs.YtmgckcngedpgoaaDoor.Kb
