/- Words and lemmas on worlds, blocks and rows of bytes, for the walks of this seat. -/
import Derived.WalkKit
import Derived.Deep.QuietTactic
import Derived.BigQuiet
import Derived.StillTailTactics
import Derived.Deep.RegionWith
import Derived.Outline
import Derived.Laws.CopyOwn
import Derived.Laws.BytesString
import Derived.Defers
import Derived.Recover
import Derived.WalkSpells
import Derived.WalkLawsBesides
import Derived.Test.YtmgckcngedpgoaaDoorProg
namespace Go.Proofs.YtmgckcngedpgoaaDoor.Kb
open Go Go.RowKit
set_option linter.unusedVariables false
set_option linter.unusedSimpArgs false

/-- A fact kept from the walk. -/
structure Hd (p : Prop) : Prop where
  out : p

/-- Below block B all blocks but those of S are as they were. -/
structure Bel (B : Nat) (S : List Nat) (w w' : World) : Prop where
  os : w'.os = w.os
  tape : w'.tape = w.tape
  output : w'.output = w.output
  size : w.heap.size ≤ w'.heap.size
  block : ∀ k, k < B → k ∉ S → w'.heap[k]? = w.heap[k]?
section
variable {B B' : Nat} {S S' : List Nat} {w w' a b c : World} {o : Obj} {p : Addr} {u : Value} {g : Nat} {cs : Array Value} {t : TypeId} {fr : Nat × Nat}
theorem Bel.refl (B : Nat) (S : List Nat) (w : World) : Bel B S w w := ⟨rfl, rfl, rfl, Nat.le_refl _, fun _ _ _ => rfl⟩
theorem Bel.trans (h : Bel B S a b) (k : Bel B S b c) : Bel B S a c :=
  ⟨k.os.trans h.os, k.tape.trans h.tape, k.output.trans h.output, Nat.le_trans h.size k.size, fun i hi hs => (k.block i hi hs).trans (h.block i hi hs)⟩
theorem Bel.of (h : Below B w w') : Bel B S w w' := ⟨h.os, h.tape, h.output, h.size, fun k hk _ => h.block k hk⟩
theorem Bel.to (h : Bel B [] w w') : Below B w w' := ⟨h.os, h.tape, h.output, h.size, fun k hk => h.block k hk (by simp)⟩
theorem Bel.to' (h : Bel B S w w') (hS : ∀ x ∈ S, B ≤ x) : Below B w w' := ⟨h.os, h.tape, h.output, h.size, fun k hk => h.block k hk (fun hm => by have := hS k hm; omega)⟩
theorem Bel.weak (h : Bel B S w w') (hB : B' ≤ B) (hS : ∀ x ∈ S, x < B' → x ∈ S') : Bel B' S' w w' :=
  ⟨h.os, h.tape, h.output, h.size, fun k hk hs => h.block k (by omega) (fun hm => hs (hS k hm hk))⟩
/-- Behind another one, over as much. -/
theorem Bel.then (h : Bel B S a b) (k : Bel B' S' b c) (hB : B ≤ B') (hS : ∀ x ∈ S', x < B → x ∈ S) : Bel B S a c := h.trans (k.weak hB hS)
theorem Bel.alloc (h : Bel B S a w) (hB : B ≤ w.heap.size) (o : Obj) : Bel B S a (w.alloc o) :=
  h.trans ⟨rfl, rfl, rfl, by simp, fun k hk _ => Below.heap_alloc _ _ _ (by omega)⟩
theorem Bel.set (h : Bel B S a w) (hp : B ≤ p.block ∨ p.block ∈ S) (u : Value) : Bel B S a (w.setCell p u) :=
  h.trans ⟨rfl, rfl, rfl, by simp [World.setCell], fun k hk hs => Below.heap_setCell _ _ _ _ (fun e => by rcases hp with h | h; omega; exact hs (e ▸ h))⟩
theorem Bel.drew (h : Bel B S a w) : Bel B S a w.drew := ⟨h.os, h.tape, h.output, h.size, h.block⟩
theorem Bel.drewN (h : Bel B S a w) (n : Nat) : Bel B S a (w.drewN n) := ⟨h.os, h.tape, h.output, h.size, h.block⟩
theorem Bel.grown (h : Bel B S a w) {row : Option Nat} (hg : w.grownBy w' row) (hB : B ≤ w.heap.size) (hr : ∀ k, row = some k → B ≤ k ∨ k ∈ S) : Bel B S a w' :=
  h.trans ⟨hg.os, hg.tape, hg.output, hg.size, fun k hk hs => hg.block k (by omega) (fun e => by rcases hr k e.symm with h | h; omega; exact hs h)⟩
theorem Bel.setRow (h : Bel B S a w) {g : Nat} (hp : B ≤ g ∨ g ∈ S) (cs : Array Value) : Bel B S a (w.setRow g cs) :=
  h.trans ⟨rfl, rfl, rfl, by simp [World.setRow], fun k hk hs => setRow_other w g k cs (fun e => by rcases hp with h | h; omega; exact hs (e ▸ h))⟩
theorem Bel.cell (h : Bel B S w w') (hp : p.block < B) (hs : p.block ∉ S) : w'.cell? p = w.cell? p := World.cell?_of_block (w := w) (h.block p.block hp hs)
theorem Bel.frozen (h : Bel B S w w') (hp : p.block < B) (hs : p.block ∉ S) : w'.frozen? p = w.frozen? p := World.frozen?_of_block (w := w) (h.block p.block hp hs)

theorem cell?_alloc_old {v : Value} (o : Obj) (h : w.cell? p = some v) : (w.alloc o).cell? p = some v := by
  have hlt : p.block < w.heap.size := by
    rcases Nat.lt_or_ge p.block w.heap.size with h1 | h1
    · exact h1
    · unfold World.cell? at h
      rw [Array.getElem?_eq_none h1] at h
      cases h
  rw [World.cell?_of_block (w := w) (Below.heap_alloc w o p.block hlt)]
  exact h
/-- Block g is a row of cells that may be written. -/
def Blk (w : World) (g : Nat) (cs : Array Value) (t : TypeId) : Prop := w.heap[g]? = some (.cells cs t (0, 0))
theorem Blk.lt (h : Blk w g cs t) : g < w.heap.size := (Array.getElem?_eq_some_iff.1 h).1
theorem Blk.cell (h : Blk w g cs t) (i : Nat) {v : Value} (hv : cs[i]? = some v) : w.cell? ⟨g, i, none⟩ = some v := by
  unfold Blk at h
  simp [World.cell?, h, hv]
theorem Blk.cellz (h : Blk w g cs t) (i : Nat) {v : Value} (hv : cs[i]? = some v) : w.cell? ((⟨g, 0, none⟩ : Addr).add i) = some v := by
  have := h.cell i hv
  unfold Addr.add
  split
  · rename_i h0
    subst h0
    exact this
  · simpa using this
theorem Blk.free (h : Blk w g cs t) (i : Nat) : w.frozen? ⟨g, i, none⟩ = false := by
  unfold Blk at h
  simp [World.frozen?, h]
theorem Blk.bel (h : Blk w g cs t) (hb : Bel B S w w') (hg : g < B) (hs : g ∉ S) : Blk w' g cs t := (hb.block g hg hs).trans h
theorem Blk.below (h : Blk w g cs t) (hb : Below B w w') (hg : g < B) : Blk w' g cs t := (hb.block g hg).trans h
theorem Blk.new (w : World) (cs : Array Value) (t : TypeId) : Blk (w.alloc (.cells cs t)) w.heap.size cs t := by
  show (w.heap.push _)[w.heap.size]? = _
  simp
theorem Blk.alloc (h : Blk w g cs t) (o : Obj) : Blk (w.alloc o) g cs t := by
  have := h.lt
  unfold Blk at h ⊢
  show (w.heap.push o)[g]? = _
  rw [Array.getElem?_push, if_neg (by omega)]
  exact h
theorem Blk.drew (h : Blk w g cs t) : Blk w.drew g cs t := h
theorem Blk.drewN (h : Blk w g cs t) (n : Nat) : Blk (w.drewN n) g cs t := h
theorem Blk.set (h : Blk w g cs t) (i : Nat) (v : Value) : Blk (w.setCell ⟨g, i, none⟩ v) g (cs.setIfInBounds i v) t := by
  unfold Blk at h ⊢
  simp [World.setCell, Array.getElem?_modify, h]
theorem Blk.set_ne (h : Blk w g cs t) (hp : p.block ≠ g) (v : Value) : Blk (w.setCell p v) g cs t := (Below.heap_setCell _ _ _ _ (Ne.symm hp)).trans h
theorem Blk.cast (h : Blk w g cs t) {cs' : Array Value} (e : cs = cs') : Blk w g cs' t := e ▸ h
theorem Blk.setRow (h : Blk w g cs t) (cs' : Array Value) : Blk (w.setRow g cs') g cs' t := by
  exact setRow_heap w g _ _ t _ h
theorem Blk.setRow_ne (h : Blk w g cs t) {g' : Nat} (hne : g' ≠ g) (cs' : Array Value) : Blk (w.setRow g' cs') g cs t := (setRow_other w g' g cs' (Ne.symm hne)).trans h
theorem Blk.grown (h : Blk w g cs t) {row : Option Nat} (hg : w.grownBy w' row) (hne : row ≠ some g) : Blk w' g cs t :=
  (hg.block g h.lt (fun e => hne e.symm)).trans h

/-- The cells of bytes. -/
abbrev bc (xs : List Int) : List Value := xs.map (Value.int .u8)
/-- A slice reads as these numbers of 8 bits; its cells lie in no block of S. -/
structure Rd (w : World) (S : List Nat) (A : Option Addr) (n : Nat) (xs : List Int) : Prop where
  len : xs.length = n
  small : n ≤ 140737488351232
  at_ : ∀ j (h : j < xs.length), ∃ ad, A = some ad ∧ w.cell? (ad.add j) = some (.int .u8 xs[j]) ∧ ad.block < w.heap.size ∧ ad.block ∉ S
theorem add_block (ad : Addr) (j : Nat) : (ad.add j).block = ad.block := by unfold Addr.add; split <;> rfl
theorem Rd.bel {A : Option Addr} {n : Nat} {xs : List Int} (h : Rd w S A n xs) (hb : Bel w.heap.size S w w') : Rd w' S A n xs := by
  refine ⟨h.len, h.small, fun j hj => ?_⟩
  obtain ⟨ad, h1, h2, h3, h4⟩ := h.at_ j hj
  refine ⟨ad, h1, ?_, Nat.lt_of_lt_of_le h3 hb.size, h4⟩
  rw [hb.cell (p := ad.add j) (by rw [add_block]; exact h3) (by rw [add_block]; exact h4)]
  exact h2
theorem Rd.below {A : Option Addr} {n : Nat} {xs : List Int} (h : Rd w S A n xs) (hb : Below w.heap.size w w') : Rd w' S A n xs := h.bel (Bel.of hb)
theorem Rd.set {A : Option Addr} {n : Nat} {xs : List Int} (h : Rd w S A n xs) (hp : p.block ∈ S) (v : Value) : Rd (w.setCell p v) S A n xs := h.bel ((Bel.refl _ _ _).set (.inr hp) v)
theorem Rd.sub {A : Option Addr} {n : Nat} {xs : List Int} (h : Rd w S A n xs) (hs : ∀ x ∈ S', x ∈ S) : Rd w S' A n xs := by
  refine ⟨h.len, h.small, fun j hj => ?_⟩
  obtain ⟨ad, h1, h2, h3, h4⟩ := h.at_ j hj
  exact ⟨ad, h1, h2, h3, fun hm => h4 (hs _ hm)⟩
/-- Blocks that were not there yet don't hold it. -/
theorem Rd.more {A : Option Addr} {n : Nat} {xs : List Int} (h : Rd w S A n xs) (hs : ∀ x ∈ S', x ∉ S → w.heap.size ≤ x) : Rd w S' A n xs := by
  refine ⟨h.len, h.small, fun j hj => ?_⟩
  obtain ⟨ad, h1, h2, h3, h4⟩ := h.at_ j hj
  refine ⟨ad, h1, h2, h3, fun hm => ?_⟩
  have := hs _ hm h4
  omega
theorem Rd.join {A : Option Addr} {n : Nat} {xs : List Int} (h : Rd w S A n xs) (k : Rd w S' A n xs) : Rd w (S ++ S') A n xs := by
  refine ⟨h.len, h.small, fun j hj => ?_⟩
  obtain ⟨ad, h1, h2, h3, h4⟩ := h.at_ j hj
  obtain ⟨ad', k1, _, _, k4⟩ := k.at_ j hj
  rw [h1] at k1
  cases k1
  exact ⟨ad, h1, h2, h3, by simp [h4, k4]⟩
theorem Rd.cell {A : Option Addr} {n : Nat} {xs : List Int} (h : Rd w S A n xs) (j : Nat) (hj : j < n) : ∃ ad, A = some ad ∧ w.cell? (ad.add j) = some (.int .u8 (xs.getD j 0)) := by
  obtain ⟨ad, h1, h2, _⟩ := h.at_ j (by rw [h.len]; exact hj)
  refine ⟨ad, h1, ?_⟩
  rw [h2, List.getD_eq_getElem?_getD, List.getElem?_eq_getElem]
  rfl
/-- copy into the head of a row. -/
theorem wpList_copy_at {P : Program} {ops : Array Oper} {rest : List Oper} {o : Oper} {a : Act} {Q : Exit → Act → World → Prop} (hgd : o.guard = none) (d s : Operand) (dT sT : TypeId)
    (ho : o.op = .call { callee := .builtin .copy, args := #[d, s], argTypes := #[dT, sT] }) (elem : TypeId) (hu : P.underlying dT = some (.slice elem)) (hsz : (P.info? elem).map (·.size) = some 1)
    (dp sp : Option Addr) (dLen dCap sLen sCap : Nat) (hd : a.eval d = .slice dp dLen dCap) (hs : a.eval s = .slice sp sLen sCap)
    (g : Nat) (cur : List Value) (t : TypeId) (hg : Blk w g cur.toArray t) (cs : List Value) (hn : cs.length = Nat.min sLen dLen)
    (hpos : 0 < cs.length → dp = some ⟨g, 0, none⟩ ∧ ∃ ad, sp = some ad ∧ ∀ j v, cs[j]? = some v → w.cell? (ad.add j) = some v)
    (hfit : cs.length ≤ cur.length) (h1 : ∀ v ∈ cs, v.oneCell' = true)
    (h : ∀ w', Blk w' g (splice cur 0 cs).toArray t → Bel w.heap.size [g] w w' → wpList P ops Q rest (a.put o.dst (goInt cs.length)) w') : wpList P ops Q (o :: rest) a w := by
  by_cases h0 : cs.length = 0
  · obtain rfl : cs = [] := List.eq_nil_of_length_eq_zero h0
    refine wpList_copy_nothing hgd d s dT sT ho elem hu hsz dp sp dLen dCap sLen sCap hd hs (by simpa using hn.symm) ?_
    exact h w (by simpa [splice] using hg) (Bel.refl _ _ _)
  · obtain ⟨rfl, ad, rfl, hsrc⟩ := hpos (by omega)
    refine wpList_copy_own hgd d s dT sT ho elem hu hsz g 0 dLen dCap ad sLen sCap hd hs cur.toArray t hg cs hn hsrc (by simpa using hfit) h1 ?_
    refine h _ ?_ ((Bel.refl _ _ _).setRow (.inr (by simp)) _)
    have := Blk.setRow hg (cur.toArray.toList.take 0 ++ (cs ++ cur.toArray.toList.drop (0 + cs.length))).toArray
    simpa [splice] using this
/-- A row of so many equal cells. -/
def zs (n : Nat) (z : Value) : List Value := List.replicate n z
theorem zs_len (n : Nat) (z : Value) : (zs n z).length = n := List.length_replicate
theorem zs_get (n : Nat) (z : Value) (i : Nat) (h : i < n) : (zs n z).toArray[i]? = some z := by simp [zs, h]
/-- make of so many elements of one cell. -/
theorem wpList_make_z {P : Program} {ops : Array Oper} {rest : List Oper} {o : Oper} {a : Act} {Q : Exit → Act → World → Prop}
    (hg : o.guard = none) (l c : Operand) (t : TypeId) (hop : o.op = Op.makeSlice t l c)
    (e : TypeId) (z : Value) (by_ : Nat) (h1 : P.underlying t = some (.slice e)) (h2 : (P.info? e).map (fun i => (i.zero, i.size, i.bytes)) = some (some z, 1, by_)) (hz : z.cells = #[z])
    (kl kc : IntKind) (L C : Int) (n : Nat) (hl : a.eval l = .int kl L) (hc : a.eval c = .int kc C) (hL : L = (n : Int)) (hC : C = (n : Int)) (b2 : by_ * n ≤ 281474976710656) (b3 : n ≤ 9223372036854775807)
    (hK : ∀ w', Blk w' w.heap.size (zs n z).toArray e → Below w.heap.size w w' → w'.heap.size = w.heap.size + 1 → wpList P ops Q rest (a.put o.dst (.slice (some ⟨w.heap.size, 0, none⟩) n n)) w') :
    wpList P ops Q (o :: rest) a w := by
  obtain ⟨i, hi, hb⟩ := Option.map_eq_some_iff.1 h2
  simp only [Prod.mk.injEq] at hb
  refine wpList_plain hg fun K hK' => ?_
  subst hL
  subst hC
  have b2' : (by_ : Int) * (n : Int) ≤ 281474976710656 := by
    have h : ((by_ * n : Nat) : Int) ≤ 281474976710656 := by omega
    rwa [Int.natCast_mul] at h
  have hrun := run_make (P := P) w t e i z h1 hi hb.1 kl kc n n (by omega) (Int.le_refl _) (by rw [hb.2.2]; exact b2') (by omega)
  simp only [Int.toNat_natCast, hb.2.1, Nat.mul_one, hz] at hrun
  unfold Oper.wp
  simp [execOp, hop, hl, hc, hrun, Result.andThen]
  refine hK' _ _ (hK _ ?_ ((Below.refl _ _).alloc (Nat.le_refl _) _) (by simp))
  exact (Blk.new w _ e).cast (by apply Array.ext'; rw [toList_madeCells_one]; rfl)
/-- string(b) of bytes that can be read. -/
theorem str_run {P : Program} {src dst e : TypeId} {A : Option Addr} {n c : Nat} {xs : List Int} (hs : P.underlying src = some (.slice e)) (he : P.underlying e = some (.int .u8)) (hd : P.underlying dst = some .string)
    (h : Rd w S A n xs) : (convert src dst (.slice A n c)).run P w = .ok (.string (strOfNums xs)) w := by
  have hn := h.len
  cases A with
  | none =>
    have h0 : xs = [] := by
      cases xs with
      | nil => rfl
      | cons x xs =>
        obtain ⟨ad, h1, _⟩ := h.at_ 0 (by simp)
        cases h1
    subst h0
    simp at hn
    subst hn
    exact run_convert_bytes_nil w src e hs he 0 c dst hd
  | some ad =>
    have hl : (loadCells ad n).run P w = .ok (xs.map (Value.int .u8)).toArray w := by
      have hc : ∀ j v, (xs.map (Value.int .u8))[j]? = some v → w.cell? (ad.add j) = some v := by
        intro j v hj
        rw [List.getElem?_map] at hj
        simp at hj
        obtain ⟨x, hx, rfl⟩ := hj
        obtain ⟨hjl, rfl⟩ := List.getElem?_eq_some_iff.1 hx
        obtain ⟨ad', h1, h2, _⟩ := h.at_ j hjl
        cases h1
        exact h2
      have := run_loadCells_list (P := P) w ad _ hc
      simpa [hn] using this
    rw [run_convert_bytes_string w src dst e _ n c hs he hd, run_bytesToString w ad n c xs hl, foldl_push_bytes]
    simp [strOfNums, ByteArray.empty, ByteArray.emptyWithCapacity]
    rfl
theorem info_of {P : Program} {t : TypeId} {z : Value} {s n : Nat} (h : (P.info? t).map (fun i => (i.zero, i.size, i.bytes)) = some (some z, s, n)) : ∃ i, P.info? t = some i ∧ i.zero = some z ∧ i.size = s ∧ i.bytes = n := by
  obtain ⟨i, hi, hb⟩ := Option.map_eq_some_iff.1 h
  simp only [Prod.mk.injEq] at hb
  exact ⟨i, hi, hb.1, hb.2.1, hb.2.2⟩
end
end Go.Proofs.YtmgckcngedpgoaaDoor.Kb
