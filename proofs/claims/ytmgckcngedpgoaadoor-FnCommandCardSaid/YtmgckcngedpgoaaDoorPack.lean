/- Words on what makers of bytes leave, and what a new Decoder reads. -/
import Derived.Test.YtmgckcngedpgoaaDoorSpec
namespace Go.Proofs.YtmgckcngedpgoaaDoor.Kb
open Go Go.RowKit
set_option linter.unusedVariables false
set_option linter.unusedSimpArgs false
set_option maxHeartbeats 1000000
theorem own_base {w : World} {B B' n : Nat} {e : TypeId} {s : Nat} {v : Value} {xs : List Value} (h : w.ownsRow B e s v n xs) (hB : B' ≤ B) : w.ownsRow B' e s v n xs := by
  obtain ⟨h1, h2⟩ := h
  refine ⟨h1, ?_⟩
  rcases h2 with h2 | ⟨g, cap, cur, h2, h3, h4⟩
  · exact .inl h2
  · exact .inr ⟨g, cap, cur, h2, by omega, h4⟩
/-- A new row of these bytes is the result. -/
def Made (w : World) (xs : List Int) (e : Ending) (w' : World) : Prop := ∃ v, e = .returned v ∧ w'.ownsRow w.heap.size 5 1 v xs.length (bc xs) ∧ Below w.heap.size w w'
/-- An Encoder to which nothing has been written, by its blocks. -/
structure Enc0 (w : World) (eb sb wr tb : Nat) : Prop where
  b1 : Blk w eb #[.pointer (some ⟨wr, 0, none⟩), .slice (some ⟨sb, 0, none⟩) 4096 4096, .iface 106 (.pointer (some ⟨tb, 0, none⟩))] 105
  b2 : Blk w sb (zs 4096 (.int .u8 0)).toArray 5
  b3 : Blk w wr #[.slice none 0 0] 60
  b4 : Blk w tb #[.nilFunc] 139
  n1 : eb ≠ sb
  n2 : eb ≠ wr
  n3 : sb ≠ wr
  n4 : tb ≠ eb
  n5 : tb ≠ sb
  n6 : tb ≠ wr
theorem Enc0.below {w w' : World} {eb sb wr tb : Nat} (h : Enc0 w eb sb wr tb) (hb : Below w.heap.size w w') : Enc0 w' eb sb wr tb :=
  ⟨h.b1.below hb h.b1.lt, h.b2.below hb h.b2.lt, h.b3.below hb h.b3.lt, h.b4.below hb h.b4.lt, h.n1, h.n2, h.n3, h.n4, h.n5, h.n6⟩
theorem Enc0.of {w w' : World} {wr : Nat} {e : Ending} (hw : Blk w wr #[.slice none 0 0] 60) (h : NewEnc w wr e w') : ∃ eb sb tb, e = .returned (.pointer (some ⟨eb, 0, none⟩)) ∧ Enc0 w' eb sb wr tb ∧ w.heap.size ≤ eb ∧ w.heap.size ≤ sb ∧ w.heap.size ≤ tb ∧ Below w.heap.size w w' := by
  obtain ⟨eb, sb, tb, rfl, h1, h2, h3, h4, h5, h6, h7, h8, h9, h10⟩ := h
  have := hw.lt
  exact ⟨eb, sb, tb, rfl, ⟨h7, h8, hw.below h10 hw.lt, h9, h4, by omega, by omega, h5, h6, by omega⟩, h1, h2, h3, h10⟩
/-- What has been written stands in the Writer. -/
def Sent (w : World) (sb wr : Nat) (out : List Int) (w' : World) : Prop := ∃ v, Blk w' wr #[v] 60 ∧ w'.ownsRow w.heap.size 5 1 v out.length (bc out) ∧ Bel w.heap.size [sb, wr] w w'
theorem Sent.of {w w1 w' : World} {sb wr : Nat} {K : EK} {out : List Int} (h : Wrote K w1 [] out w') (hs : K.sb = sb) (hr : K.wr = wr) (hB : w.heap.size ≤ K.B) (hb : Below w.heap.size w w1) : Sent w sb wr out w' := by
  subst hs; subst hr
  obtain ⟨h1, h2⟩ := h
  obtain ⟨v, hv, hown⟩ := h1.own
  exact ⟨v, hv, by simpa using own_base hown hB, (Bel.of hb).trans (h2.weak hB (fun x hx _ => hx))⟩
def numL (xs : List Int) (p n : Nat) : Int := leN ((xs.drop p).take n)
theorem NewDec.to {w w' : World} {ra : Option Addr} {rc : Nat} {xs : List Int} {a em : Bool} {e : Ending} (h : NewDec w ra rc xs a em e w') : ∃ K : DK, e = .returned (.pointer (some ⟨K.d, 0, none⟩)) ∧ K.xs = xs ∧ w.heap.size ≤ K.d ∧ w.heap.size ≤ K.sb ∧ Dec K w' 0 .nilIface ∧ Below w.heap.size w w' := by
  obtain ⟨K, h1, h2, h3, h4, h5, h6, h7, h8, h9, h10, h11⟩ := h
  exact ⟨K, h1, h4, h7, h8, h10, h11⟩
theorem Made.rd {w w' : World} {xs : List Int} {e : Ending} (h : Made w xs e w') (hs : xs.length ≤ 140737488351232) : ∃ A c, e = .returned (.slice A xs.length c) ∧ xs.length ≤ c ∧ c ≤ maxLen ∧ Rd w' [] A xs.length xs ∧ (0 < xs.length → A.isSome = true) ∧ (∀ ad, A = some ad → w.heap.size ≤ ad.block) ∧ Below w.heap.size w w' := by
  obtain ⟨v, rfl, hown, hb⟩ := h
  obtain ⟨A, c, rfl, h1, h2, h3, h4, h5⟩ := own_rd hown hs
  exact ⟨A, c, rfl, h1, h2, h3, h4, h5, hb⟩
theorem bytes_append {xs ys : List Int} (h1 : ∀ x ∈ xs, 0 ≤ x ∧ x < 256) (h2 : ∀ x ∈ ys, 0 ≤ x ∧ x < 256) : ∀ x ∈ xs ++ ys, 0 ≤ x ∧ x < 256 := by
  intro x hx
  rcases List.mem_append.1 hx with h | h
  · exact h1 x h
  · exact h2 x h
theorem bytes_zero (n : Nat) : ∀ x ∈ List.replicate n (0 : Int), 0 ≤ x ∧ x < 256 := by
  intro x hx
  rw [(List.mem_replicate.1 hx).2]
  omega
theorem num_here (n : Nat) (x : Int) (r : List Int) : numL (leB n x ++ r) 0 n = x % ((256 ^ n : Nat) : Int) := by
  unfold numL
  rw [List.drop_zero, List.take_left' (leB_len n x), leN_leB]
theorem num_next (m n p : Nat) (x : Int) (r : List Int) : numL (leB m x ++ r) (m + p) n = numL r p n := by
  unfold numL
  have h := leB_len m x
  rw [List.drop_append, List.drop_eq_nil_of_le (by omega), h, List.nil_append]
  congr 3
  omega
theorem heRow2 (L : List (Int × Nat)) (n : Nat) (cs1 cs2 : Array Value) (t1 t2 : TypeId) (w : World) (hn : L.length = n) (h1 : cs1 = (L.map fun p => Value.int .i64 p.1).toArray) (h2 : cs2 = (L.map fun p => Value.int .i64 (p.2 : Int)).toArray)
    (hL : ∀ p ∈ L, 0 < p.2 ∧ p.2 ≤ 1000) (hm : n ≤ 1000) (xs : List Int) (hx : rowB L = xs) :
    Calls Tryd.prog 7 #[.slice (some ⟨w.heap.size, 0, none⟩) n n, .slice (some ⟨w.heap.size + 1, 0, none⟩) n n] ((w.alloc (.cells cs1 t1)).alloc (.cells cs2 t2)) fun e w' => Made w xs e w' := by
  have hb : Below w.heap.size w ((w.alloc (.cells cs1 t1)).alloc (.cells cs2 t2)) := ((Below.refl _ _).alloc (Nat.le_refl _) _).alloc (by simp) _
  have b2 : Blk ((w.alloc (.cells cs1 t1)).alloc (.cells cs2 t2)) (w.heap.size + 1) cs2 t2 := by
    have := Blk.new (w.alloc (.cells cs1 t1)) cs2 t2
    simpa using this
  refine (heRow L w.heap.size (w.heap.size + 1) n n n cs1 cs2 t1 t2 _ hn hL hm ((Blk.new _ _ _).alloc _) b2 ?_ ?_).mono ?_
  · intro j hj; subst h1; simp [hj]
  · intro j hj; subst h2; simp [hj]
  · rintro e w' ⟨v, rfl, hown, hbel⟩
    subst hx
    exact ⟨v, rfl, own_base hown hb.size, hb.trans (hbel.mono hb.size)⟩
end Go.Proofs.YtmgckcngedpgoaaDoor.Kb
