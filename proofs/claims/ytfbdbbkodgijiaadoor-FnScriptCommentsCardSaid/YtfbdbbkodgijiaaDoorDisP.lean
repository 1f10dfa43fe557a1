/- FnDistance: the table of distances; rows that are filled from the left; bytes of strings. Plain. -/
import Derived.Test.YtfbdbbkodgijiaaDoorKb
import Derived.Lib.OthersKept
import Derived.WalkSmall
import Derived.Lib.ConvBytes
namespace Go.Proofs.YtfbdbbkodgijiaaDoor.Kb
open Go Go.RowKit
set_option linter.unusedVariables false
set_option linter.unusedSimpArgs false
def rowN (m : Nat → Bool) (r : Nat → Nat) : Nat → Nat
  | 0 => r 0 + 1
  | j + 1 => if m j then r j else 1 + min (r j) (min (rowN m r j) (r (j + 1)))
/-- The distance of the first i and j letters. -/
def G (M : Nat → Nat → Bool) : Nat → Nat → Nat
  | 0 => fun j => j
  | i + 1 => rowN (M i) (G M i)
theorem G_zero (M : Nat → Nat → Bool) (i : Nat) : G M i 0 = i := by
  induction i with
  | zero => rfl
  | succ i ih => show rowN (M i) (G M i) 0 = _; unfold rowN; rw [ih]
theorem G_head (M : Nat → Nat → Bool) (i : Nat) : G M (i + 1) 0 = G M i 0 + 1 := rfl
theorem G_next (M : Nat → Nat → Bool) (i j : Nat) : G M (i + 1) (j + 1) = if M i j then G M i j else 1 + min (G M i j) (min (G M (i + 1) j) (G M i (j + 1))) := rfl
theorem row_near (m : Nat → Bool) (r : Nat → Nat) (h : ∀ j, r j ≤ r (j + 1) + 1 ∧ r (j + 1) ≤ r j + 1) (j : Nat) :
    (r j ≤ rowN m r j + 1 ∧ rowN m r j ≤ r j + 1) ∧ (rowN m r j ≤ rowN m r (j + 1) + 1 ∧ rowN m r (j + 1) ≤ rowN m r j + 1) := by
  have up : ∀ j, r j ≤ rowN m r j + 1 ∧ rowN m r j ≤ r j + 1 := by
    intro j
    induction j with
    | zero => unfold rowN; omega
    | succ j ih =>
      have e : rowN m r (j + 1) = if m j then r j else 1 + min (r j) (min (rowN m r j) (r (j + 1))) := rfl
      have hj := h j
      rw [e]
      split <;> omega
  refine ⟨up j, ?_⟩
  have e : rowN m r (j + 1) = if m j then r j else 1 + min (r j) (min (rowN m r j) (r (j + 1))) := rfl
  have hj := h j; have hu := up j
  rw [e]
  split <;> omega
theorem G_adj (M : Nat → Nat → Bool) (i : Nat) : ∀ j, G M i j ≤ G M i (j + 1) + 1 ∧ G M i (j + 1) ≤ G M i j + 1 := by
  induction i with
  | zero => intro j; show j ≤ j + 1 + 1 ∧ j + 1 ≤ j + 1; omega
  | succ i ih => exact fun j => (row_near (M i) (G M i) ih j).2
theorem G_up (M : Nat → Nat → Bool) (i j : Nat) : G M i j ≤ G M (i + 1) j + 1 ∧ G M (i + 1) j ≤ G M i j + 1 := (row_near (M i) (G M i) (G_adj M i) j).1
theorem G_le (M : Nat → Nat → Bool) (i j : Nat) : G M i j ≤ i + j := by
  induction j with
  | zero => rw [G_zero]; omega
  | succ j ih => have := (G_adj M i j).2; omega
/-- A row that is filled from the left. -/
def mx (N : Nat) (P Q : Nat → Value) (k : Nat) : List Value := (List.range N).map fun t => if t < k then P t else Q t
theorem mx_len (N : Nat) (P Q : Nat → Value) (k : Nat) : (mx N P Q k).length = N := by simp [mx]
theorem mx_get (N : Nat) (P Q : Nat → Value) (k t : Nat) (h : t < N) : (mx N P Q k)[t]? = some (if t < k then P t else Q t) := by simp [mx, h]
theorem mx_set (N : Nat) (P Q : Nat → Value) (k : Nat) (h : k < N) : (mx N P Q k).set k (P k) = mx N P Q (k + 1) := by
  apply List.ext_getElem?
  intro i
  rw [List.getElem?_set, mx_len]
  by_cases hi : i < N
  · rw [mx_get _ _ _ _ _ hi, mx_get _ _ _ _ _ hi]
    by_cases h1 : k = i
    · subst h1; simp [h]
    · simp only [h1, if_false, h]
      by_cases h2 : i < k
      · rw [if_pos h2, if_pos (by omega)]
      · rw [if_neg h2, if_neg (by omega)]
  · rw [List.getElem?_eq_none (by rw [mx_len]; omega), List.getElem?_eq_none (by rw [mx_len]; omega)]
    split
    · omega
    · rfl
theorem mx_full (N : Nat) (P Q R : Nat → Value) (k : Nat) (h : N ≤ k) : mx N P Q k = mx N R P 0 := by
  unfold mx
  apply List.map_congr_left
  intro t ht
  rw [List.mem_range] at ht
  rw [if_pos (by omega), if_neg (by omega)]
/-- A string's k-th byte. -/
def at_ (s : ByteArray) (k : Nat) : Nat := (s.data.toList.getD k 0).toNat
theorem at_get (s : ByteArray) (k : Nat) (h : k < s.size) : (s[k]'h).toNat = at_ s k := by
  have h2 : k < s.data.toList.length := by simpa using h
  unfold at_
  rw [List.getD_eq_getElem?_getD, List.getElem?_eq_getElem h2]
  rfl
def Asc (s : ByteArray) : Prop := ∀ k, at_ s k < 128
theorem at_lt (s : ByteArray) (k : Nat) : at_ s k < 256 := UInt8.toNat_lt _
theorem at_out (s : ByteArray) (k : Nat) (h : s.size ≤ k) : at_ s k = 0 := by
  have h2 : s.data.toList.length ≤ k := by simpa using h
  unfold at_
  rw [List.getD_eq_getElem?_getD, List.getElem?_eq_none h2]
  rfl
theorem at_extract (s : ByteArray) (m k : Nat) (h : m ≤ s.size) : (s.extract 0 m).size = m ∧ at_ (s.extract 0 m) k ≤ at_ s k := by
  have e : (s.extract 0 m).size = m := by simp [ByteArray.size_extract]; omega
  refine ⟨e, ?_⟩
  by_cases hk : k < m
  · rw [← at_get _ k (by omega), ← at_get s k (by omega)]
    simp [ByteArray.getElem_extract]
  · rw [at_out _ _ (by omega)]; exact Nat.zero_le _
theorem at_str (xs : List Int) (k : Nat) (h : ∀ x ∈ xs, 0 ≤ x ∧ x < 256) : (strOfNums xs).size = xs.length ∧ (at_ (strOfNums xs) k : Int) = xs.getD k 0 := by
  have e : (strOfNums xs).data.toList = xs.map (fun n : Int => UInt8.ofNat n.toNat) := by simp [strOfNums]
  have e2 : (strOfNums xs).size = xs.length := by
    have : (strOfNums xs).size = (strOfNums xs).data.toList.length := by simp
    rw [this, e, List.length_map]
  refine ⟨e2, ?_⟩
  unfold at_
  rw [e, List.getD_eq_getElem?_getD, List.getD_eq_getElem?_getD, List.getElem?_map]
  by_cases hk : k < xs.length
  · rw [List.getElem?_eq_getElem hk]
    have := h _ (List.getElem_mem hk)
    simp [UInt8.toNat_ofNat']
    omega
  · rw [List.getElem?_eq_none (by omega)]
    simp
/-- heLower. -/
def lw (x : Nat) : Nat := if 65 ≤ x ∧ x ≤ 90 then x + 32 else x
/-- A row of bytes that a conversion has made. -/
def BlkF (w : World) (g : Nat) (cs : Array Value) (t : TypeId) : Prop := w.heap[g]? = some (.cells cs t (cs.size, cs.size + 1))
section
variable {w w' : World} {g : Nat} {cs : Array Value} {t : TypeId}
theorem BlkF.lt (h : BlkF w g cs t) : g < w.heap.size := (Array.getElem?_eq_some_iff.1 h).1
theorem BlkF.cell (h : BlkF w g cs t) (i : Nat) {v : Value} (hv : cs[i]? = some v) : w.cell? ⟨g, i, none⟩ = some v := by
  unfold BlkF at h
  simp [World.cell?, h, hv]
theorem BlkF.free (h : BlkF w g cs t) (i : Nat) (hi : i < cs.size) : w.frozen? ⟨g, i, none⟩ = false := by
  unfold BlkF at h
  simp [World.frozen?, h]
  omega
theorem BlkF.set (h : BlkF w g cs t) (i : Nat) (v : Value) : BlkF (w.setCell ⟨g, i, none⟩ v) g (cs.setIfInBounds i v) t := by
  unfold BlkF at h ⊢
  simp [World.setCell, Array.getElem?_modify, h]
theorem BlkF.cast (h : BlkF w g cs t) {cs' : Array Value} (e : cs = cs') : BlkF w g cs' t := e ▸ h
theorem BlkF.rd (h : BlkF w g cs t) (xs : List Int) (hs : xs.length ≤ 140737488351232) (hx : ∀ j (hj : j < xs.length), cs[j]? = some (.int .u8 xs[j])) : Rd w [] (some ⟨g, 0, none⟩) xs.length xs := by
  refine ⟨rfl, hs, fun j hj => ⟨_, rfl, ?_, h.lt, by simp⟩⟩
  have := h.cell j (hx j hj)
  unfold Addr.add
  split
  · rename_i h0
    subst h0
    exact this
  · simpa using this
end
/-- []byte(s). -/
theorem bytesF {P : Program} {src dst e : TypeId} (w : World) (s : ByteArray) (hs : P.underlying src = some .string) (hd : P.underlying dst = some (.slice e)) (he : P.underlying e = some (.int .u8)) :
    ∃ c tl w', (convert src dst (.string s)).run P w = .ok (.slice (some ⟨w.heap.size, 0, none⟩) s.size c) w' ∧ BlkF w' w.heap.size (mx s.size (fun _ => Value.nilIface) (fun t => .int .u8 (at_ s t)) 0 ++ tl).toArray e ∧ Below w.heap.size w w' := by
  refine ⟨_, List.replicate (grownCap w s.size 0 e - s.size) (.int .u8 0), _, Go.Lib.run_convert_string_bytes w src dst e s hs hd he, ?_, ⟨rfl, rfl, rfl, by rw [Go.Lib.bytesWorld_size]; exact Nat.le_succ _, fun k hk => Go.Lib.bytesWorld_at_old w e s k hk⟩⟩
  have e1 : (mx s.size (fun _ => Value.nilIface) (fun t => Value.int .u8 (at_ s t)) 0 ++ List.replicate (grownCap w s.size 0 e - s.size) (Value.int .u8 0)).toArray = Go.Lib.bytesCells w e s := by
    apply Array.ext'
    simp only [Go.Lib.bytesCells, Array.toList_append, Array.toList_replicate, Array.toList_map]
    congr 1
    apply List.ext_getElem?
    intro i
    by_cases hi : i < s.size
    · have h2 : i < s.data.toList.length := by simpa using hi
      rw [mx_get _ _ _ _ _ hi, List.getElem?_map, List.getElem?_eq_getElem h2]
      simp [at_, List.getD_eq_getElem?_getD, List.getElem?_eq_getElem h2]
    · rw [List.getElem?_eq_none (by rw [mx_len]; omega), List.getElem?_eq_none (by simpa using Nat.le_of_not_lt hi)]
  rw [e1]
  exact Go.Lib.bytesWorld_at_new w e s
end Go.Proofs.YtfbdbbkodgijiaaDoor.Kb
