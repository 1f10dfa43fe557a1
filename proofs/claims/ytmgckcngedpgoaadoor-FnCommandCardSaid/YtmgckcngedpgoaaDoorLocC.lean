/- Characters as texts: what the laws of CESU-8 begin with (XLocB without RuneLen). -/
import Derived.Test.YtmgckcngedpgoaaDoorLoc
import Derived.Test.YtmgckcngedpgoaaDoorUtf
import Derived.OpenShut
import Derived.Laws.RangeAny
import Derived.LoopTactic
namespace Go.Proofs.YtmgckcngedpgoaaDoor.Kb
open Go Go.RowKit
set_option linter.unusedVariables false
set_option linter.unusedSimpArgs false
set_option maxHeartbeats 2000000
theorem lt_of_cell {w : World} {a : Addr} {v : Value} (h : w.cell? a = some v) : a.block < w.heap.size := by
  rcases Nat.lt_or_ge a.block w.heap.size with h' | h'
  · exact h'
  · simp [World.cell?, Array.getElem?_eq_none h'] at h
/-- A string's bytes. -/
def nums (s : ByteArray) : List Int := s.data.toList.map fun x => (x.toNat : Int)
theorem str_nums (t : ByteArray) : strOfNums (nums t) = t := by
  unfold nums
  cases t with
  | mk d =>
    have h : ∀ l : List UInt8, l.map ((fun n : Int => UInt8.ofNat n.toNat) ∘ fun x : UInt8 => (x.toNat : Int)) = l := by
      intro l
      induction l with
      | nil => rfl
      | cons x r ih => simp [ih]
    simp [strOfNums, h]
theorem nums_len (s : ByteArray) : (nums s).length = s.size := by simp [nums]
/-- string(l) of characters that can be read. -/
theorem runes_run {P : Program} {src dst e : TypeId} {A : Option Addr} {n c : Nat} {xs : List Int} {w : World} (hs : P.underlying src = some (.slice e)) (he : P.underlying e = some (.int .i32)) (hd : P.underlying dst = some .string)
    (h : RdI w A n xs) : (convert src dst (.slice A n c)).run P w = .ok (.string (runesBytes xs)) w := by
  have hn := h.len
  cases A with
  | none =>
    have h0 : xs = [] := by
      cases xs with
      | nil => rfl
      | cons x xs =>
        obtain ⟨ad, h1, _⟩ := h.at_ 0 (by simp)
        cases h1
    subst h0
    exact run_convert_runes_nil w src dst e n c hs he hd
  | some ad =>
    have := run_convert_runes (P := P) w src dst e ad n c xs (by omega) hs he hd (fun j hj => by
      obtain ⟨ad', h1, h2, _⟩ := h.at_ j hj
      cases h1
      rw [h2]
      simp [hj])
    rwa [List.take_of_length_le (by omega)] at this
/-- []byte(s). -/
theorem bytes_run {P : Program} {src dst e : TypeId} (w : World) (s : ByteArray) (hz : s.size ≤ 140737488351232) (hs : P.underlying src = some .string) (hd : P.underlying dst = some (.slice e)) (he : P.underlying e = some (.int .u8)) :
    ∃ c w', (convert src dst (.string s)).run P w = .ok (.slice (some ⟨w.heap.size, 0, none⟩) s.size c) w' ∧ s.size ≤ c ∧ c ≤ maxLen ∧ Rd w' [] (some ⟨w.heap.size, 0, none⟩) s.size (nums s) ∧ Below w.heap.size w w' := by
  refine ⟨_, _, Go.Lib.run_convert_string_bytes w src dst e s hs hd he, grownCap_ge _ _ _ _, grownCap_le_maxLen _ _ _ _ (by unfold maxLen; omega), ⟨nums_len s, hz, fun j hj => ⟨_, rfl, ?_, ?_, by simp⟩⟩, ?_⟩
  · have := Go.Lib.bytesWorld_cell w e s j (by rw [← nums_len]; exact hj)
    have e1 : (⟨w.heap.size, 0, none⟩ : Addr).add j = ⟨w.heap.size, j, none⟩ := by simp [Addr.add]; intro h; exact h.symm
    rw [e1, this]
    have hj' : j < s.size := by rw [← nums_len]; exact hj
    have hj2 : j < s.data.toList.length := by simpa using hj'
    simp [nums, List.getD_eq_getElem?_getD, List.getElem?_eq_getElem hj2]
  · rw [Go.Lib.bytesWorld_size]; exact Nat.lt_succ_self _
  · exact ⟨rfl, rfl, rfl, by rw [Go.Lib.bytesWorld_size]; exact Nat.le_succ _, fun k hk => Go.Lib.bytesWorld_at_old w e s k hk⟩
theorem RdI.part {w : World} {A : Option Addr} {n : Nat} {xs : List Int} (h : RdI w A n xs) (m : Nat) (hm : m ≤ n) : RdI w A m (xs.take m) := by
  have hl := h.len
  refine ⟨by simp; omega, fun j hj => ?_⟩
  simp at hj
  obtain ⟨ad, h1, h2, h3⟩ := h.at_ j (by omega)
  exact ⟨ad, h1, by simpa using h2, h3⟩
/-- How a lob counts characters. -/
def cnt (F : List Int) : Nat := (F.map fun r => if r > 65535 then 2 else 1).sum
theorem cnt_le (F : List Int) : cnt F ≤ 2 * F.length := by
  induction F with
  | nil => simp [cnt]
  | cons r F ih =>
    unfold cnt at *
    simp only [List.map_cons, List.sum_cons, List.length_cons]
    split <;> omega
theorem cnt_next (F : List Int) (k : Nat) (hk : k < F.length) : cnt (F.take (k + 1)) = cnt (F.take k) + (if F[k] > 65535 then 2 else 1) := by
  rw [List.take_succ_eq_append_getElem hk]
  unfold cnt
  rw [List.map_append, List.sum_append]
  simp only [List.map_cons, List.map_nil, List.sum_cons, List.sum_nil, Nat.add_zero]
/-- A character that is one. -/
def isV (r : Int) : Prop := 0 ≤ r ∧ r ≤ 1114111 ∧ ¬ (55296 ≤ r ∧ r ≤ 57343)
theorem runes_append (a b : List Int) : (runesBytes (a ++ b)).data.toList = (runesBytes a).data.toList ++ (runesBytes b).data.toList := by
  have h : ∀ (b : List Int) (s : ByteArray), (b.foldl (fun r n => r ++ Utf8.encode n) s).data.toList = s.data.toList ++ (b.foldl (fun r n => r ++ Utf8.encode n) ByteArray.empty).data.toList := by
    intro b
    induction b with
    | nil => intro s; simp
    | cons x b ih =>
      intro s
      simp only [List.foldl_cons]
      rw [ih (s ++ Utf8.encode x), ih (ByteArray.empty ++ Utf8.encode x)]
      simp [ByteArray.data_append]
  unfold runesBytes
  rw [List.foldl_append, h b]
theorem runes_one (x : Int) : (runesBytes [x]).data.toList = (Utf8.encode x).data.toList := by simp [runesBytes]
theorem size_runes (F : List Int) : (runesBytes F).size = (runesBytes F).data.toList.length := Go.Proofs.YtmgckcngedpgoaaDoor.Utf.size_at _ _ rfl
theorem encode_pos (r : Int) : 0 < (Utf8.encode r).size := by
  unfold Utf8.encode
  simp only
  repeat' split
  all_goals simp [ByteArray.size]
/-- What stands at the place of the k-th character. -/
theorem decode_runes (F : List Int) (k : Nat) (hk : k < F.length) (hv : isV F[k]) :
    (runesBytes (F.take k)).size < (runesBytes F).size ∧ Utf8.decode (runesBytes F) (runesBytes (F.take k)).size = (F[k].toNat, (Utf8.encode F[k]).size) ∧ (runesBytes (F.take (k + 1))).size = (runesBytes (F.take k)).size + (Utf8.encode F[k]).size := by
  have e : (runesBytes F).data.toList = (runesBytes (F.take k)).data.toList ++ ((Utf8.encode F[k]).data.toList ++ (runesBytes (F.drop (k + 1))).data.toList) := by
    have : F = F.take k ++ ([F[k]] ++ F.drop (k + 1)) := by simp
    conv => lhs; rw [this]
    rw [runes_append, runes_append, runes_one]
  have e2 : (runesBytes (F.take (k + 1))).data.toList = (runesBytes (F.take k)).data.toList ++ (Utf8.encode F[k]).data.toList := by
    rw [List.take_succ_eq_append_getElem hk, runes_append, runes_one]
  have hp := encode_pos F[k]
  have es : (Utf8.encode F[k]).size = (Utf8.encode F[k]).data.toList.length := Go.Proofs.YtmgckcngedpgoaaDoor.Utf.size_at _ _ rfl
  obtain ⟨v0, v1, v2⟩ := hv
  have hn : ((F[k].toNat : Nat) : Int) = F[k] := by omega
  refine ⟨?_, ?_, ?_⟩
  · rw [size_runes, size_runes F, e, List.length_append, List.length_append, ← es]; omega
  · have := Go.Proofs.YtmgckcngedpgoaaDoor.Utf.decode_mid (runesBytes F) (runesBytes (F.take k)).data.toList (runesBytes (F.drop (k + 1))).data.toList F[k].toNat (by omega) (by rw [hn]; exact e)
    rw [hn, ← size_runes] at this
    exact this
  · rw [size_runes, e2, List.length_append, ← es, ← size_runes]
end Go.Proofs.YtmgckcngedpgoaaDoor.Kb
