/- Versions: formatUint64, zzIndex, zzCut. -/
import Derived.Test.YtagmjdhjhjlffaaDoorVerA
import Derived.BigQuiet
import Derived.BigRegion
namespace Go.Proofs.YtagmjdhjhjlffaaDoor.Kb
open Go Go.RowKit
set_option linter.unusedVariables false
set_option linter.unusedSimpArgs false
set_option maxHeartbeats 6400000
theorem S_append (a b : List UInt8) : S a ++ S b = S (a ++ b) := by
  apply ByteArray.ext
  simp [S]
theorem S_extract (l : List UInt8) (i j : Nat) : (S l).extract i j = S ((l.take j).drop i) := by
  apply ByteArray.ext
  simp [S, ByteArray.data_extract, List.drop_take]
theorem S_zeros : ∀ k, k ≤ 3 → (⟨#[48, 48, 48]⟩ : ByteArray).extract 0 k = S (List.replicate k 48)
  | 0, _ => by decide
  | 1, _ => by decide
  | 2, _ => by decide
  | 3, _ => by decide
theorem below_drewN (w : World) (n : Nat) : Below w.heap.size w (w.drewN n) := ⟨rfl, rfl, rfl, Nat.le_refl _, fun j hj => rfl⟩
theorem pow_below {w w' : World} (h : Pow w) (hb : Below w.heap.size w w') : Pow w' := by
  unfold Pow Lib.TabIs World.var? at *
  cases hg : Tryd.prog.globalNamed "internal/strconv.uint64pow10" with
  | none => simp [hg] at h
  | some g =>
    simp only [hg, Option.bind_some] at h ⊢
    have hlt : g < w.heap.size := by
      rcases Nat.lt_or_ge g w.heap.size with h' | h'
      · exact h'
      · rw [Array.getElem?_eq_none h'] at h; simp at h
    rw [hb.block g hlt]
    exact h
/-- The call gives the text l; what was there is as it was. -/
def Says (l : List UInt8) (w : World) (e : Ending) (w' : World) : Prop := e = .returned (.string (S l)) ∧ Below w.heap.size w w'
set_option maxRecDepth 100000 in
theorem formatUint64 (u k : Nat) (hu64 : u < 18446744073709551616) (hk : 1 ≤ k) (hk3 : k ≤ 3) (hu : u < 10 ^ k) (w : World) (htab : Pow w) : Calls Tryd.prog 23 #[.int .u64 u, .int .i64 k] w fun e w' => Says (lowD u k) w e w' := by
  have C := Hd.mk (formatUint u hu64 w.drew (show Pow w.drew from htab))
  have hz := S_zeros k hk3
  have HL := Hd.mk (fmt_low hk hu)
  have hlen : (S (List.replicate k 48) ++ S (Lib.decDigits u)).size = k + Lib.nDigits u := by rw [S_append, S_size]; simp [Lib.decDigits_length]
  have h3 : (k : Int) ≤ 3 := by omega
  obtain ⟨n, hn⟩ : ∃ n, Lib.nDigits u = n := ⟨_, rfl⟩
  have hn1 : n ≤ k := by rw [← hn]; exact nDigits_le hk hu
  rw [hn] at hlen HL
  have hnl : ¬ 9223372036854775807 < (S (List.replicate k 48)).size + (S (Lib.decDigits u)).size := by rw [S_size, S_size]; simp [Lib.decDigits_length, hn]; omega
  obtain ⟨t, ht⟩ : ∃ t, S (List.replicate k 48) ++ S (Lib.decDigits u) = t := ⟨_, rfl⟩
  rw [ht] at hlen
  clear htab hu
  go_enter Tryd.func23, Tryd.ntmps23
  go_wp2
  go_region_with (go_at_call 22; (with_reducible refine C.out.mono ?_); rintro e w1 ⟨rfl, hb⟩; have HB := Hd.mk hb; clear hb)
  all_goals
    go_wp2
    go_ret
    refine ⟨?_, ((Below.refl w.heap.size w).drew).trans HB.out⟩
    rw [← ht, S_append, S_extract, List.take_of_length_le (by simp [Lib.decDigits_length, hn]), HL.out]
    rfl
set_option maxRecDepth 100000 in
theorem index_at (a r : List UInt8) (ha : ∀ c ∈ a, c ≠ 46) (hs : (a ++ 46 :: r).length ≤ 1000) (w : World) : Calls Tryd.prog 33 #[.string (S (a ++ 46 :: r)), .string ⟨#[46]⟩] w fun e w' => e = .returned (.int .i64 a.length) ∧ w' = w := by
  obtain ⟨s, hsz⟩ : ∃ s, S (a ++ 46 :: r) = s := ⟨_, rfl⟩
  have hss := S_size (a ++ 46 :: r)
  rw [hsz] at hss ⊢
  simp only [List.length_append, List.length_cons] at hss hs
  have he : ∀ k, k < a.length → ((s.extract k (k + 1)).toList == [46]) = false := by
    intro k hk
    rw [← hsz, S_extract, ByteArray.toList_eq]
    have hx : ((a ++ 46 :: r).take (k + 1)).drop k = [a[k]] := by
      rw [List.take_append_of_le_length (by omega), List.drop_take, List.drop_eq_getElem_cons hk, show k + 1 - k = 1 by omega]
      rfl
    rw [hx]
    have := ha a[k] (List.getElem_mem hk)
    simpa [S] using this
  have hf : ((s.extract a.length (a.length + 1)).toList == [46]) = true := by
    rw [← hsz, S_extract, ByteArray.toList_eq]
    have hx : ((a ++ 46 :: r).take (a.length + 1)).drop a.length = [46] := by
      rw [List.drop_take, List.drop_left]
      simp
    rw [hx]
    simp [S]
  obtain ⟨n, hn⟩ : ∃ n, a.length = n := ⟨_, rfl⟩
  rw [hn] at hss hs he hf ⊢
  have HE := Hd.mk he; have HF := Hd.mk hf
  clear he hf hsz ha hn
  go_enter Tryd.func33, Tryd.ntmps33
  go_wp2
  go_loop [5] (fun i => ∃ k : Nat, k ≤ n ∧ i = .int .i64 k) (fun i => n - (intOf i).toNat)
  case atStart => exact ⟨0, Nat.zero_le _, rfl⟩
  case round =>
    obtain ⟨k, hk, rfl⟩ := hrel
    have hle : (k : Int) + 1 ≤ s.size := by omega
    by_cases hlt : k < n
    · have he := HE.out k hlt
      go_wp2
      go_round
      case rel => exact ⟨k + 1, by omega, by go_num⟩
      case measure => simp [intOf]; omega
    · obtain rfl : k = n := by omega
      have hf := HF.out
      go_wp2
      go_ret
      exact ⟨rfl, rfl⟩
set_option maxRecDepth 100000 in
theorem index_no (a : List UInt8) (ha : ∀ c ∈ a, c ≠ 46) (hs : a.length ≤ 1000) (w : World) : Calls Tryd.prog 33 #[.string (S a), .string ⟨#[46]⟩] w fun e w' => e = .returned (.int .i64 (-1)) ∧ w' = w := by
  obtain ⟨s, hsz⟩ : ∃ s, S a = s := ⟨_, rfl⟩
  have hss := S_size a
  rw [hsz] at hss ⊢
  have he : ∀ k, k < a.length → ((s.extract k (k + 1)).toList == [46]) = false := by
    intro k hk
    rw [← hsz, S_extract, ByteArray.toList_eq]
    have hx : (a.take (k + 1)).drop k = [a[k]] := by
      rw [List.drop_take, List.drop_eq_getElem_cons hk, show k + 1 - k = 1 by omega]
      rfl
    rw [hx]
    have := ha a[k] (List.getElem_mem hk)
    simpa [S] using this
  obtain ⟨n, hn⟩ : ∃ n, a.length = n := ⟨_, rfl⟩
  rw [hn] at hss hs he
  have HE := Hd.mk he
  clear he hsz ha hn
  go_enter Tryd.func33, Tryd.ntmps33
  go_wp2
  go_loop [5] (fun i => ∃ k : Nat, k ≤ n ∧ i = .int .i64 k) (fun i => n - (intOf i).toNat)
  case atStart => exact ⟨0, Nat.zero_le _, rfl⟩
  case round =>
    obtain ⟨k, hk, rfl⟩ := hrel
    by_cases hlt : k < n
    · have he := HE.out k hlt
      have hle : (k : Int) + 1 ≤ s.size := by omega
      go_wp2
      go_round
      case rel => exact ⟨k + 1, by omega, by go_num⟩
      case measure => simp [intOf]; omega
    · obtain rfl : k = n := by omega
      have hle : ¬ (k : Int) + 1 ≤ s.size := by omega
      go_wp2
      go_ret
      exact ⟨rfl, rfl⟩
set_option maxRecDepth 100000 in
theorem cut_no (a : List UInt8) (ha : ∀ c ∈ a, c ≠ 46) (hs : a.length ≤ 1000) (w : World) : Calls Tryd.prog 28 #[.string (S a), .string ⟨#[46]⟩] w fun e w' => e = .returned (.tuple #[.string (S a), .string ⟨#[]⟩, .bool false]) ∧ w' = w := by
  have C := Hd.mk (index_no a ha hs w)
  clear ha hs
  go_enter Tryd.func28, Tryd.ntmps28
  go_wp2_with fail
  with_reducible refine C.out.mono ?_
  rintro e w1 ⟨rfl, rfl⟩
  clear C
  go_wp2
  exact bodyPost_ret (v := .tuple #[.string (S a), .string ⟨#[]⟩, .bool false]) (by simp [results, Tryd.results28, go_sem]) rfl ⟨rfl, rfl⟩
set_option maxRecDepth 100000 in
theorem cut_at (a r : List UInt8) (ha : ∀ c ∈ a, c ≠ 46) (hs : (a ++ 46 :: r).length ≤ 1000) (w : World) : Calls Tryd.prog 28 #[.string (S (a ++ 46 :: r)), .string ⟨#[46]⟩] w fun e w' => e = .returned (.tuple #[.string (S a), .string (S r), .bool true]) ∧ Below w.heap.size w w' := by
  have C := Hd.mk (index_at a r ha hs w)
  have hss := S_size (a ++ 46 :: r)
  simp only [List.length_append, List.length_cons] at hss hs
  have h1 : (S (a ++ 46 :: r)).extract 0 a.length = S a := by rw [S_extract]; simp
  have h2 : (S (a ++ 46 :: r)).extract (a.length + 1) (a.length + (r.length + 1)) = S r := by
    rw [S_extract, List.take_of_length_le (by simp), ← List.drop_drop, List.drop_left]
    simp
  obtain ⟨n, hn⟩ : ∃ n, a.length = n := ⟨_, rfl⟩
  rw [hn] at hss hs h1 h2 C
  obtain ⟨s, hsz⟩ : ∃ s, S (a ++ 46 :: r) = s := ⟨_, rfl⟩
  rw [hsz] at hss h1 h2 C ⊢
  clear ha hsz
  go_enter Tryd.func28, Tryd.ntmps28
  go_wp2_with fail
  with_reducible refine C.out.mono ?_
  rintro e w1 ⟨rfl, rfl⟩
  clear C
  go_wp2
  go_quiet (fail)
  go_wp2
  exact bodyPost_ret (v := .tuple #[.string (S a), .string (S r), .bool true]) (by simp [results, Tryd.results28, go_sem]) rfl ⟨rfl, below_drewN _ _⟩
end Go.Proofs.YtagmjdhjhjlffaaDoor.Kb
