/- The reference's HeBytes and HeRow: numbers as bytes. -/
import Derived.Test.YtmgckcngedpgoaaDoorMake
namespace Go.Proofs.YtmgckcngedpgoaaDoor.Kb
open Go Go.RowKit
set_option linter.unusedVariables false
set_option linter.unusedSimpArgs false
set_option maxHeartbeats 1000000
/-- What a row of its own reads as. -/
theorem own_rd {w : World} {B n : Nat} {e : TypeId} {v : Value} {xs : List Int} (h : w.ownsRow B e 1 v n (bc xs)) (hs : n ≤ 140737488351232) : ∃ A c, v = .slice A n c ∧ n ≤ c ∧ c ≤ maxLen ∧ Rd w [] A n xs ∧ (0 < n → A.isSome = true) ∧ ∀ ad, A = some ad → B ≤ ad.block := by
  obtain ⟨h1, h2⟩ := h
  have hl : xs.length = n := by simpa using h1
  rcases h2 with ⟨rfl, h0⟩ | ⟨g, cap, cur, rfl, hg, hh, h3, h4, h5, h6⟩
  · subst h0
    obtain rfl : xs = [] := List.eq_nil_of_length_eq_zero hl
    exact ⟨none, 0, rfl, Nat.le_refl _, Nat.zero_le _, ⟨rfl, by omega, fun j hj => by simp at hj⟩, fun h => by omega, fun ad h => by cases h⟩
  · refine ⟨_, cap, rfl, h3, h4, ⟨hl, hs, fun j hj => ⟨_, rfl, ?_, (Array.getElem?_eq_some_iff.1 hh).1, by simp⟩⟩, fun _ => rfl, fun ad h => by cases h; exact hg⟩
    refine Blk.cellz hh j ?_
    have : (cur.toList.take (n * 1))[j]? = (bc xs)[j]? := by rw [h6]
    rw [List.getElem?_take, if_pos (by omega)] at this
    rw [← Array.getElem?_toList, this]
    simp [hj]
/-- One byte more. -/
theorem splice_snoc (Z : List Value) (l : List Int) (y : Int) (k : Nat) (hl : l.length = k) (hZ : k < Z.length) : (splice Z 0 (bc l)).set k (.int .u8 y) = splice Z 0 (bc (l ++ [y])) := by
  subst hl
  have e1 : splice Z 0 (bc l) = bc l ++ Z.drop l.length := by simp [splice]
  have e2 : splice Z 0 (bc (l ++ [y])) = bc l ++ (.int .u8 y :: Z.drop (l.length + 1)) := by simp [splice]
  have e3 : Z.drop l.length = Z[l.length] :: Z.drop (l.length + 1) := (List.getElem_cons_drop ..).symm
  rw [e1, e2, List.set_append_right _ _ (by simp)]
  simp only [List.length_map, Nat.sub_self]
  rw [e3]
  rfl
theorem leB_snoc (n : Nat) : ∀ x : Int, leB (n + 1) x = leB n x ++ [x / 256 ^ n % 256] := by
  induction n with
  | zero => intro x; simp [leB]
  | succ n ih =>
    intro x
    rw [leB, ih, leB]
    simp only [List.cons_append]
    congr 2
    rw [Int.ediv_ediv_of_nonneg (by omega), Int.pow_succ, Int.mul_comm]
set_option maxRecDepth 100000 in
theorem heBytes (x : Int) (n : Nat) (m : Int) (w : World) (hm : m = n) (hn : n ≤ 1000) (h0 : 0 < n) :
    Calls Tryd.prog 14 #[.int .i64 x, .int .i64 m] w fun e w' => e = .returned (.slice (some ⟨w.heap.size, 0, none⟩) n n) ∧ Blk w' w.heap.size (bc (leB n x)).toArray 5 ∧ Below w.heap.size w w' := by
  subst hm
  go_enter Tryd.func14, Tryd.ntmps14
  go_wp2_with (refine wpList_make_z rfl _ _ 24 rfl 5 (.int .u8 0) 1 Tryd.underlying24 infoB rfl .i64 .i64 _ _ n rfl rfl rfl rfl (by omega) (by omega) ?_)
  intro w1 hb hl hs
  have HB := Hd.mk hb; have HL := Hd.mk hl; have HS := Hd.mk hs
  clear hb hl hs
  go_wp2
  go_loopw [0, 11] (fun y i wr => ∃ k : Nat, k ≤ n ∧ i = .int .i64 k ∧ y = .int .i64 (x / 256 ^ k) ∧ Blk wr w.heap.size (splice (zs n (.int .u8 0)) 0 (bc (leB k x))).toArray 5 ∧ Below w.heap.size w wr) (fun _ i _ => n - (intOf i).toNat)
  case atStart => exact ⟨0, by omega, rfl, by simp, HB.out.cast (by simp [splice, leB]), HL.out⟩
  case round =>
    obtain ⟨k, hk, rfl, rfl, hb, hl⟩ := hrel
    by_cases hlt : k < n
    · have s0 : ∃ v, wr.cell? ⟨w.heap.size, k, none⟩ = some v := ⟨_, hb.cell k (Array.getElem?_eq_getElem (by rw [List.size_toArray, splice_len _ _ (by rw [leB_len, zs_len]; omega), zs_len]; omega))⟩
      obtain ⟨v, s0⟩ := s0
      have f0 := hb.free k
      have HB := Hd.mk hb; have HL := Hd.mk hl
      clear hb hl
      go_wp2
      go_roundw
      case rel =>
        refine ⟨k + 1, by omega, by go_num, ?_, (HB.out.set k _).cast ?_, HL.out.setCell (Nat.le_refl _) _⟩
        · rw [Int.ediv_ediv_of_nonneg (Int.le_of_lt (Int.pow_pos (by omega))), Int.pow_succ]
        · rw [leB_snoc]
          apply Array.ext'
          rw [Array.toList_setIfInBounds]
          exact splice_snoc _ _ _ _ (leB_len k x) (by rw [zs_len]; omega)
      case measure => simp [intOf]; omega
    · obtain rfl : k = n := by omega
      go_wp2
      go_ret
      refine ⟨rfl, hb.cast ?_, hl⟩
      simp [splice, leB_len, zs_len, zs]
/-- Numbers as bytes, one behind the other. -/
def rowB : List (Int × Nat) → List Int
  | [] => []
  | p :: r => leB p.2 p.1 ++ rowB r
theorem rowB_append (a b : List (Int × Nat)) : rowB (a ++ b) = rowB a ++ rowB b := by
  induction a with
  | nil => rfl
  | cons p r ih => simp [rowB, ih]
theorem rowB_len (L : List (Int × Nat)) (h : ∀ p ∈ L, p.2 ≤ 1000) : (rowB L).length ≤ 1000 * L.length := by
  induction L with
  | nil => simp [rowB]
  | cons p r ih =>
    have h1 := h p List.mem_cons_self
    have h2 := ih (fun q hq => h q (List.mem_cons_of_mem _ hq))
    simp only [rowB, List.length_append, leB_len, List.length_cons]
    omega
set_option maxRecDepth 100000 in
theorem heRow (L : List (Int × Nat)) (g1 g2 n c1 c2 : Nat) (cs1 cs2 : Array Value) (t1 t2 : TypeId) (w : World) (hn : L.length = n) (hL : ∀ p ∈ L, 0 < p.2 ∧ p.2 ≤ 1000) (hm : n ≤ 1000)
    (h1 : Blk w g1 cs1 t1) (h2 : Blk w g2 cs2 t2) (e1 : ∀ j (hj : j < L.length), cs1[j]? = some (.int .i64 L[j].1)) (e2 : ∀ j (hj : j < L.length), cs2[j]? = some (.int .i64 L[j].2)) :
    Calls Tryd.prog 7 #[.slice (some ⟨g1, 0, none⟩) n c1, .slice (some ⟨g2, 0, none⟩) n c2] w fun e w' => ∃ v, e = .returned v ∧ w'.ownsRow w.heap.size 5 1 v (rowB L).length (bc (rowB L)) ∧ Below w.heap.size w w' := by
  obtain ⟨i0, hi, hz0, hz1, hz2⟩ := info_of infoB
  have I := Hd.mk (And.intro hi (And.intro hz0 (And.intro hz1 hz2)))
  have H1 := Hd.mk h1; have H2 := Hd.mk h2; have E1 := Hd.mk e1; have E2 := Hd.mk e2; have HL := Hd.mk hL; have HN := Hd.mk hn
  clear hi hz0 hz1 hz2 h1 h2 e1 e2 hL hn
  go_enter Tryd.func7, Tryd.ntmps7
  go_wp2
  go_loopw [5, 10] (fun v i wr => ∃ k : Nat, k ≤ n ∧ i = .int .i64 k ∧ wr.ownsRow w.heap.size 5 1 v (rowB (L.take k)).length (bc (rowB (L.take k))) ∧ Below w.heap.size w wr) (fun _ i _ => n - (intOf i).toNat)
  case atStart => exact ⟨0, by omega, rfl, by simpa [rowB] using World.ownsRow_nil _ _ _ _, Below.refl _ _⟩
  case round =>
    obtain ⟨k, hk, rfl, hown, hb⟩ := hrel
    by_cases hlt : k < n
    · have hkL : k < L.length := by rw [HN.out]; exact hlt
      have d1 : wr.cell? ⟨g1, k, none⟩ = some (.int .i64 L[k].1) := (H1.out.below hb H1.out.lt).cell k (E1.out k hkL)
      have d2 : wr.cell? ⟨g2, k, none⟩ = some (.int .i64 L[k].2) := (H2.out.below hb H2.out.lt).cell k (E2.out k hkL)
      have hp := HL.out L[k] (List.getElem_mem hkL)
      have hlen := rowB_len (L.take k) (fun p hp => (HL.out p (List.mem_of_mem_take hp)).2)
      rw [List.length_take] at hlen
      have ets : L.take (k + 1) = L.take k ++ [L[k]] := List.take_succ_eq_append_getElem hkL
      have er : rowB (L.take (k + 1)) = rowB (L.take k) ++ leB L[k].2 L[k].1 := by rw [ets, rowB_append]; simp [rowB]
      have ER := Hd.mk er
      have HO := Hd.mk hown; have HB := Hd.mk hb
      generalize L[k].1 = x at *
      generalize L[k].2 = m at *
      have HP := Hd.mk hp; have HLN := Hd.mk hlen
      clear hown hb hkL ets er hp hlen
      generalize rowB (L.take k) = R at *
      go_wp2_with fail
      with_reducible refine (heBytes x m _ _ rfl HP.out.2 HP.out.1).mono ?_
      rintro e w1 ⟨rfl, hb1, hl1⟩
      have HB1 := Hd.mk hb1; have HL1 := Hd.mk hl1
      have hown1 : w1.ownsRow w.heap.size 5 1 _ R.length (bc R) := HO.out.kept (row := none) ⟨hl1.os, hl1.tape, hl1.output, hl1.size, fun k hk _ => hl1.block k hk⟩ (by cases h : Value.ownBlock _ with | none => exact .inl rfl | some k => exact .inr (by simp))
      clear hb1 hl1
      go_wp2_with (at_builtin; refine wpList_append_own _ rfl _ _ 24 rfl w.heap.size 5 i0 (.int .u8 0) 1 1 Tryd.underlying24 I.out.1 I.out.2.1 I.out.2.2.1 I.out.2.2.2 rfl (by decide) _ _ _ rfl hown1 ⟨wr.heap.size, 0, none⟩ m m (bc (leB m x)) rfl ?c0 ?c1 ?c2 ?c3 ?c4 ?c5 ?_)
      case c0 => simp [leB_len]
      case c1 =>
        intro j u hu
        exact HB1.out.cellz j (by simpa using hu)
      case c2 =>
        intro u hu
        obtain ⟨x, _, rfl⟩ := List.mem_map.1 hu
        rfl
      case c3 => have := HP.out; have := HLN.out; unfold maxLen; omega
      case c4 => have := HP.out; have := HLN.out; omega
      case c5 => exact Nat.le_trans HB.out.size HL1.out.size
      intro v' w2 hown' hgrow _
      have HO2 := Hd.mk hown'
      have HB2 := Hd.mk ((HB.out.trans (HL1.out.mono HB.out.size)).grown hgrow (Nat.le_trans HB.out.size HL1.out.size) (fun k hk => (hown1.lt k hk).1))
      clear hown' hgrow hown1 d1 d2
      go_wp2
      go_roundw
      case rel =>
        refine ⟨k + 1, by omega, by go_num, ?_, HB2.out⟩
        rw [ER.out, List.length_append, leB_len]
        have e : bc (R ++ leB m x) = bc R ++ bc (leB m x) := List.map_append
        rw [e]
        exact HO2.out
      case measure => simp [intOf]; omega
    · obtain rfl : k = n := by omega
      go_wp2
      have e : L.take k = L := by rw [← HN.out]; exact List.take_length
      rw [e] at hown
      refine bodyPost_ret (v := _) (by simp [results, Tryd.results7, go_sem]) rfl ⟨_, rfl, hown, hb⟩
end Go.Proofs.YtmgckcngedpgoaaDoor.Kb
