/- FnScript, FnScriptComments: what the laws prepare: quoted parts, comments, what is left; zzFits11, scSign. -/
import Derived.Test.YtfbdbbkodgijiaaDoorScI
namespace Go.Proofs.YtfbdbbkodgijiaaDoor.Kb
open Go Go.RowKit
set_option linter.unusedVariables false
set_option linter.unusedSimpArgs false
set_option maxHeartbeats 4000000
/-- A statement with a quoted part. -/
theorem stmt_quoted {sep mk : Nat} {l q : List Nat} (h : Prep sep l) (hq : Plain 0 q) (hmk : mk = 39 ∨ mk = 34) (hs : sep ≠ 32 ∧ sep ≠ 39 ∧ sep ≠ 34) (com : Bool) : Stmt sep com (l ++ 32 :: mk :: (q ++ [mk, 32])) (stm (l ++ 32 :: mk :: (q ++ [mk, 32]))) := by
  obtain ⟨ws, c, b, rfl, hw, hc, h45⟩ := h.out
  have hcb : ∀ x ∈ c :: b, x ≠ sep ∧ x ≠ 39 ∧ x ≠ 34 ∧ x < 128 := fun x hx => by
    have := h.ok x (List.mem_append.2 (.inr hx))
    unfold okc at this
    omega
  have hqq : ∀ x ∈ q, x ≠ mk ∧ x < 128 := fun x hx => by
    have := hq.ok x hx
    unfold okc at this
    omega
  have B1 : Body sep [32] [32] := .one 32 [] [] (by omega) (by omega) (by omega) (by omega) .nil
  have B2 := Body.quo (sep := sep) mk q 32 [] [32] hmk (by omega) hqq (by omega) (by omega) B1
  have B3 := Body.one (sep := sep) 32 _ _ (by omega) (by omega) (by omega) (by omega) B2
  have B4 := Body.plain (sep := sep) hcb B3
  have hok : ∀ x ∈ c :: (b ++ 32 :: mk :: (q ++ [mk, 32])), okt x := by
    intro x hx
    rcases List.mem_cons.1 hx with rfl | hx
    · exact (h.ok x (List.mem_append.2 (.inr (by simp)))).1
    · rcases List.mem_append.1 hx with hx | hx
      · exact (h.ok x (List.mem_append.2 (.inr (by simp [hx])))).1
      · simp only [List.mem_cons, List.mem_append, List.not_mem_nil, or_false] at hx
        unfold okt
        rcases hx with rfl | rfl | hx | rfl | rfl
        · omega
        · omega
        · exact (hq.ok x hx).1
        · omega
        · omega
  refine ⟨ws, [], c, b ++ 32 :: mk :: (q ++ [mk, 32]), keep (c :: (b ++ 32 :: mk :: (q ++ [mk, 32]))), by simp, Lead.of_ws (fun x hx => ⟨hw x hx, sp_lt (hw x hx)⟩), ?_, ?_, hc, h45, ?_⟩
  · have e : keep (c :: (b ++ 32 :: mk :: (q ++ [mk, 32]))) = keep (c :: b) ++ ((if nl 32 then [] else [32]) ++ mk :: (keep q ++ mk :: [32])) := by
      have n32 : nl 32 = false := by decide
      have nmk : nl mk = false := by unfold nl; simp; omega
      rw [show c :: (b ++ 32 :: mk :: (q ++ [mk, 32])) = (c :: b) ++ (32 :: mk :: (q ++ [mk, 32])) by simp, keep_append, keep_cons 32, keep_cons mk, keep_append, keep_cons mk, keep_cons 32, n32, nmk]
      simp [keep]
    rw [e]
    simpa using B4
  · rw [show (ws ++ c :: b) ++ 32 :: mk :: (q ++ [mk, 32]) = ws ++ c :: (b ++ 32 :: mk :: (q ++ [mk, 32])) by simp, stm_append_ws hw, stm_head hc, keep_of hok]; rfl
  · have : c ≠ 10 := by rintro rfl; simp [sp] at hc
    have h13 : c ≠ 13 := by rintro rfl; simp [sp] at hc
    rw [keep_cons, show nl c = false by unfold nl; simp; omega]
    simp
theorem stm_tail_left {sep : Nat} {l : List Nat} (h : Plain sep l) (h0 : stm l ≠ []) : Left sep l := by
  obtain ⟨ws, b, rfl, hw, hb, hs⟩ := stm_split l
  rcases hb with rfl | ⟨c, r, rfl, hc⟩
  · rw [hs] at h0; exact absurd rfl h0
  · refine ⟨ws, c :: r, rfl, fun x hx => ⟨hw x hx, sp_lt (hw x hx)⟩, fun x hx => ?_, fun _ => ⟨by simpa using hc, ?_⟩⟩
    · have := h.ok x (List.mem_append.2 (.inr hx))
      unfold okc at this
      omega
    · have := h.apart ws.length
      simp only [List.getD_eq_getElem?_getD] at this ⊢
      rw [List.getElem?_append_right (Nat.le_refl _), List.getElem?_append_right (by omega)] at this
      simpa using this
/-- A []string that came in. -/
structure StrRow (w : World) (A : Option Addr) (n : Nat) (ss : List ByteArray) : Prop where
  len : ss.length = n
  at_ : ∀ i, i < n → ∃ x, A = some x ∧ w.cell? (x.add i) = some (.string (ss.getD i ByteArray.empty)) ∧ x.block < w.heap.size
theorem StrRow.below {w w' : World} {A : Option Addr} {n : Nat} {ss : List ByteArray} (h : StrRow w A n ss) (hb : Below w.heap.size w w') : StrRow w' A n ss :=
  ⟨h.len, fun i hi => by
    obtain ⟨x, h1, h2, h3⟩ := h.at_ i hi
    exact ⟨x, h1, by rw [World.cell?_of_block (w := w) (hb.block _ (by rw [add_block]; exact h3))]; exact h2, Nat.lt_of_lt_of_le h3 hb.size⟩⟩
/-- All texts are short. -/
def Short (n : Nat) (ss : List ByteArray) : Prop := n ≤ 2147483647 ∧ ∀ i, i < n → (ss.getD i ByteArray.empty).size ≤ 2147483647
def FitsOut (n : Nat) (ss : List ByteArray) (w : World) (e : Ending) (w' : World) : Prop := ∃ b : Bool, e = .returned (.bool b) ∧ w' = w ∧ (b = true → Short n ss)
set_option maxRecDepth 100000 in
theorem fits11 {w : World} {A : Option Addr} {n c : Nat} {ss : List ByteArray} (h : StrRow w A n ss) (hn : n ≤ 9223372036854775807) (hs : ∀ i, i < n → (ss.getD i ByteArray.empty).size ≤ 9223372036854775807) :
    Calls Tryd.prog 9 #[.slice A n c] w fun e w' => FitsOut n ss w e w' := by
  by_cases hbig : (2147483647 : Int) < n
  · clear h hs
    go_enter Tryd.func9, Tryd.ntmps9
    go_wp2
    go_ret
    exact ⟨false, rfl, rfl, fun h => by cases h⟩
  · have H := Hd.mk h
    have HSZ := Hd.mk hs
    clear h hs
    go_enter Tryd.func9, Tryd.ntmps9
    go_wp2
    go_loop [10] (fun i => ∃ k : Nat, k ≤ n ∧ i = .int .i64 k ∧ ∀ j, j < k → (ss.getD j ByteArray.empty).size ≤ 2147483647) (fun i => n - (intOf i).toNat)
    case atStart => exact ⟨0, by omega, rfl, fun j hj => by omega⟩
    case round =>
      obtain ⟨k, hk, rfl, hall⟩ := hrel
      have HA := Hd.mk hall
      clear hall
      by_cases hlt : k < n
      · obtain ⟨x, rfl, hx, _⟩ := H.out.at_ k hlt
        have hki : (k : Int) < n := by omega
        have hsk := HSZ.out k hlt
        obtain ⟨u, hu⟩ : ∃ u, ss.getD k ByteArray.empty = u := ⟨_, rfl⟩
        have HU := Hd.mk hu
        rw [hu] at hx hsk
        clear hu
        by_cases hb : (2147483647 : Int) < u.size
        · go_wp2
          go_ret
          exact ⟨false, rfl, rfl, fun h => by cases h⟩
        · have HN : Hd (∀ j, j < k + 1 → (ss.getD j ByteArray.empty).size ≤ 2147483647) := ⟨fun j hj => by
            by_cases e : j = k
            · rw [e, HU.out]; omega
            · exact HA.out j (by omega)⟩
          go_wp2
          go_round
          case rel => exact ⟨k + 1, by omega, by go_num, HN.out⟩
          case measure => simp [intOf]; omega
      · obtain rfl : k = n := by omega
        go_wp2
        go_ret
        exact ⟨true, rfl, rfl, fun _ => ⟨by omega, HA.out⟩⟩
set_option maxRecDepth 100000 in
theorem scSign (m : Nat) (hm : m < 256) (w : World) : Calls Tryd.prog 10 #[.int .u8 m] w fun e w' => ∃ sg : Nat, e = .returned (.int .u8 sg) ∧ (sg = 59 ∨ sg = 47 ∨ sg = 64 ∨ sg = 124) ∧ Below w.heap.size w w' := by
  have hb : Below w.heap.size w (w.alloc (.cells #[.int .u8 59, .int .u8 47, .int .u8 64, .int .u8 124] 5)) := (Below.refl _ _).alloc (Nat.le_refl _) _
  have HB := Hd.mk hb
  clear hb
  rcases (by omega : m % 4 = 0 ∨ m % 4 = 1 ∨ m % 4 = 2 ∨ m % 4 = 3) with h | h | h | h
  · have h4 : (m : Int) % 4 = 0 := by omega
    go_enter Tryd.func10, Tryd.ntmps10
    go_wp2
    go_ret
    exact ⟨59, rfl, by omega, HB.out⟩
  · have h4 : (m : Int) % 4 = 1 := by omega
    go_enter Tryd.func10, Tryd.ntmps10
    go_wp2
    go_ret
    exact ⟨47, rfl, by omega, HB.out⟩
  · have h4 : (m : Int) % 4 = 2 := by omega
    go_enter Tryd.func10, Tryd.ntmps10
    go_wp2
    go_ret
    exact ⟨64, rfl, by omega, HB.out⟩
  · have h4 : (m : Int) % 4 = 3 := by omega
    go_enter Tryd.func10, Tryd.ntmps10
    go_wp2
    go_ret
    exact ⟨124, rfl, by omega, HB.out⟩
end Go.Proofs.YtfbdbbkodgijiaaDoor.Kb
