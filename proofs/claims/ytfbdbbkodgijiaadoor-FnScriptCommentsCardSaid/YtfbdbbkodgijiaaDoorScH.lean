/- FnScanStep: what the law prepares. -/
import Derived.Test.YtfbdbbkodgijiaaDoorScG
namespace Go.Proofs.YtfbdbbkodgijiaaDoor.Kb
open Go Go.RowKit
set_option linter.unusedVariables false
set_option linter.unusedSimpArgs false
set_option maxHeartbeats 4000000
/-- A statement of the law's. -/
structure Prep (sep : Nat) (l : List Nat) : Prop where
  ok : ∀ x ∈ l, okc sep x
  out : ∃ ws c b, l = ws ++ c :: b ∧ (∀ x ∈ ws, sp x = true) ∧ sp c = false ∧ c ≠ 45
theorem Prep.asc {sep : Nat} {l : List Nat} (h : Prep sep l) : Asc7 l := fun x hx => by have := (h.ok x hx).1; omega
theorem Prep.stm {sep : Nat} {l : List Nat} (h : Prep sep l) (com : Bool) : Stmt sep com l (stm l) := by
  obtain ⟨ws, c, b, rfl, hw, hc, h45⟩ := h.out
  have hok : ∀ x ∈ c :: b, okt x := fun x hx => (h.ok x (List.mem_append.2 (.inr hx))).1
  refine ⟨ws, [], c, b, keep (c :: b), rfl, Lead.of_ws (fun x hx => ⟨hw x hx, sp_lt (hw x hx)⟩), Body.of (fun x hx => ?_), ?_, hc, h45, ?_⟩
  · have := h.ok x (List.mem_append.2 (.inr hx))
    unfold okc at this
    omega
  · rw [stm_append_ws hw, stm_head hc, keep_of hok]; rfl
  · have : c ≠ 10 := by rintro rfl; simp [sp] at hc
    have h13 : c ≠ 13 := by rintro rfl; simp [sp] at hc
    rw [keep_cons, show nl c = false by unfold nl; simp; omega]
    simp
theorem Prep.left {sep : Nat} {l : List Nat} (h : Prep sep l) : Left sep l := by
  obtain ⟨ws, c, b, rfl, hw, hc, h45⟩ := h.out
  refine ⟨ws, c :: b, rfl, fun x hx => ⟨hw x hx, sp_lt (hw x hx)⟩, fun x hx => ?_, fun _ => ⟨by simpa using hc, by simp; intro h; exact absurd h h45⟩⟩
  have := h.ok x (List.mem_append.2 (.inr hx))
  unfold okc at this
  omega
theorem Prep.ne {sep : Nat} {l : List Nat} (h : Prep sep l) : l ≠ [] := by
  obtain ⟨ws, c, b, rfl, _⟩ := h.out
  simp
theorem prep_x {sep : Nat} {l : List Nat} (h : Plain sep l) (hs : sep ≠ 120) : Prep sep (120 :: l) :=
  ⟨fun x hx => by
    rcases List.mem_cons.1 hx with rfl | h1
    · exact ⟨by omega, by omega, by omega, by omega, by omega⟩
    · exact h.ok x h1, [], 120, l, rfl, by simp, by decide, by decide⟩
theorem prep_id {sep : Nat} {l : List Nat} (h : Plain sep l) (h0 : 0 < (stm l).length) (h45 : (stm l)[0] ≠ 45) : Prep sep l := by
  obtain ⟨ws, b, rfl, hw, hb, hs⟩ := stm_split l
  rcases hb with rfl | ⟨c, r, rfl, hc⟩
  · rw [hs] at h0; simp at h0
  · refine ⟨h.ok, ws, c, r, rfl, hw, hc, ?_⟩
    have h10 : c ≠ 10 := by rintro rfl; simp [sp] at hc
    have e : stm (ws ++ c :: r) = c :: r.filter fun x => !decide (x = 10) := by rw [hs]; simp [h10]
    simp only [e, List.getElem_cons_zero] at h45
    exact h45
theorem Prep.stm_len {sep : Nat} {l : List Nat} (h : Prep sep l) : 0 < (Kb.stm l).length := List.length_pos_iff.2 (h.stm false).ne
/-- Any bytes. -/
def bs (u : ByteArray) : List Nat := u.data.toList.map (·.toNat)
theorem bs_T (u : ByteArray) : T (bs u) = u := by
  apply ByteArray.ext
  unfold T bs
  rw [List.map_map]
  have : (u.data.toList.map (UInt8.ofNat ∘ fun x => x.toNat)) = u.data.toList := by
    conv => rhs; rw [← List.map_id u.data.toList]
    apply List.map_congr_left
    intro x _
    exact UInt8.ofNat_toNat
  rw [this]
theorem bs_len (u : ByteArray) : (bs u).length = u.size := by
  unfold bs
  rw [List.length_map, Array.length_toList]
  rfl
theorem bs_lt (u : ByteArray) : ∀ x ∈ bs u, x < 256 := by
  intro x hx
  obtain ⟨y, _, rfl⟩ := List.mem_map.1 hx
  exact UInt8.toNat_lt _
/-- []byte(s). -/
theorem bytes_T (w : World) (xs : List Nat) (h : ∀ x ∈ xs, x < 256) (hl : xs.length ≤ 1000000) : ∃ c w', (convert 9 24 (.string (T xs))).run Tryd.prog w = .ok (.slice (some ⟨w.heap.size, 0, none⟩) xs.length c) w' ∧ Rd w' [] (some ⟨w.heap.size, 0, none⟩) xs.length (nb xs) ∧ Below w.heap.size w w' := by
  obtain ⟨c, tl, w1, hcv, hB, hb⟩ := bytesF (P := Tryd.prog) (src := 9) (dst := 24) w (T xs) Tryd.underlying9 Tryd.underlying24 Tryd.underlying5
  rw [T_size] at hcv hB
  refine ⟨c, w1, hcv, ?_, hb⟩
  have := hB.rd (nb xs) (by rw [nb_len]; omega) (fun j hj => by
    have hj' : j < xs.length := by simpa [nb] using hj
    simp only [List.getElem?_toArray]
    rw [List.getElem?_append_left (by rw [mx_len]; exact hj'), mx_get _ _ _ _ _ hj', if_neg (by omega), T_at xs h, List.getD_eq_getElem?_getD, List.getElem?_eq_getElem hj']
    simp [nb])
  rwa [nb_len] at this
end Go.Proofs.YtfbdbbkodgijiaaDoor.Kb
