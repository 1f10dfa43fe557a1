/- Statements of a text: plain: what stands ahead of a statement; statements; what the specification's words are. -/
import Derived.Test.YtfbdbbkodgijiaaDoorScP
namespace Go.Proofs.YtfbdbbkodgijiaaDoor.Kb
open Go Go.RowKit
set_option linter.unusedVariables false
set_option linter.unusedSimpArgs false
/-- White space and comments ahead of a statement, and what is kept of them. -/
inductive Lead (com : Bool) : List Nat → List Nat → Prop
  | nil : Lead com [] []
  | ws (x : Nat) (l t : List Nat) : sp x = true → x < 128 → Lead com l t → Lead com (x :: l) t
  | cm (line l t : List Nat) : (∀ x ∈ line, x ≠ 10 ∧ x ≠ 13 ∧ x < 128) → Lead com l t → Lead com (45 :: 45 :: (line ++ 10 :: l)) ((if com then 45 :: 45 :: (line ++ [10]) else []) ++ t)
theorem Lead.split {com : Bool} {p t : List Nat} (h : Lead com p t) : ∃ ws p2, p = ws ++ p2 ∧ (∀ x ∈ ws, sp x = true ∧ x < 128) ∧ ((p2 = [] ∧ t = []) ∨ ∃ line l t', p2 = 45 :: 45 :: (line ++ 10 :: l) ∧ (∀ x ∈ line, x ≠ 10 ∧ x ≠ 13 ∧ x < 128) ∧ Lead com l t' ∧ t = (if com then 45 :: 45 :: (line ++ [10]) else []) ++ t') := by
  induction h with
  | nil => exact ⟨[], [], rfl, by simp, .inl ⟨rfl, rfl⟩⟩
  | ws x l t hx h7 _ ih =>
    obtain ⟨ws, p2, rfl, hw, hr⟩ := ih
    refine ⟨x :: ws, p2, rfl, ?_, hr⟩
    intro y hy
    rcases List.mem_cons.1 hy with rfl | h
    · exact ⟨hx, h7⟩
    · exact hw y h
  | cm line l t hl h _ => exact ⟨[], _, rfl, by simp, .inr ⟨line, l, t, rfl, hl, h, rfl⟩⟩
theorem Lead.asc {com : Bool} {p t : List Nat} (h : Lead com p t) : Asc7 p := by
  induction h with
  | nil => intro x hx; simp at hx
  | ws x l t _ h7 _ ih =>
    intro y hy
    rcases List.mem_cons.1 hy with rfl | h
    · exact h7
    · exact ih y h
  | cm line l t hl _ ih =>
    intro y hy
    simp only [List.mem_cons, List.mem_append] at hy
    rcases hy with rfl | rfl | h | rfl | h
    · omega
    · omega
    · exact (hl y h).2.2
    · omega
    · exact ih y h
theorem Lead.len {com : Bool} {p t : List Nat} (h : Lead com p t) : t.length ≤ p.length := by
  induction h with
  | nil => simp
  | ws x l t _ _ _ ih => simp; omega
  | cm line l t _ _ ih => cases com <;> simp <;> omega
theorem Lead.of_ws {com : Bool} : ∀ {ws : List Nat}, (∀ x ∈ ws, sp x = true ∧ x < 128) → Lead com ws []
  | [], _ => .nil
  | x :: ys, h => .ws x ys [] (h x (by simp)).1 (h x (by simp)).2 (Lead.of_ws fun y hy => h y (by simp [hy]))
/-- A statement (without its sign) and its text. -/
structure Stmt (sep : Nat) (com : Bool) (l t : List Nat) : Prop where
  out : ∃ p pt c b bt, l = p ++ c :: b ∧ Lead com p pt ∧ Body sep (c :: b) bt ∧ t = pt ++ bt ∧ sp c = false ∧ c ≠ 45 ∧ bt ≠ []
theorem Stmt.asc {sep : Nat} {com : Bool} {l t : List Nat} (h : Stmt sep com l t) : Asc7 l := by
  obtain ⟨p, pt, c, b, bt, rfl, hp, hb, _, _, _, _⟩ := h.out
  intro x hx
  rcases List.mem_append.1 hx with h | h
  · exact hp.asc x h
  · exact hb.asc x h
theorem Stmt.len {sep : Nat} {com : Bool} {l t : List Nat} (h : Stmt sep com l t) : t.length ≤ l.length := by
  obtain ⟨p, pt, c, b, bt, rfl, hp, hb, rfl, _, _, _⟩ := h.out
  have := hp.len; have := hb.len
  simp at *
  omega
theorem Stmt.ne {sep : Nat} {com : Bool} {l t : List Nat} (h : Stmt sep com l t) : t ≠ [] := by
  obtain ⟨p, pt, c, b, bt, rfl, hp, hb, rfl, _, _, hn⟩ := h.out
  intro e
  exact hn (List.append_eq_nil_iff.1 e).2
/-- What is left: nothing, or white space and a text without the sign. -/
structure Left (sep : Nat) (l : List Nat) : Prop where
  out : ∃ ws b, l = ws ++ b ∧ (∀ x ∈ ws, sp x = true ∧ x < 128) ∧ (∀ x ∈ b, x ≠ sep ∧ x ≠ 39 ∧ x ≠ 34 ∧ x < 128) ∧ (b ≠ [] → sp (b.getD 0 0) = false ∧ ¬ (b.getD 0 0 = 45 ∧ b.getD 1 0 = 45))
/-- What ScPlain's texts are made of. -/
def okc (sign x : Nat) : Prop := (x = 9 ∨ x = 10 ∨ (32 ≤ x ∧ x < 127)) ∧ x ≠ sign ∧ x ≠ 39 ∧ x ≠ 34 ∧ x ≠ 92
structure Plain (sign : Nat) (l : List Nat) : Prop where
  ok : ∀ x ∈ l, okc sign x
  apart : ∀ i, ¬ (l.getD i 0 = 45 ∧ l.getD (i + 1) 0 = 45)
theorem Plain.asc {sign : Nat} {l : List Nat} (h : Plain sign l) : Asc7 l := fun x hx => by have := (h.ok x hx).1; omega
/-- The bytes that may stand in a statement's text. -/
def okt (x : Nat) : Prop := x = 9 ∨ x = 10 ∨ (32 ≤ x ∧ x < 127)
theorem keep_of {l : List Nat} (h : ∀ x ∈ l, okt x) : keep l = l.filter fun x => !decide (x = 10) := by
  unfold keep
  apply List.filter_congr
  intro x hx
  have := h x hx
  unfold okt at this
  unfold nl
  congr 1
  rw [decide_eq_decide]
  omega
theorem stm_split (l : List Nat) : ∃ ws b, l = ws ++ b ∧ (∀ x ∈ ws, sp x = true) ∧ (b = [] ∨ ∃ c r, b = c :: r ∧ sp c = false) ∧ stm l = b.filter fun x => !decide (x = 10) := by
  induction l with
  | nil => exact ⟨[], [], rfl, by simp, .inl rfl, rfl⟩
  | cons x l ih =>
    by_cases h : sp x = true
    · obtain ⟨ws, b, rfl, hw, hb, hs⟩ := ih
      refine ⟨x :: ws, b, rfl, ?_, hb, ?_⟩
      · intro y hy
        rcases List.mem_cons.1 hy with rfl | h2
        · exact h
        · exact hw y h2
      · rw [← hs]; simp [stm, h]
    · exact ⟨[], x :: l, rfl, by simp, .inr ⟨x, l, rfl, by simpa using h⟩, by simp [stm, h]⟩
theorem stm_append_ws {ws b : List Nat} (h : ∀ x ∈ ws, sp x = true) : stm (ws ++ b) = stm b := by
  induction ws with
  | nil => rfl
  | cons x ws ih =>
    have hx := h x (by simp)
    have := ih fun y hy => h y (by simp [hy])
    simp only [stm] at this ⊢
    simp [hx, this]
theorem stm_head {c : Nat} {b : List Nat} (h : sp c = false) : stm (c :: b) = (c :: b).filter fun x => !decide (x = 10) := by simp [stm, h]
end Go.Proofs.YtfbdbbkodgijiaaDoor.Kb
