/- Statements of a text: plain: texts as lists of bytes, white space, what a statement's text is. -/
import Derived.Test.YtfbdbbkodgijiaaDoorDisP
namespace Go.Proofs.YtfbdbbkodgijiaaDoor.Kb
open Go Go.RowKit
set_option linter.unusedVariables false
set_option linter.unusedSimpArgs false
/-- A text of bytes. -/
def T (xs : List Nat) : ByteArray := ⟨(xs.map UInt8.ofNat).toArray⟩
/-- Bytes as numbers. -/
def nb (xs : List Nat) : List Int := xs.map fun n : Nat => (n : Int)
def Asc7 (xs : List Nat) : Prop := ∀ x ∈ xs, x < 128
theorem nb_len (xs : List Nat) : (nb xs).length = xs.length := by simp [nb]
theorem nb_append (xs ys : List Nat) : nb (xs ++ ys) = nb xs ++ nb ys := by simp [nb]
theorem nb_cons (x : Nat) (xs : List Nat) : nb (x :: xs) = (x : Int) :: nb xs := rfl
theorem T_size (xs : List Nat) : (T xs).size = xs.length := by simp [T, ByteArray.size]
theorem T_append (xs ys : List Nat) : T xs ++ T ys = T (xs ++ ys) := by
  apply ByteArray.ext
  simp [T, ByteArray.data_append]
theorem T_nums (xs : List Nat) : strOfNums (nb xs) = T xs := by
  unfold strOfNums T nb
  congr 2
  rw [List.map_map]
  rfl
theorem T_at (xs : List Nat) (h : ∀ x ∈ xs, x < 256) (k : Nat) : at_ (T xs) k = xs.getD k 0 := by
  unfold at_ T
  simp only [List.getD_eq_getElem?_getD, List.getElem?_map]
  by_cases hk : k < xs.length
  · rw [List.getElem?_eq_getElem hk]
    have := h _ (List.getElem_mem hk)
    simp [UInt8.toNat_ofNat']
    omega
  · rw [List.getElem?_eq_none (by omega)]
    simp
theorem Asc7.lt {xs : List Nat} (h : Asc7 xs) : ∀ x ∈ xs, x < 256 := fun x hx => by have := h x hx; omega
theorem T_inj {xs ys : List Nat} (hx : Asc7 xs) (hy : Asc7 ys) (h : T xs = T ys) : xs = ys := by
  have hl : xs.length = ys.length := by have := congrArg ByteArray.size h; rwa [T_size, T_size] at this
  apply List.ext_getElem hl
  intro i h1 h2
  have : at_ (T xs) i = at_ (T ys) i := by rw [h]
  rw [T_at xs hx.lt, T_at ys hy.lt, List.getD_eq_getElem?_getD, List.getD_eq_getElem?_getD, List.getElem?_eq_getElem h1, List.getElem?_eq_getElem h2] at this
  simpa using this
/-- White space, ends of lines. -/
def sp (x : Nat) : Bool := decide ((9 ≤ x ∧ x ≤ 13) ∨ x = 32)
def nl (x : Nat) : Bool := decide (x = 10 ∨ x = 13)
def keep (l : List Nat) : List Nat := l.filter fun x => !nl x
/-- ScStatement. -/
def stm (l : List Nat) : List Nat := (l.dropWhile sp).filter fun x => !decide (x = 10)
/-- What a sign, or nothing, ends. -/
inductive Body (sep : Nat) : List Nat → List Nat → Prop
  | nil : Body sep [] []
  | one (x : Nat) (l t : List Nat) : x ≠ sep → x ≠ 39 → x ≠ 34 → x < 128 → Body sep l t → Body sep (x :: l) ((if nl x then [] else [x]) ++ t)
  | quo (m : Nat) (q : List Nat) (y : Nat) (l t : List Nat) : (m = 39 ∨ m = 34) → m ≠ sep → (∀ x ∈ q, x ≠ m ∧ x < 128) → y ≠ m → y < 128 → Body sep (y :: l) t → Body sep (m :: (q ++ m :: y :: l)) (m :: (keep q ++ m :: t))
theorem keep_append (a b : List Nat) : keep (a ++ b) = keep a ++ keep b := by simp [keep]
theorem keep_cons (x : Nat) (l : List Nat) : keep (x :: l) = (if nl x then [] else [x]) ++ keep l := by
  unfold keep
  by_cases h : nl x <;> simp [h]
/-- A text of plain characters ahead of more. -/
theorem Body.plain {sep : Nat} : ∀ {l b t : List Nat}, (∀ x ∈ l, x ≠ sep ∧ x ≠ 39 ∧ x ≠ 34 ∧ x < 128) → Body sep b t → Body sep (l ++ b) (keep l ++ t)
  | [], _, _, _, hb => hb
  | x :: l, b, t, h, hb => by
    have hx := h x (by simp)
    rw [keep_cons, List.append_assoc]
    exact .one x (l ++ b) (keep l ++ t) hx.1 hx.2.1 hx.2.2.1 hx.2.2.2 (Body.plain (fun y hy => h y (by simp [hy])) hb)
theorem Body.of {sep : Nat} {l : List Nat} (h : ∀ x ∈ l, x ≠ sep ∧ x ≠ 39 ∧ x ≠ 34 ∧ x < 128) : Body sep l (keep l) := by
  have := Body.plain h (.nil (sep := sep))
  simpa using this
theorem Body.asc {sep : Nat} {l t : List Nat} (h : Body sep l t) : Asc7 l := by
  induction h with
  | nil => intro x hx; simp at hx
  | one x l t _ _ _ hx _ ih =>
    intro y hy
    rcases List.mem_cons.1 hy with rfl | h
    · exact hx
    · exact ih y h
  | quo m q y l t hm _ hq _ _ _ ih =>
    intro z hz
    simp only [List.mem_cons, List.mem_append] at hz
    rcases hz with rfl | h | rfl | rfl | h
    · omega
    · exact (hq z h).2
    · omega
    · exact ih z (by simp)
    · exact ih z (by simp [h])
/-- The text of a statement is not longer than it. -/
theorem Body.len {sep : Nat} {l t : List Nat} (h : Body sep l t) : t.length ≤ l.length := by
  induction h with
  | nil => simp
  | one x l t _ _ _ _ _ ih => split <;> simp <;> omega
  | quo m q y l t _ _ _ _ _ _ ih =>
    have : (keep q).length ≤ q.length := List.length_filter_le _ _
    simp at ih ⊢
    omega
end Go.Proofs.YtfbdbbkodgijiaaDoor.Kb
