/- The plain law of FnTag: a tag's name, type and options are the parts of its text between commas, and an option is among options if it is one of their parts. For the printed functions of the law. -/
import Derived.Test.YtlbbdnngjkjafaaPFnTagx2
namespace Go.Proofs.Ytlbbdnngjkjafaa.Pure
open Go.RowKit Go.Proofs.Ytlbbdnngjkjafaa.PFnTag Go.Proofs.YtlbbdnngjkjafaaW.PrintWords Go.Proofs.YtlbbdnngjkjafaaW.PrintLast
set_option linter.unusedVariables false
set_option linter.unusedSimpArgs false
/-- Bytes as a text. -/
def mkB (l : List UInt8) : ByteArray := ⟨l.toArray⟩
theorem mkB_size (l : List UInt8) : (mkB l).size = l.length := by simp [mkB, ByteArray.size]
theorem mkB_toList (l : List UInt8) : (mkB l).toList = l := by
  rw [ByteArray.toList_eq]
  simp [mkB]
theorem mkB_extract (l : List UInt8) (a b : Nat) : (mkB l).extract a b = mkB ((l.drop a).take (b - a)) := by
  apply ByteArray.ext
  simp [mkB]
theorem mkB_bt (l : List UInt8) (i : Nat) : bt (mkB l) (i : Int) = ((l[i]?.getD 0).toNat : Int) := by
  unfold bt
  split
  · rename_i h
    simp [mkB_size] at h
    rw [List.getElem?_eq_getElem h]; simp [mkB]; rfl
  · rename_i h
    simp [mkB_size] at h
    rw [List.getElem?_eq_none h]; rfl
/-- A text at its first comma. -/
def cutL : List UInt8 → Option (List UInt8 × List UInt8)
  | [] => none
  | c :: cs => if c = 44 then some ([], cs) else (cutL cs).map fun p => (c :: p.1, p.2)
theorem cutL_mid (mid cs : List UInt8) (h : ∀ c ∈ mid, c ≠ 44) : cutL (mid ++ 44 :: cs) = some (mid, cs) := by
  induction mid with
  | nil => simp [cutL]
  | cons c mid ih =>
    have h1 : c ≠ 44 := h c List.mem_cons_self
    simp [cutL, h1, ih (fun x hx => h x (List.mem_cons_of_mem _ hx))]
theorem cutL_none (mid : List UInt8) (h : ∀ c ∈ mid, c ≠ 44) : cutL mid = none := by
  induction mid with
  | nil => rfl
  | cons c mid ih =>
    have h1 : c ≠ 44 := h c List.mem_cons_self
    simp [cutL, h1, ih (fun x hx => h x (List.mem_cons_of_mem _ hx))]
theorem cutL_eq (l a r : List UInt8) (h : cutL l = some (a, r)) : l = a ++ 44 :: r ∧ ∀ c ∈ a, c ≠ 44 := by
  induction l generalizing a with
  | nil => simp [cutL] at h
  | cons c cs ih =>
    by_cases hc : c = 44
    · simp [cutL, hc] at h
      obtain ⟨rfl, rfl⟩ := h
      simp [hc]
    · simp [cutL, hc] at h
      obtain ⟨x, h1, rfl⟩ := h
      obtain ⟨h2, h3⟩ := ih _ h1
      rw [h2]
      simp [hc]
      exact h3
theorem cutL_no (l : List UInt8) (h : cutL l = none) : ∀ c ∈ l, c ≠ 44 := by
  induction l with
  | nil => simp
  | cons c cs ih =>
    by_cases hc : c = 44
    · simp [cutL, hc] at h
    · simp [cutL, hc] at h
      intro x hx
      rcases List.mem_cons.1 hx with rfl | hx
      · exact hc
      · exact ih h x hx
theorem comma : (⟨#[44]⟩ : ByteArray) = mkB [44] := rfl
theorem index_is (l : List UInt8) : ∀ (pre : List UInt8) (k : Nat), (pre ++ l).length ≤ 100 → l.length + 1 ≤ k →
    driver_zzIndex.l0 k (mkB (pre ++ l)) (mkB [44]) pre.length = some (match cutL l with | none => -1 | some (a, _) => ((pre.length + a.length : Nat) : Int)) := by
  induction l with
  | nil =>
    intro pre k hn hk
    obtain ⟨k, rfl⟩ : ∃ m, k = m + 1 := ⟨k - 1, by simp at hk; omega⟩
    simp at hn
    simp only [driver_zzIndex.l0, mkB_size, List.append_nil, List.length_cons, List.length_nil]
    have e : wrap64 ((pre.length : Int) + ((0 + 1 : Nat) : Int)) = (pre.length : Int) + 1 := by unfold wrap64; omega
    rw [e, if_neg (by omega)]
    rfl
  | cons c cs ih =>
    intro pre k hn hk
    obtain ⟨k, rfl⟩ : ∃ m, k = m + 1 := ⟨k - 1, by simp at hk; omega⟩
    simp at hn hk
    simp only [driver_zzIndex.l0, mkB_size, List.length_append, List.length_cons, List.length_nil]
    have e : wrap64 ((pre.length : Int) + ((0 + 1 : Nat) : Int)) = (pre.length : Int) + 1 := by unfold wrap64; omega
    rw [e, if_pos (by omega), if_pos (by omega), if_pos (by omega)]
    have e2 : ((mkB (pre ++ c :: cs)).extract ((pre.length : Int)).toNat ((pre.length : Int) + 1).toNat).toList = [c] := by
      rw [mkB_extract, mkB_toList]
      have e3 : ((pre.length : Int) + 1).toNat - (pre.length : Int).toNat = 1 := by omega
      rw [e3]
      simp
    rw [e2, mkB_toList]
    by_cases hc : c = 44
    · subst hc
      rw [if_pos rfl]
      simp [cutL]
    · rw [if_neg (by simpa using hc)]
      have e5 : wrap64 ((pre.length : Int) + 1) = ((pre ++ [c]).length : Int) := by unfold wrap64; simp; omega
      rw [e5]
      have := ih (pre ++ [c]) k (by simp; omega) (by omega)
      simp only [List.append_assoc, List.singleton_append] at this
      rw [this]
      simp only [cutL, if_neg hc]
      cases cutL cs with
      | none => rfl
      | some p =>
        simp only [Option.map_some, List.length_append, List.length_cons, List.length_nil]
        have e9 : (pre.length + (0 + 1) + p.1.length : Nat) = pre.length + (p.1.length + 1) := by omega
        rw [e9]
theorem cut_is (l : List UInt8) (k : Nat) (hn : l.length ≤ 100) (hk : l.length + 1 ≤ k) :
    driver_zzCut.f k (mkB l) (mkB [44]) = some (match cutL l with | none => (mkB l, mkB [], false) | some (a, r) => (mkB a, mkB r, true)) := by
  have h := index_is l [] k (by simpa using hn) hk
  simp only [List.nil_append, List.length_nil] at h
  unfold driver_zzCut.f driver_zzIndex.f
  have h0 : ((0 : Nat) : Int) = 0 := rfl
  rw [h0] at h
  rw [h]
  simp only [Option.bind_some]
  cases e : cutL l with
  | none => simp; rfl
  | some p =>
    obtain ⟨a, r⟩ := p
    obtain ⟨el, _⟩ := cutL_eq _ _ _ e
    have hl : l.length = a.length + 1 + r.length := by rw [el]; simp; omega
    simp only [mkB_size, List.length_cons, List.length_nil]
    have e1 : wrap64 (((0 + a.length : Nat) : Int) + ((0 + 1 : Nat) : Int)) = (a.length : Int) + 1 := by unfold wrap64; omega
    rw [e1, if_pos (by omega), if_pos (by omega), if_pos (by omega), if_pos (by omega), if_pos (by omega)]
    rw [mkB_extract, mkB_extract]
    have e2 : ((a.length : Int) + 1).toNat = a.length + 1 := by omega
    have e3 : (((0 + a.length : Nat) : Int)).toNat = a.length := by omega
    have e4 : l.length - (a.length + 1) = r.length := by omega
    have e5 : (l.length : Int).toNat = l.length := by omega
    rw [e2, e3, e4, el]
    simp
/-- The parts of a text between commas: after so many commas all that is left. -/
def partsM : Nat → List UInt8 → List (List UInt8)
  | 0, l => [l]
  | m + 1, l => match cutL l with | none => [l] | some (a, r) => a :: partsM m r
theorem parts_len (m : Nat) : ∀ l, (partsM m l).length ≤ m + 1 := by
  induction m with
  | zero => intro l; simp [partsM]
  | succ m ih =>
    intro l
    unfold partsM
    split
    · simp
    · rename_i a r h; simp; exact ih r
theorem scparts_is (l : List UInt8) : ∀ (pre mid : List UInt8) (out : List ByteArray) (m k : Nat), (∀ c ∈ mid, c ≠ 44) → (pre ++ (mid ++ l)).length ≤ 100 → out.length + m ≤ 200 → 2 * l.length + 2 ≤ k →
    spec_ScParts.l0 k (mkB (pre ++ (mid ++ l))) 44 ((out.length + m + 1 : Nat) : Int) out pre.length (pre ++ mid).length = some (out ++ (partsM m (mid ++ l)).map mkB) := by
  induction l with
  | nil =>
    intro pre mid out m k hm hn hb hk
    obtain ⟨k, rfl⟩ : ∃ q, k = q + 2 := ⟨k - 2, by omega⟩
    simp only [List.append_nil] at hn ⊢
    have hl : (pre ++ mid).length = pre.length + mid.length := by simp
    simp only [spec_ScParts.l0, mkB_size]
    rw [if_neg (by omega)]
    simp only [spec_ScParts.j1, mkB_size]
    rw [if_neg (by simp), if_pos (by omega), if_pos (by omega), if_pos (by omega), mkB_extract]
    have e1 : partsM m mid = [mid] := by
      cases m with
      | zero => rfl
      | succ m => simp only [partsM, cutL_none mid hm]
    rw [e1]
    have e2 : (pre.length : Int).toNat = pre.length := by omega
    rw [e2, hl]
    simp
  | cons c cs ih =>
    intro pre mid out m k hm hn hb hk
    obtain ⟨k, rfl⟩ : ∃ q, k = q + 2 := ⟨k - 2, by omega⟩
    simp only [List.length_cons] at hk
    have hn2 := hn
    simp only [List.length_append, List.length_cons] at hn2
    have hl : (pre ++ mid).length = pre.length + mid.length := by simp
    have e0 : wrap64 (((out.length + m + 1 : Nat) : Int) - 1) = ((out.length + m : Nat) : Int) := by unfold wrap64; omega
    have e1 : wrap64 (((pre ++ mid).length : Int) + 1) = ((pre ++ mid).length : Int) + 1 := by unfold wrap64; omega
    simp only [spec_ScParts.l0, mkB_size]
    rw [if_pos (by simp; omega), e0]
    have ebt : bt (mkB (pre ++ (mid ++ c :: cs))) ((pre ++ mid).length : Int) = (c.toNat : Int) := by
      rw [mkB_bt, ← List.append_assoc, List.getElem?_append_right (Nat.le_refl _)]
      simp
    cases m with
    | zero =>
      have e5 : decide ((out.length : Int) < ((out.length + 0 : Nat) : Int)) = false := by simp
      rw [e5]
      simp only [spec_ScParts.j1, mkB_size]
      rw [if_neg (by simp), if_pos (by omega), if_pos (by simp; omega), if_pos (by omega), mkB_extract]
      have e2 : (pre.length : Int).toNat = pre.length := by omega
      rw [e2]
      have e3 : (pre ++ (mid ++ c :: cs)).length - pre.length = (mid ++ c :: cs).length := by simp
      rw [e3, List.drop_left, List.take_length]
      simp [partsM]
    | succ m =>
      have e5 : decide ((out.length : Int) < ((out.length + (m + 1) : Nat) : Int)) = true := by simp; omega
      rw [e5]
      simp only [spec_ScParts.j1, mkB_size]
      rw [if_pos trivial, if_pos (by omega), if_pos (by simp; omega), ebt, e1]
      by_cases hc : c = 44
      · subst hc
        rw [if_pos (by rfl), if_pos (by omega), if_pos (by omega), if_pos (by simp; omega), if_pos (by omega), mkB_extract]
        have e2 : (pre.length : Int).toNat = pre.length := by omega
        have e3 : ((pre ++ mid).length : Int).toNat - pre.length = mid.length := by omega
        rw [e2, e3]
        have e4 : ((pre ++ (mid ++ 44 :: cs)).drop pre.length).take mid.length = mid := by simp
        rw [e4]
        have h := ih (pre ++ mid ++ [44]) [] (out ++ [mkB mid]) m k (by simp) (by simp; omega) (by simp; omega) (by omega)
        have e6 : (pre ++ mid ++ [44] ++ ([] ++ cs)) = pre ++ (mid ++ 44 :: cs) := by simp
        have e7 : (out ++ [mkB mid]).length + m + 1 = out.length + (m + 1) + 1 := by simp; omega
        have e8 : ((pre ++ mid ++ [44]).length : Int) = ((pre ++ mid).length : Int) + 1 := by simp; omega
        rw [e6, e7, List.append_nil, e8] at h
        rw [h]
        simp only [partsM, cutL_mid mid cs hm, List.nil_append, List.map_cons, List.append_assoc, List.singleton_append]
      · have hc' : ¬ (c.toNat : Int) = 44 := by
          intro e
          apply hc
          apply UInt8.toNat_inj.1
          have : c.toNat = 44 := by omega
          rw [this]; rfl
        rw [if_neg hc']
        have h := ih pre (mid ++ [c]) out (m + 1) k (by intro x hx; rcases List.mem_append.1 hx with hx | hx; exact hm x hx; simp at hx; exact hx ▸ hc) (by simp; omega) hb (by omega)
        have e6 : (pre ++ (mid ++ [c] ++ cs)) = pre ++ (mid ++ c :: cs) := by simp
        have e7 : mid ++ [c] ++ cs = mid ++ c :: cs := by simp
        have e8 : ((pre ++ (mid ++ [c])).length : Int) = ((pre ++ mid).length : Int) + 1 := by simp; omega
        rw [e6, e7, e8] at h
        exact h
theorem scparts_f (l : List UInt8) (m k : Nat) (hn : l.length ≤ 100) (hb : m ≤ 200) (hk : 2 * l.length + 2 ≤ k) : spec_ScParts.f k (mkB l) 44 ((m + 1 : Nat) : Int) = some ((partsM m l).map mkB) := by
  have h := scparts_is l [] [] [] m k (by simp) (by simpa using hn) (by simpa using hb) hk
  simp only [List.nil_append, List.length_nil, Nat.zero_add] at h
  unfold spec_ScParts.f
  exact h
/-- A part that is not empty is among the options. -/
theorem has_part (m : Nat) : ∀ (l p : List UInt8) (k : Nat), l.count 44 ≤ m → l.length ≤ 100 → p ∈ partsM m l → p ≠ [] → l.length + 2 ≤ k → driver_sqlTagOptions_Contains.l0 k (mkB p) (mkB l) = some true := by
  have alone : ∀ (l : List UInt8) (k : Nat), cutL l = none → l.length ≤ 100 → l ≠ [] → l.length + 2 ≤ k → driver_sqlTagOptions_Contains.l0 k (mkB l) (mkB l) = some true := by
    intro l k hc hn hne hk
    obtain ⟨k, rfl⟩ : ∃ q, k = q + 1 := ⟨k - 1, by omega⟩
    simp only [driver_sqlTagOptions_Contains.l0]
    rw [mkB_toList, if_neg hne, comma, cut_is l k hn (by omega), hc]
    simp only [Option.bind_some, mkB_toList, if_true]
  induction m with
  | zero =>
    intro l p k hc hn hp hne hk
    simp [partsM] at hp
    subst hp
    refine alone p k (cutL_none p (fun c hc2 e => ?_)) hn hne hk
    subst e
    have := List.count_pos_iff.2 hc2
    omega
  | succ m ih =>
    intro l p k hc hn hp hne hk
    unfold partsM at hp
    cases e : cutL l with
    | none =>
      rw [e] at hp
      simp at hp
      subst hp
      exact alone p k e hn hne hk
    | some q =>
      obtain ⟨a, r⟩ := q
      rw [e] at hp
      obtain ⟨el, ha⟩ := cutL_eq _ _ _ e
      obtain ⟨k, rfl⟩ : ∃ q, k = q + 1 := ⟨k - 1, by omega⟩
      have hl : l ≠ [] := by rw [el]; simp
      have hlen : l.length = a.length + 1 + r.length := by rw [el]; simp; omega
      simp only [driver_sqlTagOptions_Contains.l0]
      rw [mkB_toList, if_neg hl, comma, cut_is l k hn (by omega), e]
      simp only [Option.bind_some, mkB_toList]
      by_cases hap : a = p
      · rw [if_pos hap]
      · rw [if_neg hap]
        have hpr : p ∈ partsM m r := by
          rcases List.mem_cons.1 hp with h | h
          · exact absurd h.symm hap
          · exact h
        refine ih r p k ?_ (by omega) hpr hne (by omega)
        rw [el] at hc
        simp [List.count_append] at hc
        omega
def noOpt : List UInt8 := [110, 111, 32, 115, 117, 99, 104, 32, 111, 112, 116, 105, 111, 110]
/-- A text with blanks is not among options without blanks. -/
theorem has_not : ∀ (n : Nat) (l : List UInt8) (k : Nat), l.length ≤ n → l.length ≤ 100 → (∀ c ∈ l, c ≠ 32) → l.length + 3 ≤ k → driver_sqlTagOptions_Contains.l0 k (mkB noOpt) (mkB l) = some false := by
  have no : ∀ l : List UInt8, (∀ c ∈ l, c ≠ 32) → l ≠ noOpt := by
    intro l h e
    exact h 32 (by rw [e]; decide) rfl
  have empty : ∀ k, driver_sqlTagOptions_Contains.l0 (k + 1) (mkB noOpt) (mkB []) = some false := by
    intro k
    simp only [driver_sqlTagOptions_Contains.l0]
    rw [mkB_toList, if_pos rfl]
  intro n
  induction n with
  | zero =>
    intro l k hz hn hc hk
    have : l = [] := List.eq_nil_of_length_eq_zero (by omega)
    subst this
    obtain ⟨k, rfl⟩ : ∃ q, k = q + 1 := ⟨k - 1, by omega⟩
    exact empty k
  | succ n ih =>
    intro l k hz hn hc hk
    obtain ⟨k, rfl⟩ : ∃ q, k = q + 1 := ⟨k - 1, by omega⟩
    by_cases hl : l = []
    · subst hl; exact empty k
    simp only [driver_sqlTagOptions_Contains.l0]
    rw [mkB_toList, if_neg hl, comma, cut_is l k hn (by omega)]
    cases e : cutL l with
    | none =>
      simp only [Option.bind_some, mkB_toList]
      rw [if_neg (no l hc)]
      obtain ⟨k, rfl⟩ : ∃ q, k = q + 1 := ⟨k - 1, by omega⟩
      exact empty k
    | some q =>
      obtain ⟨a, r⟩ := q
      obtain ⟨el, ha⟩ := cutL_eq _ _ _ e
      have hlen : l.length = a.length + 1 + r.length := by rw [el]; simp; omega
      simp only [Option.bind_some, mkB_toList]
      rw [if_neg (no a (fun c hx => hc c (by rw [el]; simp [hx])))]
      exact ih r k (by omega) (by omega) (fun c hx => hc c (by rw [el]; simp [hx])) (by omega)
theorem ab_b (k : Nat) (hk : 20 ≤ k) : impl_TagHas.f k (mkB [97, 44, 98]) (mkB [98]) = some true := by
  have h := has_part 5 [97, 44, 98] [98] k (by decide) (by decide) (by decide) (by simp) (by simp; omega)
  unfold impl_TagHas.f driver_ZzTagHas.f driver_sqlTagOptions_Contains.f
  rw [mkB_size, if_neg (by simp), h]
  rfl
theorem has_f (o p : List UInt8) (k : Nat) (hn : o.length ≤ 80) (hp : p ∈ partsM 99 o) (hne : p ≠ []) (hk : 100 ≤ k) : impl_TagHas.f k (mkB o) (mkB p) = some true := by
  have ho : o ≠ [] := by
    rintro rfl
    simp [partsM, cutL] at hp
    exact hne hp
  have hpos : 0 < o.length := List.length_pos_iff.2 ho
  have h := has_part 99 o p k (by have := List.count_le_length (a := (44 : UInt8)) (l := o); omega) (by omega) hp hne (by omega)
  unfold impl_TagHas.f driver_ZzTagHas.f driver_sqlTagOptions_Contains.f
  rw [mkB_size, if_neg (by omega), h]
  rfl
theorem has_no (o : List UInt8) (k : Nat) (hn : o.length ≤ 80) (hc : ∀ c ∈ o, c ≠ 32) (hk : 100 ≤ k) : impl_TagHas.f k (mkB o) (mkB noOpt) = some false := by
  have h := has_not 100 o k (by omega) (by omega) hc (by omega)
  unfold impl_TagHas.f driver_ZzTagHas.f driver_sqlTagOptions_Contains.f
  by_cases ho : o.length = 0
  · rw [mkB_size, if_pos (by omega)]
    rfl
  · rw [mkB_size, if_neg (by omega), h]
    rfl
/-- Name, type and options, by the parts. -/
def name3 (l : List UInt8) : List UInt8 × List UInt8 × List UInt8 :=
  match cutL l with
  | none => (l, [], [])
  | some (a, r) => match cutL r with
    | none => (a, r, [])
    | some (b, o) => (a, b, o)
theorem tagOf_is (l : List UInt8) (k : Nat) (hn : l.length ≤ 100) (hk : l.length + 1 ≤ k) : impl_TagOf.f k (mkB l) = some (mkB (name3 l).1, mkB (name3 l).2.1, mkB (name3 l).2.2) := by
  unfold impl_TagOf.f driver_ZzTag.f driver_parseSQLTag.f
  rw [comma, cut_is l k hn hk]
  unfold name3
  cases e : cutL l with
  | none =>
    simp only [Option.bind_some]
    rw [cut_is [] k (by simp) (by simp; omega)]
    rfl
  | some q =>
    obtain ⟨a, r⟩ := q
    obtain ⟨el, ha⟩ := cutL_eq _ _ _ e
    have hlen : l.length = a.length + 1 + r.length := by rw [el]; simp; omega
    simp only [Option.bind_some]
    rw [cut_is r k (by omega) (by omega)]
    cases e2 : cutL r with
    | none => rfl
    | some q => rfl
theorem opts_sub (l : List UInt8) : (name3 l).2.2.length ≤ l.length ∧ ∀ c ∈ (name3 l).2.2, c ∈ l := by
  unfold name3
  cases e : cutL l with
  | none => simp
  | some q =>
    obtain ⟨a, r⟩ := q
    obtain ⟨el, ha⟩ := cutL_eq _ _ _ e
    simp only
    cases e2 : cutL r with
    | none => simp
    | some q =>
      obtain ⟨b, o⟩ := q
      obtain ⟨er, hb⟩ := cutL_eq _ _ _ e2
      simp only
      rw [el, er]
      refine ⟨by simp; omega, fun c hc => by simp [hc]⟩
theorem mk_nil : (⟨#[]⟩ : ByteArray) = mkB [] := rfl
theorem three (l : List UInt8) : ∃ t : List ByteArray, (partsM 2 l).map mkB ++ [mkB [], mkB []] = mkB (name3 l).1 :: mkB (name3 l).2.1 :: mkB (name3 l).2.2 :: t := by
  unfold partsM name3
  cases e : cutL l with
  | none => exact ⟨[], rfl⟩
  | some q =>
    obtain ⟨a, r⟩ := q
    simp only [partsM]
    cases e2 : cutL r with
    | none => exact ⟨[mkB []], rfl⟩
    | some q => exact ⟨[mkB [], mkB []], rfl⟩
theorem parts_loop (o : List UInt8) (hn : o.length ≤ 80) (hc : ∀ c ∈ o, c ≠ 32) : ∀ (d i k : Nat), (partsM 99 o).length - i = d → i ≤ (partsM 99 o).length → d + 101 ≤ k →
    laws_FnTag.l1 k (mkB o) ((partsM 99 o).map mkB) ((partsM 99 o).length : Int) i = some true := by
  have hlen := parts_len 99 o
  intro d
  induction d with
  | zero =>
    intro i k hd hi hk
    obtain ⟨k, rfl⟩ : ∃ q, k = q + 1 := ⟨k - 1, by omega⟩
    simp only [laws_FnTag.l1]
    rw [if_neg (by omega)]
    have e1 : (⟨#[110, 111, 32, 115, 117, 99, 104, 32, 111, 112, 116, 105, 111, 110]⟩ : ByteArray) = mkB noOpt := rfl
    have e2 : (⟨#[97, 44, 98]⟩ : ByteArray) = mkB [97, 44, 98] := rfl
    have e3 : (⟨#[98]⟩ : ByteArray) = mkB [98] := rfl
    rw [e1, e2, e3, has_no o k hn hc (by omega), ab_b k (by omega)]
    rfl
  | succ d ih =>
    intro i k hd hi hk
    obtain ⟨k, rfl⟩ : ∃ q, k = q + 1 := ⟨k - 1, by omega⟩
    have hi2 : i < (partsM 99 o).length := by omega
    simp only [laws_FnTag.l1, List.length_map]
    rw [if_pos (by omega), if_pos (by omega), if_pos (by omega)]
    have er : rdOf ByteArray.empty ((partsM 99 o).map mkB) (i : Int) = mkB ((partsM 99 o)[i]) := by
      unfold rdOf
      rw [List.getD_eq_getElem?_getD, List.getElem?_map]
      simp [hi2]
    have ew : wrap64 ((i : Int) + 1) = ((i + 1 : Nat) : Int) := by unfold wrap64; omega
    rw [er, mkB_toList, ew]
    by_cases hp : (partsM 99 o)[i] = []
    · rw [if_pos hp]
      exact ih (i + 1) k (by omega) (by omega) (by omega)
    · rw [if_neg hp, has_f o _ k hn (List.getElem_mem hi2) hp (by omega)]
      simp only [Option.bind_some, if_true]
      exact ih (i + 1) k (by omega) (by omega) (by omega)
theorem str_of (l : List UInt8) : strOfNums (l.map fun c => (c.toNat : Int)) = mkB l := by
  unfold strOfNums mkB
  congr 1
  rw [List.map_map]
  congr 1
  have : ((fun n : Int => UInt8.ofNat n.toNat) ∘ fun c : UInt8 => (c.toNat : Int)) = id := by
    funext c
    simp
  rw [this, List.map_id]
theorem rest_is (x0 : ByteArray) (l : List UInt8) (x4 : Int) (k : Nat) (hn : l.length ≤ 80) (hc : ∀ c ∈ l, c ≠ 32) (hk : 1000 ≤ k) : laws_FnTag.j1 k x0 (l.map fun c => (c.toNat : Int)) x4 false = some true := by
  obtain ⟨k, rfl⟩ : ∃ q, k = q + 1 := ⟨k - 1, by omega⟩
  simp only [laws_FnTag.j1]
  rw [if_neg (by simp), str_of]
  have e3 : (3 : Int) = ((2 + 1 : Nat) : Int) := rfl
  rw [e3, scparts_f l 2 k (by omega) (by omega) (by omega), tagOf_is l k (by omega) (by omega)]
  simp only [Option.bind_some, mk_nil]
  obtain ⟨t, ht⟩ := three l
  have hlen := parts_len 2 l
  rw [if_pos (by simp; omega)]
  simp only [ht, Option.bind_some, rdOf, List.length_cons, mkB_toList]
  obtain ⟨hs, hm⟩ := opts_sub l
  have g0 : ((mkB (name3 l).1 :: mkB (name3 l).2.1 :: mkB (name3 l).2.2 :: t).getD (0 : Int).toNat ByteArray.empty) = mkB (name3 l).1 := rfl
  have g1 : ((mkB (name3 l).1 :: mkB (name3 l).2.1 :: mkB (name3 l).2.2 :: t).getD (1 : Int).toNat ByteArray.empty) = mkB (name3 l).2.1 := rfl
  have g2 : ((mkB (name3 l).1 :: mkB (name3 l).2.1 :: mkB (name3 l).2.2 :: t).getD (2 : Int).toNat ByteArray.empty) = mkB (name3 l).2.2 := rfl
  rw [g0, g1, g2, mkB_toList, mkB_toList, mkB_toList]
  rw [if_pos (by omega), if_pos rfl, if_pos (by omega), if_pos rfl, if_pos (by omega)]
  obtain ⟨k, rfl⟩ : ∃ q, k = q + 1 := ⟨k - 1, by omega⟩
  simp only [laws_FnTag.j2]
  rw [if_neg (by simp)]
  have e100 : (100 : Int) = ((99 + 1 : Nat) : Int) := rfl
  rw [e100, scparts_f (name3 l).2.2 99 k (by omega) (by omega) (by omega)]
  simp only [Option.bind_some, List.length_map]
  have hl := parts_len 99 (name3 l).2.2
  exact parts_loop (name3 l).2.2 (by omega) (fun c hx => hc c (hm c hx)) _ 0 k rfl (Nat.zero_le _) (by omega)
theorem loop_is (x0 : ByteArray) (hx : x0.size ≤ 140737488351232) : ∀ (d i k : Nat) (l : List UInt8), 80 - i = d → i ≤ 80 → l.length ≤ i → (∀ c ∈ l, c ≠ 32) → 2 * d + 1002 ≤ k →
    laws_FnTag.l0 k x0 (l.map fun c => (c.toNat : Int)) i = some true := by
  intro d
  induction d with
  | zero =>
    intro i k l hd hi hl hc hk
    obtain ⟨k, rfl⟩ : ∃ q, k = q + 1 := ⟨k - 1, by omega⟩
    simp only [laws_FnTag.l0]
    have e : decide ((i : Int) < 80) = false := by simp; omega
    rw [e, ite_self]
    exact rest_is x0 l i k (by omega) hc (by omega)
  | succ d ih =>
    intro i k l hd hi hl hc hk
    obtain ⟨k, rfl⟩ : ∃ q, k = q + 1 := ⟨k - 1, by omega⟩
    simp only [laws_FnTag.l0]
    have e : decide ((i : Int) < 80) = true := by simp; omega
    rw [e]
    by_cases hlt : (i : Int) < (x0.size : Int)
    · rw [if_pos hlt]
      obtain ⟨k, rfl⟩ : ∃ q, k = q + 1 := ⟨k - 1, by omega⟩
      simp only [laws_FnTag.j1]
      have ew : wrap64 ((i : Int) + 1) = ((i + 1 : Nat) : Int) := by unfold wrap64; omega
      rw [if_pos trivial, if_pos (by omega), if_pos hlt, ew]
      obtain ⟨hb0, hb1⟩ := bt_range x0 i
      by_cases h32 : bt x0 i > 32
      · rw [if_pos h32]
        by_cases h127 : bt x0 i < 127
        · rw [if_pos h127, if_pos (by simp; omega)]
          have ec : ((UInt8.ofNat (bt x0 i).toNat).toNat : Int) = bt x0 i := by rw [UInt8.toNat_ofNat']; omega
          have h := ih (i + 1) k (l ++ [UInt8.ofNat (bt x0 i).toNat]) (by omega) (by omega) (by simp; omega)
            (by
              intro c hx2
              rcases List.mem_append.1 hx2 with h | h
              · exact hc c h
              · simp at h
                rw [h]
                intro e
                rw [e] at ec
                have e32 : ((32 : UInt8).toNat : Int) = 32 := rfl
                rw [e32] at ec
                omega) (by omega)
          rw [List.map_append] at h
          simp only [List.map_cons, List.map_nil, ec] at h
          exact h
        · rw [if_neg h127]
          exact ih (i + 1) k l (by omega) (by omega) (by omega) hc (by omega)
      · rw [if_neg h32]
        exact ih (i + 1) k l (by omega) (by omega) (by omega) hc (by omega)
    · rw [if_neg hlt]
      exact rest_is x0 l i k (by omega) hc (by omega)
theorem FnTag : laws_FnTag.Pure := by
  intro s hn
  refine ⟨2000, ?_⟩
  unfold laws_FnTag.f
  split
  · rfl
  · exact loop_is s hn 80 0 2000 [] rfl (by omega) (by simp) (by simp) (by omega)
end Go.Proofs.Ytlbbdnngjkjafaa.Pure
