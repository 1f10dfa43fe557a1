/- A region whose operations come up in an order that is drawn: shown by what holds of the operations that have come up, whatever the order. -/
import Derived.Deep.RegionHeld3
import Derived.Test.YtmgckcngedpgoaaDoorKb
namespace Go.Proofs.YtmgckcngedpgoaaDoor.Kb
open Go Go.RowKit
set_option linter.unusedVariables false
set_option linter.unusedSimpArgs false
/-- Each operation waits for operations ahead of it alone. -/
def downB (md : Region.Mode) (ops : Array Oper) : Bool := (List.range ops.size).all fun i => ((ops[i]?).map fun o => o.after.all fun e => !Region.binds md e || decide (e.on < i)).getD true
section
variable {P : Program} {ops : Array Oper} {Q : Exit → Act → World → Prop} {md : Region.Mode}
theorem downB_at (h : downB md ops = true) {i : Nat} {o : Oper} (ho : ops[i]? = some o) : ∀ e ∈ o.after, Region.binds md e = true → e.on < i := by
  intro e he hb
  have hi : i < ops.size := (Array.getElem?_eq_some_iff.1 ho).1
  unfold downB at h
  rw [List.all_eq_true] at h
  have h1 := h i (List.mem_range.2 hi)
  rw [ho] at h1
  simp only [Option.map_some, Option.getD_some, Array.all_eq_true_iff_forall_mem] at h1
  have h2 := h1 e he
  simp [hb] at h2
  exact h2
theorem all_listed (h : downB md ops = true) {L : Array Bool} (hs : L.size = ops.size) (hr : Region.ready md ops L = []) : ∀ i, L.getD i true = true := by
  intro i
  induction i using Nat.strongRecOn with
  | _ i ih =>
    by_cases hi : i < ops.size
    · cases hl : L.getD i true with
      | true => rfl
      | false =>
        have : i ∈ Region.ready md ops L := by
          rw [mem_ready]
          refine ⟨hl, ops[i], by simp [hi], fun e he hb => ?_⟩
          have hlt := downB_at h (o := ops[i]) (i := i) (by simp [hi]) e he hb
          have := ih e.on hlt
          have hlt2 : e.on < L.size := by omega
          simp [hlt2] at this ⊢
          exact this
        rw [hr] at this
        cases this
    · have : ¬ i < L.size := by omega
      simp [this]
theorem count_pos {L : List Bool} {i : Nat} (h : L[i]? = some false) : 0 < L.countP (!·) := by
  rw [List.countP_pos_iff]
  exact ⟨false, List.mem_of_getElem? h, rfl⟩
theorem count_set {L : List Bool} {i : Nat} (h : L[i]? = some false) : (L.set i true).countP (!·) + 1 = L.countP (!·) := by
  induction L generalizing i with
  | nil => simp at h
  | cons x xs ih =>
    cases i with
    | zero =>
      simp at h
      subst h
      simp [List.countP_cons]
    | succ i =>
      simp at h
      have := ih h
      simp [List.countP_cons]
      omega
/-- The operations that had come up at L0 have come up; I speaks of which ones have. -/
theorem wpAny_inv (hd : downB md ops = true) (L0 : Array Bool) (I : (Nat → Bool) → Act → World → Prop)
    (step : ∀ i o, ops[i]? = some o → L0.getD i true = false → ∀ D a w, D i = false → (∀ e ∈ o.after, Region.binds md e = true → D e.on = true) → I D a w → wpOp P ops Q i (I (fun k => if k = i then true else D k)) a w)
    (fin : ∀ a w, I (fun _ => true) a w → Q .normal a w) :
    ∀ (fuel : Nat) (L : Array Bool) (a : Act) (w : World), L.size = ops.size → L.toList.countP (!·) ≤ fuel → (∀ j, L0.getD j true = true → L.getD j true = true) → I (fun k => L.getD k true) a w → wpAny P md ops Q fuel L a w := by
  intro fuel
  have done : ∀ (L : Array Bool) (a : Act) (w : World), L.size = ops.size → I (fun k => L.getD k true) a w → Region.ready md ops L = [] → Q .normal a w := by
    intro L a w hs hI hr
    have h := all_listed hd hs hr
    have e : (fun k => L.getD k true) = fun _ => true := funext h
    rw [e] at hI
    exact fin a w hI
  induction fuel with
  | zero =>
    intro L a w hs hc h0 hI
    have hr : Region.ready md ops L = [] := by
      cases hr : Region.ready md ops L with
      | nil => rfl
      | cons x xs =>
        have hx : x ∈ Region.ready md ops L := by rw [hr]; simp
        rw [mem_ready] at hx
        obtain ⟨hl, o, ho, _⟩ := hx
        have hi : x < L.size := by have := (Array.getElem?_eq_some_iff.1 ho).1; omega
        have : 0 < L.toList.countP (!·) := count_pos (i := x) (by simp [hi] at hl ⊢; exact hl)
        omega
    exact ⟨hr, done L a w hs hI hr⟩
  | succ fuel ih =>
    intro L a w hs hc h0 hI
    refine ⟨done L a w hs hI, fun i hi => ?_⟩
    rw [mem_ready] at hi
    obtain ⟨hl, o, ho, hdep⟩ := hi
    have hi : i < L.size := by have := (Array.getElem?_eq_some_iff.1 ho).1; omega
    have hl0 : L0.getD i true = false := by
      cases h : L0.getD i true with
      | false => rfl
      | true => rw [h0 i h] at hl; cases hl
    refine wpOp_mono (fun a' w' hI' => ?_) (step i o ho hl0 (fun k => L.getD k true) a w hl (fun e he hb => ?_) hI)
    · refine ih _ a' w' (by simpa using hs) ?_ ?_ ?_
      · have hx : L.toList[i]? = some false := by simp [hi] at hl ⊢; exact hl
        have := count_set hx
        simp
        omega
      · intro j hj
        by_cases e : i = j
        · subst e; simp [hi]
        · rw [getD_set_ne true e]; exact h0 j hj
      · have e : (fun k => (L.setIfInBounds i true).getD k true) = fun k => if k = i then true else L.getD k true := by
          funext k
          by_cases e : i = k
          · subst e; simp [hi]
          · rw [getD_set_ne true e, if_neg (Ne.symm e)]
        rw [e]
        exact hI'
    · have := hdep e he hb
      have hlt : e.on < L.size := by
        rcases Nat.lt_or_ge e.on L.size with h | h
        · exact h
        · simp [Array.getElem?_eq_none h] at this
      simp [hlt] at this ⊢
      exact this
end
/-- An operation taken first, its slot written out. -/
theorem wpAnyH_take_d {P : Program} {ops : Array Oper} {Q : Exit → Act → World → Prop} {md : Region.Mode} {S : World → Prop} {i : Nat} {oi : Oper} (d : Option Tmp) {v : Value} {fuel : Nat} {listed : Array Bool} {a : Act} {w : World} (hi : ops[i]? = some oi) (hd : oi.dst = d)
    (hs : Region.noSelect ops = true) (hf : Region.free md ops listed i = true) (hr : (Region.ready md ops listed).contains i = true)
    (hQ : ∀ c a w, Q (.panic c) (a.put d v) w → Q (.panic c) a w) (hy : YieldsIf P ops S oi v a) (hS : S w)
    (h : wpAnyH P md ops Q S fuel (listed.setIfInBounds i true) (a.put d v) w) : wpAnyH P md ops Q S (fuel + 1) listed a w := by
  subst hd
  exact wpAnyH_take hi hs hf hr hQ hy hS h
/-- A frame with other values in some slots. -/
def ovr (a : Act) (f : Nat → Option Value) : Act := { a with tmps := a.tmps.mapIdx fun i v => (f i).getD v }
def upd (f : Nat → Option Value) (d : Nat) (v : Value) : Nat → Option Value := fun k => if k = d then some v else f k
theorem ovr_none (a : Act) : ovr a (fun _ => none) = a := by
  unfold ovr
  congr 1
  apply Array.ext <;> simp
theorem ovr_put (a : Act) (f : Nat → Option Value) (d : Nat) (v : Value) : (ovr a f).put (some d) v = ovr a (upd f d v) := by
  unfold ovr Act.put upd
  simp only [Act.mk.injEq, and_true]
  apply Array.ext
  · simp
  · intro i h1 h2
    simp at h1 h2
    by_cases e : d = i
    · subst e; simp
    · rw [Array.getElem_setIfInBounds_ne (by simpa using h1) e]
      simp [Ne.symm e]
theorem ovr_eval (a : Act) (f : Nat → Option Value) (t : Nat) (h : t < a.tmps.size) : (ovr a f).eval (.tmp t) = (f t).getD (a.eval (.tmp t)) := by
  simp [ovr, Act.eval, h]
end Go.Proofs.YtmgckcngedpgoaaDoor.Kb
