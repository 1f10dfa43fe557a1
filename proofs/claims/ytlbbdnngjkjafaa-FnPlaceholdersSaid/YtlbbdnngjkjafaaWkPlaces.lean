/- The walk of the law FnPlaceholders. -/
import Derived.Test.YtlbbdnngjkjafaaPFnPartFlagsx0
import Derived.Laws.BytesString
import Derived.Outline
namespace Go.Proofs.Ytlbbdnngjkjafaa.Wk
open Go.RowKit Go.Lib Go.Proofs.YtlbbdnngjkjafaaW.PrintWords Go.Proofs.YtlbbdnngjkjafaaW.PrintLast Go.Proofs.YtlbbdnngjkjafaaW.PrintMore
set_option linter.unusedVariables false
set_option linter.unusedSimpArgs false
set_option maxHeartbeats 1000000
/-- "(?" and k times ",?" behind it. -/
def qs : Nat → List Int
  | 0 => [40, 63]
  | k + 1 => qs k ++ [44, 63]
theorem qs_len (k : Nat) : (qs k).length = 2 * k + 2 := by
  induction k with
  | zero => rfl
  | succ k ih => simp only [qs, List.length_append, ih]; simp; omega
theorem info5 : ∃ i, Try.prog.info? 5 = some i ∧ i.zero = some (.int .u8 0) ∧ i.size = 1 ∧ i.bytes = 1 := by
  have h : (Try.prog.info? 5).map (fun i => (i.zero, i.size, i.bytes)) = some (some (.int .u8 0), 1, 1) := by kernel_rfl
  obtain ⟨i, hi, hb⟩ := Option.map_eq_some_iff.1 h
  simp only [Prod.mk.injEq] at hb
  exact ⟨i, hi, hb.1, hb.2.1, hb.2.2⟩
set_option maxRecDepth 100000 in
theorem p62 (n : Nat) (ad : Option Addr) (w : World) (hn : n ≤ 1000) (h1 : 0 < n) : Calls Try.prog 62 #[.slice ad n n] w fun e w' => e = .returned (.string (strOfNums (qs (n - 1) ++ [41]))) ∧ Below w.heap.size w w' := by
  obtain ⟨i0, hi, hz0, hz1, hz2⟩ := info5
  have I5 := Aside0.mk (And.intro hi (And.intro hz0 (And.intro hz1 hz2)))
  clear hi hz0 hz1 hz2
  have hne : ((n : Int) == 0) = false := by simp; omega
  go_enter Try.func62, Try.ntmps62
  go_wp2
  go_loopw [3, 4] (fun v i wr => ∃ k : Nat, k + 1 ≤ n ∧ i = .int .i64 ((k + 1 : Nat) : Int) ∧ wr.ownsRow w.heap.size 5 1 v (2 * k + 2) ((qs k).map (Value.int .u8)) ∧ Below w.heap.size w wr)
    (fun _ i _ => n - (intOf i).toNat)
  case atStart => exact ⟨0, by omega, rfl, World.ownsRow_lit _ _ 2 (Nat.le_refl _) (by decide) rfl, below_alloc (Below.refl _ _) _⟩
  case round =>
    obtain ⟨k, hk, rfl, hown, hb⟩ := hrel
    have HB := Aside0.mk hb
    clear hb
    go_wp2_with (first
      | (at_builtin; refine wpList_append_own_string _ rfl _ _ 34 9 rfl w.heap.size 5 i0 Try.underlying34 Try.underlying9 I5.out.1 I5.out.2.1 I5.out.2.2.1 I5.out.2.2.2 _ _ _ rfl hown ⟨#[44, 63]⟩ rfl ?c1 ?c2 ?c3 ?_)
      | (at_builtin; refine wpList_append_own _ rfl _ _ 34 rfl w.heap.size 5 i0 (.int .u8 0) 1 1 Try.underlying34 I5.out.1 I5.out.2.1 I5.out.2.2.1 I5.out.2.2.2 rfl (by decide) _ _ _ rfl (hown.alloc _) ⟨wr.heap.size, 0, none⟩ 1 1 [.int .u8 41] rfl rfl ?d1 ?d2 ?d3 ?d4 ?d5 ?_))
    case c1 => have : ByteArray.size ⟨#[44, 63]⟩ = 2 := rfl; unfold maxLen; omega
    case c2 => have : ByteArray.size ⟨#[44, 63]⟩ = 2 := rfl; omega
    case c3 => exact HB.out.size
    · intro v' w1 hown' hgrow _
      have hB1 := Aside0.mk (pw_below_grown HB.out _ HB.out.size hgrow (fun j e => (hown.lt j e).1))
      clear hown hgrow
      go_wp2
      go_round
      case rel =>
        refine ⟨k + 1, by omega, by go_num, ?_, hB1.out⟩
        have e : (List.map (Value.int .u8) (qs (k + 1))) = List.map (Value.int .u8) (qs k) ++ strCells ⟨#[44, 63]⟩ := by simp [qs, strCells]
        rw [e]
        exact hown'
      case measure => simp [intOf]; omega
    case d1 =>
      intro j u hj
      match j, hj with
      | 0, hj => simp at hj; subst hj; simp [Addr.add, go_sem]
    case d2 => intro u hu; simp at hu; subst hu; rfl
    case d3 => unfold maxLen; omega
    case d4 => omega
    case d5 => have := HB.out.size; simp; omega
    · intro v' w1 hown' hgrow _
      have hB1 := Aside0.mk (pw_below_grown (below_alloc HB.out _) _ (by have := HB.out.size; simp; omega) hgrow (fun j e => (hown.lt j e).1))
      have ek : k = n - 1 := by omega
      subst ek
      have how := hown'
      obtain ⟨hl, hv⟩ := hown'
      rcases hv with ⟨_, h0⟩ | ⟨g, cap, cur, rfl, hg0, hcur, hc1, hc2, hc3, hc4⟩
      · omega
      have hr : ReadsInt w1 .u8 (some ⟨g, 0, none⟩) (2 * (n - 1) + 2 + 1) (qs (n - 1) ++ [41]) := by
        refine ⟨by rw [List.length_append, qs_len]; rfl, by omega, fun _ => ⟨_, rfl, fun j hj => how.cells rfl j _ ?_⟩⟩
        have e : List.map (Value.int .u8) (qs (n - 1)) ++ [Value.int .u8 41] = List.map (Value.int .u8) (qs (n - 1) ++ [41]) := by simp
        have hj' : j < (qs (n - 1) ++ [41]).length := by rw [List.length_append, qs_len]; exact hj
        rw [e, List.getElem?_map, List.getElem?_eq_getElem hj', List.getD_eq_getElem?_getD, List.getElem?_eq_getElem hj']
        rfl
      have hs := string_of_reads (src := 34) (dst := 9) (c := cap) Try.underlying34 Try.underlying5 Try.underlying9 hr
      clear hr hcur hc4 hl hown hgrow how
      go_wp2
      go_ret
      exact ⟨by simp, hB1.out⟩
set_option maxRecDepth 100000 in
theorem p62_0 (ad : Option Addr) (w : World) : Calls Try.prog 62 #[.slice ad 0 0] w fun e w' => e = .returned (.string ⟨#[]⟩) ∧ Below w.heap.size w w' := by
  go_enter Try.func62, Try.ntmps62
  go_wp2
  go_ret
  exact ⟨by simp, Below.refl _ _⟩
/-- The text of n places. -/
def places (n : Nat) : ByteArray := if n = 0 then ⟨#[]⟩ else strOfNums (qs (n - 1) ++ [41])
theorem info127 : ∃ i, Try.prog.info? 127 = some i ∧ i.zero = some (.agg #[]) ∧ i.size = 0 ∧ i.bytes = 0 := by
  have h : (Try.prog.info? 127).map (fun i => (i.zero, i.size, i.bytes)) = some (some (.agg #[]), 0, 0) := by kernel_rfl
  obtain ⟨i, hi, hb⟩ := Option.map_eq_some_iff.1 h
  simp only [Prod.mk.injEq] at hb
  exact ⟨i, hi, hb.1, hb.2.1, hb.2.2⟩
set_option maxRecDepth 100000 in
theorem p36 (n : Nat) (w : World) (hn : n ≤ 1000) : Calls Try.prog 36 #[.int .i64 n] w fun e w' => e = .returned (.string (places n)) ∧ Below w.heap.size w w' := by
  have C : Aside0 (∀ ad w, Calls Try.prog 62 #[.slice ad n n] w fun e w' => e = .returned (.string (places n)) ∧ Below w.heap.size w w') := by
    constructor
    intro ad w
    unfold places
    by_cases h : n = 0
    · subst h; exact p62_0 ad w
    · rw [if_neg h]; exact p62 n ad w hn (by omega)
  obtain ⟨i0, hi, hz0, hz1, hz2⟩ := info127
  have I := Aside0.mk (And.intro hi (And.intro hz0 (And.intro hz1 hz2)))
  clear hi hz0 hz1 hz2
  go_enter Try.func36, Try.ntmps36
  go_wp2_with (refine wpList_make_full _ rfl _ _ 89 rfl w.heap.size 127 i0 (.agg #[]) 0 Try.underlying89 I.out.1 I.out.2.1 I.out.2.2.1 .i64 .i64 n n n rfl rfl rfl rfl ?c1 ?c2 (Nat.le_refl _) ?_)
  case c1 => rw [I.out.2.2.2]; omega
  case c2 => unfold maxLen; omega
  intro w1 _ hg
  have HB := Aside0.mk (pw_below_grown (Below.refl _ _) _ (Nat.le_refl _) hg (by simp))
  clear hg
  go_wp2_with fail
  with_reducible refine (C.out _ _).mono ?_
  rintro e w2 ⟨rfl, hb⟩
  have HB2 := Aside0.mk (below_then HB.out HB.out.size hb)
  clear hb C HB
  go_wp2
  go_ret
  exact ⟨by simp, HB2.out⟩
theorem p18 (n : Nat) (w : World) (hn : n ≤ 1000) : Calls Try.prog 18 #[.int .i64 n] w fun e w' => e = .returned (.string (places n)) ∧ Below w.heap.size w w' := by
  have C := Aside0.mk (fun w => p36 n w hn)
  go_enter Try.func18, Try.ntmps18
  go_wp2_with fail
  with_reducible refine (C.out _).mono ?_
  rintro e w2 ⟨rfl, hb⟩
  have HB2 := Aside0.mk hb
  clear hb C
  go_wp2
  go_ret
  exact ⟨by simp, HB2.out⟩
/-- The law's own text. -/
def ws : Nat → ByteArray
  | 0 => ⟨#[]⟩
  | k + 1 => (if 0 < k then ws k ++ ⟨#[44]⟩ else ws k) ++ ⟨#[63]⟩
theorem ws_size (k : Nat) : (ws k).size ≤ 2 * k := by
  induction k with
  | zero => exact Nat.le_refl _
  | succ k ih =>
    unfold ws
    rw [ByteArray.size_append]
    have e1 : ByteArray.size ⟨#[63]⟩ = 1 := rfl
    have e2 : ByteArray.size ⟨#[44]⟩ = 1 := rfl
    split
    · rw [ByteArray.size_append]; omega
    · omega
theorem places1 : places 1 = ⟨#[40, 63, 41]⟩ := by decide +kernel
theorem p18_1 (w : World) : Calls Try.prog 18 #[.int .i64 1] w fun e w' => e = .returned (.string ⟨#[40, 63, 41]⟩) ∧ Below w.heap.size w w' := by
  have h := p18 1 w (by omega)
  rw [places1] at h
  exact h
theorem son_app (xs ys : List Int) : strOfNums (xs ++ ys) = strOfNums xs ++ strOfNums ys := by
  apply ByteArray.ext
  simp [strOfNums]
theorem ws_qs (k : Nat) : strOfNums (qs k) = (⟨#[40]⟩ ++ ws (k + 1) : ByteArray) := by
  induction k with
  | zero => decide +kernel
  | succ k ih =>
    have e : ws (k + 1 + 1) = ws (k + 1) ++ ⟨#[44]⟩ ++ ⟨#[63]⟩ := by rw [ws, if_pos (by omega)]
    have e2 : strOfNums [44, 63] = (⟨#[44]⟩ ++ ⟨#[63]⟩ : ByteArray) := by decide +kernel
    rw [e, qs, son_app, ih, e2]
    simp only [ByteArray.append_assoc]
theorem ws_places (n : Nat) (h : 0 < n) : (⟨#[40]⟩ ++ ws n ++ ⟨#[41]⟩ : ByteArray) = places n := by
  obtain ⟨k, rfl⟩ : ∃ k, n = k + 1 := ⟨n - 1, by omega⟩
  unfold places
  rw [if_neg (by omega), show k + 1 - 1 = k by omega, son_app, ws_qs]
  rfl
set_option maxRecDepth 100000 in
theorem law6 (a : Int) (n : Nat) (w : World) (hn : n ≤ 1000) (ha : wrap64 (Int.tmod (IntKind.u64.wrap a) 1001) = n) : Calls Try.prog 6 #[.int .i64 a] w fun e w' => e = .returned (.bool true) ∧ Below w.heap.size w w' := by
  have A := Aside0.mk ha
  clear ha
  go_enter Try.func6, Try.ntmps6
  go_wp2
  rw [A.out]
  clear A
  go_loop [3, 4] (fun t i => ∃ k : Nat, k ≤ n ∧ i = .int .i64 k ∧ t = .string (ws k)) (fun _ i => n - (intOf i).toNat)
  case atStart => exact ⟨0, by omega, rfl, rfl⟩
  case round =>
    obtain ⟨k, hk, rfl, rfl⟩ := hrel
    have hz := ws_size k
    have hz1 : (ws k).size + 1 ≤ 9223372036854775807 := by omega
    have hz2 : (ws k).size + 2 ≤ 9223372036854775807 := by omega
    go_wp2_with fail
    · go_round
      case rel => exact ⟨k + 1, by omega, by go_num, by rw [ws, if_pos (by omega)]⟩
      case measure => simp [intOf]; omega
    · go_round
      case rel => exact ⟨k + 1, by omega, by go_num, by rw [ws, if_neg (by omega)]⟩
      case measure => simp [intOf]; omega
    · have ek : k = n := by omega
      subst ek
      rw [ws_places _ (by assumption)]
      with_reducible refine (p18 _ _ hn).mono ?_
      rintro e w1 ⟨rfl, hb⟩
      have HB := Aside0.mk hb
      clear hb
      go_wp2_with fail
      with_reducible refine (p18_1 _).mono ?_
      rintro e w2 ⟨rfl, hb⟩
      have HB2 := Aside0.mk (below_then HB.out HB.out.size hb)
      clear hb HB
      go_wp2
      go_ret
      exact ⟨by simp, HB2.out⟩
    · have ek : k = 0 := by omega
      subst ek
      have en : n = 0 := by omega
      subst en
      with_reducible refine (p18 _ _ hn).mono ?_
      rintro e w1 ⟨rfl, hb⟩
      have HB := Aside0.mk hb
      clear hb
      go_wp2_with fail
      with_reducible refine (p18_1 _).mono ?_
      rintro e w2 ⟨rfl, hb⟩
      have HB2 := Aside0.mk (below_then HB.out HB.out.size hb)
      clear hb HB
      go_wp2
      go_ret
      exact ⟨by simp, HB2.out⟩
theorem FnPlaceholders (a : Int) (w : World) : Calls Try.prog 6 #[.int .i64 a] w fun e w' => e = .returned (.bool true) ∧ Below w.heap.size w w' := by
  have hu : 0 ≤ IntKind.u64.wrap a := by simp [IntKind.wrap, IntKind.bits, IntKind.signed]; omega
  have e : wrap64 (Int.tmod (IntKind.u64.wrap a) 1001) = IntKind.u64.wrap a % 1001 := by
    rw [Int.tmod_eq_emod_of_nonneg hu]
    unfold wrap64
    omega
  exact law6 a (IntKind.u64.wrap a % 1001).toNat w (by omega) (by rw [e]; omega)
end Go.Proofs.Ytlbbdnngjkjafaa.Wk
