/- The walk of FnAffected: the law. -/
import Derived.Test.YtbohjafchfeheaaAffB
namespace Go.Proofs.Ytbohjafchfeheaa.Kb
open Go Go.RowKit
set_option linter.unusedVariables false
set_option linter.unusedSimpArgs false
set_option maxHeartbeats 1000000
/-- Numbers of four bytes each. -/
def b4 (ns : List Int) : List (Int × Nat) := ns.map fun x => (x, 4)
theorem b4_append (a b : List Int) : b4 (a ++ b) = b4 a ++ b4 b := List.map_append
theorem b4_len (ns : List Int) : (rowB (b4 ns)).length = 4 * ns.length := by
  induction ns with
  | nil => rfl
  | cons x r ih =>
    have e : rowB (b4 (x :: r)) = leB 4 x ++ rowB (b4 r) := rfl
    rw [e, List.length_append, leB_len, ih, List.length_cons]; omega
theorem b4_byte (ns : List Int) : ∀ x ∈ rowB (b4 ns), 0 ≤ x ∧ x < 256 := by
  induction ns with
  | nil => intro x hx; simp [rowB, b4] at hx
  | cons x r ih =>
    have e : rowB (b4 (x :: r)) = leB 4 x ++ rowB (b4 r) := rfl
    rw [e]
    exact bytes_append (leB_byte _ _) ih
theorem b4_num (ns : List Int) (h : ∀ x ∈ ns, -2147483648 ≤ x ∧ x ≤ 2147483647) : ∀ i (hi : i < ns.length), wrap32 (numL (rowB (b4 ns)) (4 * i) 4) = ns[i] := by
  induction ns with
  | nil => intro i hi; simp at hi
  | cons x r ih =>
    intro i hi
    have e : rowB (b4 (x :: r)) = leB 4 x ++ rowB (b4 r) := rfl
    rw [e]
    match i, hi with
    | 0, _ =>
      have hx := h x List.mem_cons_self
      rw [Nat.mul_zero, num_here]
      have e4 : ((256 ^ 4 : Nat) : Int) = 4294967296 := by decide
      rw [e4]
      show wrap32 _ = x
      unfold wrap32; omega
    | i + 1, hi =>
      have e5 : 4 * (i + 1) = 4 + 4 * i := by omega
      rw [e5, num_next 4 4 (4 * i)]
      exact ih (fun y hy => h y (List.mem_cons_of_mem _ hy)) i (by simpa using hi)
theorem rd_four (w : World) : Rd (w.alloc (.cells #[.int .u8 1, .int .u8 0, .int .u8 0, .int .u8 0] 5)) [] (some ⟨w.heap.size, 0, none⟩) 4 [1, 0, 0, 0] := by
  have hb := Blk.new w #[.int .u8 1, .int .u8 0, .int .u8 0, .int .u8 0] 5
  refine ⟨rfl, by omega, fun j hj => ⟨_, rfl, ?_, by simp, by simp⟩⟩
  simp at hj
  rcases (by omega : j = 0 ∨ j = 1 ∨ j = 2 ∨ j = 3) with rfl | rfl | rfl | rfl <;> exact hb.cellz _ rfl
set_option maxRecDepth 100000 in
theorem law_affected (A : Option Addr) (n c m : Nat) (ns : List Int) (w : World) (hm : n ≤ 30 ∧ m = n ∨ 30 < n ∧ m = 30) (hbig : n ≤ 2147483647) (hnc : n ≤ c) (hcc : c ≤ 9223372036854775807) (hlen : ns.length = m) (hi32 : ∀ x ∈ ns, -2147483648 ≤ x ∧ x ≤ 2147483647)
    (hcell : ∀ j, j < m → ∃ ad, A = some ad ∧ w.cell? (ad.add j) = some (.int .i32 (ns.getD j 0)) ∧ ad.block < w.heap.size) :
    Calls Try.prog 6 #[.slice A n c] w fun e w' => e = .returned (.bool true) ∧ Below w.heap.size w w' := by
  obtain ⟨i0, hi, hz0, hz1, hz2⟩ := info_of infoB
  have I := Hd.mk (And.intro hi (And.intro hz0 (And.intro hz1 hz2)))
  have hnb : ¬ (2147483647 : Int) < n := by omega
  have HC := Hd.mk hcell; have HI := Hd.mk hi32; have HLEN := Hd.mk hlen
  clear hcell hi32 hlen hi hz0 hz1 hz2
  rcases hm with ⟨hm, rfl⟩ | ⟨hm, rfl⟩
  · have hmi : min (m : Int) 30 = m := by omega
    have cut : True := trivial
    go_enter Try.func6, Try.ntmps6
    go_wp2
    go_loopw [3, 4, 25] (fun v sm i wr => ∃ k : Nat, k ≤ m ∧ i = .int .i64 k ∧ sm = .int .i64 (posSum (ns.take k)) ∧ wr.ownsRow w.heap.size 5 1 v (rowB (b4 (ns.take k))).length (bc (rowB (b4 (ns.take k)))) ∧ Below w.heap.size w wr) (fun _ _ i _ => m - (intOf i).toNat)
    case atStart => exact ⟨0, by omega, rfl, by simp [posSum], by simpa [rowB, b4] using World.ownsRow_nil _ _ _ _, Below.refl _ _⟩
    case round =>
      obtain ⟨k, hk, rfl, rfl, hown, hb⟩ := hrel
      by_cases hlt : k < m
      · obtain ⟨ad, rfl, hc, hal⟩ := HC.out k hlt
        have hkn : k < ns.length := by rw [HLEN.out]; exact hlt
        have c0 : wr.cell? (ad.add k) = some (.int .i32 (ns.getD k 0)) := (World.cell?_of_block (by rw [add_block]; exact hb.block _ hal)).trans hc
        have hp := posSum_bound (ns.take k) (fun x hx => HI.out x (List.mem_of_mem_take hx))
        rw [List.length_take] at hp
        have hx : -2147483648 ≤ ns.getD k 0 ∧ ns.getD k 0 ≤ 2147483647 := by
          rw [List.getD_eq_getElem?_getD, List.getElem?_eq_getElem hkn]
          exact HI.out _ (List.getElem_mem hkn)
        have ets : ns.take (k + 1) = ns.take k ++ [ns.getD k 0] := by rw [List.getD_eq_getElem?_getD, List.getElem?_eq_getElem hkn]; exact List.take_succ_eq_append_getElem hkn
        have er : posSum (ns.take (k + 1)) = posSum (ns.take k) + (if 0 < ns.getD k 0 then ns.getD k 0 else 0) := by
          rw [ets, posSum_append]; simp [posSum]
        have eb : rowB (b4 (ns.take (k + 1))) = rowB (b4 (ns.take k)) ++ leB 4 (ns.getD k 0) := by
          rw [ets, b4_append, rowB_append]; simp [rowB, b4]
        have hlen := b4_len (ns.take k)
        rw [List.length_take] at hlen
        have ER := Hd.mk er; have EB := Hd.mk eb; have HB := Hd.mk hb; have HO := Hd.mk hown
        generalize ns.getD k 0 = x at *
        generalize posSum (ns.take k) = S at *
        generalize rowB (b4 (ns.take k)) = R at *
        obtain ⟨p0, p1⟩ := hp
        obtain ⟨x0, x1⟩ := hx
        have p2 : S ≤ 2147483647000 := by omega
        have HLN := Hd.mk (show R.length ≤ 4 * 1000 by omega)
        clear er eb p1 ets hlen hown hb hc hal hkn
        go_wp2_with fail
        with_reducible refine (heBytes x 4 4 _ rfl (by omega) (by omega)).mono ?_
        rintro e w1 ⟨rfl, hb1, hl1⟩
        have HB1 := Hd.mk hb1; have HL1 := Hd.mk hl1
        have hown1 : w1.ownsRow w.heap.size 5 1 _ R.length (bc R) := HO.out.kept (row := none) ⟨hl1.os, hl1.tape, hl1.output, hl1.size, fun k hk _ => hl1.block k hk⟩ (by cases h : Value.ownBlock _ with | none => exact .inl rfl | some k => exact .inr (by simp))
        clear hb1 hl1
        go_wp2_with (at_builtin; refine wpList_append_own _ rfl _ _ 23 rfl w.heap.size 5 i0 (.int .u8 0) 1 1 Try.underlying23 I.out.1 I.out.2.1 I.out.2.2.1 I.out.2.2.2 rfl (by decide) _ _ _ rfl hown1 ⟨wr.heap.size, 0, none⟩ 4 4 (bc (leB 4 x)) rfl ?c0 ?c1 ?c2 ?c3 ?c4 ?c5 ?_)
        case c0 => simp [leB_len]
        case c1 =>
          intro j u hu
          exact HB1.out.cellz j (by simpa using hu)
        case c2 =>
          intro u hu
          obtain ⟨x, _, rfl⟩ := List.mem_map.1 hu
          rfl
        case c3 => have := HLN.out; unfold maxLen; omega
        case c4 => have := HLN.out; omega
        case c5 => exact Nat.le_trans HB.out.size HL1.out.size
        intro v' w2 hown' hgrow _
        have HO2 := Hd.mk hown'
        have HB2 := Hd.mk ((HB.out.trans (HL1.out.mono HB.out.size)).grown hgrow (Nat.le_trans HB.out.size HL1.out.size) (fun k hk => (hown1.lt k hk).1))
        clear hown' hgrow hown1 c0
        have eR : bc (R ++ leB 4 x) = bc R ++ bc (leB 4 x) := List.map_append
        have ER2 := Hd.mk eR
        clear eR
        by_cases hpos : 0 < x
        · go_wp2
          go_roundw
          case rel =>
            refine ⟨k + 1, by omega, by go_num, by rw [ER.out, if_pos hpos], ?_, HB2.out⟩
            rw [EB.out, List.length_append, leB_len, ER2.out]
            exact HO2.out
          case measure => simp [intOf]; omega
        · go_wp2
          go_roundw
          case rel =>
            refine ⟨k + 1, by omega, by go_num, by rw [ER.out, if_neg hpos]; simp, ?_, HB2.out⟩
            rw [EB.out, List.length_append, leB_len, ER2.out]
            exact HO2.out
          case measure => simp [intOf]; omega
      · obtain rfl : m = k := by omega
        have hall : ns.take m = ns := by have := HLEN.out; exact List.take_of_length_le (by omega)
        rw [hall] at hown
        have hlb := b4_len ns
        rw [hall]
        obtain ⟨A2, c2, rfl, r1, r2, r3, _, _⟩ := own_rd hown (by have := HLEN.out; omega)
        have C := Hd.mk (affectedOf A2 _ c2 (rowB (b4 ns)) ns m (by have := HLEN.out; omega) wr r3 r1 r2 (b4_byte ns) (by omega) (by have := HLEN.out; omega) HI.out (b4_num ns HI.out))
        have HB := Hd.mk hb
        clear hown hb hall hlb r1 r2 r3
        go_wp2_with fail
        with_reducible refine C.out.mono ?_
        rintro e w1 ⟨G, cs, rfl, hG, hgot, hge, hb⟩
        have HG := Hd.mk hG; have HGot := Hd.mk hgot; have HB1 := Hd.mk (HB.out.trans (hb.to.mono HB.out.size))
        have hnl : (ns.length : Int) = m := by have := HLEN.out; omega
        clear hG hgot hge hb C
        go_wp2
        go_loopw [65] (fun i wr => ∃ k : Nat, k ≤ m ∧ i = .int .i64 k ∧ wr = w1) (fun i _ => m - (intOf i).toNat)
        case atStart => exact ⟨0, by omega, by first | rfl | simp, rfl⟩
        case round =>
          obtain ⟨k, hk, rfl, rfl⟩ := hrel
          by_cases hlt : k < m
          · obtain ⟨ad, rfl, hc, hal⟩ := HC.out k hlt
            have hkn : k < ns.length := by rw [HLEN.out]; exact hlt
            have c0 : wr.cell? (ad.add k) = some (.int .i32 (ns.getD k 0)) := (World.cell?_of_block (by rw [add_block]; exact HB1.out.block _ hal)).trans hc
            have c1 : wr.cell? ⟨G, k, none⟩ = some (.int .i32 (ns.getD k 0)) := HG.out.cell k (by rw [HGot.out.2 k hkn, if_pos hkn, List.getD_eq_getElem?_getD, List.getElem?_eq_getElem hkn]; rfl)
            generalize ns.getD k 0 = x at *
            clear hc hal hkn
            go_wp2
            go_roundw
            case rel => exact ⟨k + 1, by omega, by go_num, trivial⟩
            case measure => simp [intOf]; omega
          · obtain rfl : m = k := by omega
            have C2 := Hd.mk (affectedOf (some ⟨wr.heap.size, 0, none⟩) 4 4 [1, 0, 0, 0] [1] 1 rfl (wr.alloc (.cells #[.int .u8 1, .int .u8 0, .int .u8 0, .int .u8 0] 5)) (rd_four wr) (by omega) (by decide) (by simp) (by simp) (by simp) (by simp) (by simp [numL, leN, wrap32]))
            have HB3 := Hd.mk (HB1.out.alloc HB1.out.size (.cells #[.int .u8 1, .int .u8 0, .int .u8 0, .int .u8 0] 5))
            go_wp2_with fail
            with_reducible refine C2.out.mono ?_
            rintro e w3 ⟨G2, cs2, rfl, hG, hgot, hge, hb⟩
            have HB4 := Hd.mk (HB3.out.trans (hb.to.mono HB3.out.size))
            clear hG hgot hge hb C2
            go_wp2
            go_ret
            exact ⟨by simp [posSum], HB4.out⟩
  · have hmi : min (n : Int) 30 = 30 := by omega
    have cut : True := trivial
    go_enter Try.func6, Try.ntmps6
    go_wp2
    go_loopw [3, 4, 25] (fun v sm i wr => ∃ k : Nat, k ≤ 30 ∧ i = .int .i64 k ∧ sm = .int .i64 (posSum (ns.take k)) ∧ wr.ownsRow w.heap.size 5 1 v (rowB (b4 (ns.take k))).length (bc (rowB (b4 (ns.take k)))) ∧ Below w.heap.size w wr) (fun _ _ i _ => 30 - (intOf i).toNat)
    case atStart => exact ⟨0, by omega, rfl, by simp [posSum], by simpa [rowB, b4] using World.ownsRow_nil _ _ _ _, Below.refl _ _⟩
    case round =>
      obtain ⟨k, hk, rfl, rfl, hown, hb⟩ := hrel
      by_cases hlt : k < 30
      · obtain ⟨ad, rfl, hc, hal⟩ := HC.out k hlt
        have hkn : k < ns.length := by rw [HLEN.out]; exact hlt
        have c0 : wr.cell? (ad.add k) = some (.int .i32 (ns.getD k 0)) := (World.cell?_of_block (by rw [add_block]; exact hb.block _ hal)).trans hc
        have hp := posSum_bound (ns.take k) (fun x hx => HI.out x (List.mem_of_mem_take hx))
        rw [List.length_take] at hp
        have hx : -2147483648 ≤ ns.getD k 0 ∧ ns.getD k 0 ≤ 2147483647 := by
          rw [List.getD_eq_getElem?_getD, List.getElem?_eq_getElem hkn]
          exact HI.out _ (List.getElem_mem hkn)
        have ets : ns.take (k + 1) = ns.take k ++ [ns.getD k 0] := by rw [List.getD_eq_getElem?_getD, List.getElem?_eq_getElem hkn]; exact List.take_succ_eq_append_getElem hkn
        have er : posSum (ns.take (k + 1)) = posSum (ns.take k) + (if 0 < ns.getD k 0 then ns.getD k 0 else 0) := by
          rw [ets, posSum_append]; simp [posSum]
        have eb : rowB (b4 (ns.take (k + 1))) = rowB (b4 (ns.take k)) ++ leB 4 (ns.getD k 0) := by
          rw [ets, b4_append, rowB_append]; simp [rowB, b4]
        have hlen := b4_len (ns.take k)
        rw [List.length_take] at hlen
        have ER := Hd.mk er; have EB := Hd.mk eb; have HB := Hd.mk hb; have HO := Hd.mk hown
        generalize ns.getD k 0 = x at *
        generalize posSum (ns.take k) = S at *
        generalize rowB (b4 (ns.take k)) = R at *
        obtain ⟨p0, p1⟩ := hp
        obtain ⟨x0, x1⟩ := hx
        have p2 : S ≤ 2147483647000 := by omega
        have HLN := Hd.mk (show R.length ≤ 4 * 1000 by omega)
        clear er eb p1 ets hlen hown hb hc hal hkn
        go_wp2_with fail
        with_reducible refine (heBytes x 4 4 _ rfl (by omega) (by omega)).mono ?_
        rintro e w1 ⟨rfl, hb1, hl1⟩
        have HB1 := Hd.mk hb1; have HL1 := Hd.mk hl1
        have hown1 : w1.ownsRow w.heap.size 5 1 _ R.length (bc R) := HO.out.kept (row := none) ⟨hl1.os, hl1.tape, hl1.output, hl1.size, fun k hk _ => hl1.block k hk⟩ (by cases h : Value.ownBlock _ with | none => exact .inl rfl | some k => exact .inr (by simp))
        clear hb1 hl1
        go_wp2_with (at_builtin; refine wpList_append_own _ rfl _ _ 23 rfl w.heap.size 5 i0 (.int .u8 0) 1 1 Try.underlying23 I.out.1 I.out.2.1 I.out.2.2.1 I.out.2.2.2 rfl (by decide) _ _ _ rfl hown1 ⟨wr.heap.size, 0, none⟩ 4 4 (bc (leB 4 x)) rfl ?c0 ?c1 ?c2 ?c3 ?c4 ?c5 ?_)
        case c0 => simp [leB_len]
        case c1 =>
          intro j u hu
          exact HB1.out.cellz j (by simpa using hu)
        case c2 =>
          intro u hu
          obtain ⟨x, _, rfl⟩ := List.mem_map.1 hu
          rfl
        case c3 => have := HLN.out; unfold maxLen; omega
        case c4 => have := HLN.out; omega
        case c5 => exact Nat.le_trans HB.out.size HL1.out.size
        intro v' w2 hown' hgrow _
        have HO2 := Hd.mk hown'
        have HB2 := Hd.mk ((HB.out.trans (HL1.out.mono HB.out.size)).grown hgrow (Nat.le_trans HB.out.size HL1.out.size) (fun k hk => (hown1.lt k hk).1))
        clear hown' hgrow hown1 c0
        have eR : bc (R ++ leB 4 x) = bc R ++ bc (leB 4 x) := List.map_append
        have ER2 := Hd.mk eR
        clear eR
        by_cases hpos : 0 < x
        · go_wp2
          go_roundw
          case rel =>
            refine ⟨k + 1, by omega, by go_num, by rw [ER.out, if_pos hpos], ?_, HB2.out⟩
            rw [EB.out, List.length_append, leB_len, ER2.out]
            exact HO2.out
          case measure => simp [intOf]; omega
        · go_wp2
          go_roundw
          case rel =>
            refine ⟨k + 1, by omega, by go_num, by rw [ER.out, if_neg hpos]; simp, ?_, HB2.out⟩
            rw [EB.out, List.length_append, leB_len, ER2.out]
            exact HO2.out
          case measure => simp [intOf]; omega
      · obtain rfl : 30 = k := by omega
        have hall : ns.take 30 = ns := by have := HLEN.out; exact List.take_of_length_le (by omega)
        rw [hall] at hown
        have hlb := b4_len ns
        rw [hall]
        obtain ⟨A2, c2, rfl, r1, r2, r3, _, _⟩ := own_rd hown (by have := HLEN.out; omega)
        have C := Hd.mk (affectedOf A2 _ c2 (rowB (b4 ns)) ns 30 (by have := HLEN.out; omega) wr r3 r1 r2 (b4_byte ns) (by omega) (by have := HLEN.out; omega) HI.out (b4_num ns HI.out))
        have HB := Hd.mk hb
        clear hown hb hall hlb r1 r2 r3
        go_wp2_with fail
        with_reducible refine C.out.mono ?_
        rintro e w1 ⟨G, cs, rfl, hG, hgot, hge, hb⟩
        have HG := Hd.mk hG; have HGot := Hd.mk hgot; have HB1 := Hd.mk (HB.out.trans (hb.to.mono HB.out.size))
        have hnl : (ns.length : Int) = 30 := by have := HLEN.out; omega
        clear hG hgot hge hb C
        go_wp2
        go_loopw [65] (fun i wr => ∃ k : Nat, k ≤ 30 ∧ i = .int .i64 k ∧ wr = w1) (fun i _ => 30 - (intOf i).toNat)
        case atStart => exact ⟨0, by omega, by first | rfl | simp, rfl⟩
        case round =>
          obtain ⟨k, hk, rfl, rfl⟩ := hrel
          by_cases hlt : k < 30
          · obtain ⟨ad, rfl, hc, hal⟩ := HC.out k hlt
            have hkn : k < ns.length := by rw [HLEN.out]; exact hlt
            have c0 : wr.cell? (ad.add k) = some (.int .i32 (ns.getD k 0)) := (World.cell?_of_block (by rw [add_block]; exact HB1.out.block _ hal)).trans hc
            have c1 : wr.cell? ⟨G, k, none⟩ = some (.int .i32 (ns.getD k 0)) := HG.out.cell k (by rw [HGot.out.2 k hkn, if_pos hkn, List.getD_eq_getElem?_getD, List.getElem?_eq_getElem hkn]; rfl)
            generalize ns.getD k 0 = x at *
            clear hc hal hkn
            go_wp2
            go_roundw
            case rel => exact ⟨k + 1, by omega, by go_num, trivial⟩
            case measure => simp [intOf]; omega
          · obtain rfl : 30 = k := by omega
            have C2 := Hd.mk (affectedOf (some ⟨wr.heap.size, 0, none⟩) 4 4 [1, 0, 0, 0] [1] 1 rfl (wr.alloc (.cells #[.int .u8 1, .int .u8 0, .int .u8 0, .int .u8 0] 5)) (rd_four wr) (by omega) (by decide) (by simp) (by simp) (by simp) (by simp) (by simp [numL, leN, wrap32]))
            have HB3 := Hd.mk (HB1.out.alloc HB1.out.size (.cells #[.int .u8 1, .int .u8 0, .int .u8 0, .int .u8 0] 5))
            go_wp2_with fail
            with_reducible refine C2.out.mono ?_
            rintro e w3 ⟨G2, cs2, rfl, hG, hgot, hge, hb⟩
            have HB4 := Hd.mk (HB3.out.trans (hb.to.mono HB3.out.size))
            clear hG hgot hge hb C2
            go_wp2
            go_ret
            exact ⟨by simp [posSum], HB4.out⟩
theorem FnAffected (a : Option Addr) (len cap : Nat) (zs : List Int) (w : World) (h : (a = none ∧ len = 0 ∧ cap = 0 ∧ zs = []) ∨ ∃ x, a = some x ∧ len ≤ cap ∧ cap ≤ maxLen ∧ zs.length = cap ∧ (∀ i, i < zs.length → w.cell? (x.add i) = some (.int .i32 (zs.getD i 0))) ∧ ∀ n ∈ zs, (Lit.int .i32 n).wf = true) (hs : len * 4 ≤ 140737488351232) :
    Calls Try.prog 6 #[.slice a len cap] w fun e w' => e = .returned (.bool true) ∧ Below w.heap.size w w' := by
  by_cases hbig : len > 2147483647
  · have hbig' : (2147483647 : Int) < len := by omega
    clear h hs
    go_enter Try.func6, Try.ntmps6
    go_wp2
    go_ret
    exact ⟨rfl, Below.refl _ _⟩
  obtain ⟨m, hm⟩ : ∃ m : Nat, len ≤ 30 ∧ m = len ∨ 30 < len ∧ m = 30 := by
    by_cases h : len ≤ 30
    · exact ⟨len, .inl ⟨h, rfl⟩⟩
    · exact ⟨30, .inr ⟨by omega, rfl⟩⟩
  have hml : m ≤ len := by omega
  rcases h with ⟨rfl, rfl, rfl, rfl⟩ | ⟨x, rfl, h1, h2, h3, h4, h5⟩
  · obtain rfl : m = 0 := by omega
    exact law_affected none 0 0 0 [] w hm (by omega) (Nat.le_refl _) (by omega) rfl (by simp) (fun j hj => by omega)
  · unfold maxLen at h2
    refine law_affected (some x) len cap m (zs.take m) w hm (by omega) h1 h2 (by simp; omega) (fun y hy => ?_) (fun j hj => ⟨x, rfl, ?_, ?_⟩)
    · have := bounds_i32 (h5 y (List.mem_of_mem_take hy))
      omega
    · rw [h4 j (by omega)]
      simp [List.getD_eq_getElem?_getD, hj]
    · have := lt_of_cell (h4 j (by omega))
      rwa [add_block] at this
end Go.Proofs.Ytbohjafchfeheaa.Kb
