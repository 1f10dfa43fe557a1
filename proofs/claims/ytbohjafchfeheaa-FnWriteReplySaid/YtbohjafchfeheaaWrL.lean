/- The walk of FnWriteReply: the law. -/
import Derived.Test.YtbohjafchfeheaaWr
import Derived.Lib.SmallJoins
import Derived.Laws.OwnMore
namespace Go.Proofs.Ytbohjafchfeheaa.Kb
open Go Go.RowKit Go.Joins
set_option linter.unusedVariables false
set_option linter.unusedSimpArgs false
set_option maxHeartbeats 1000000
/-- Numbers of eight bytes each. -/
def b8 (ns : List Int) : List (Int × Nat) := ns.map fun x => (x, 8)
theorem b8_append (a b : List Int) : b8 (a ++ b) = b8 a ++ b8 b := List.map_append
theorem b8_len (ns : List Int) : (rowB (b8 ns)).length = 8 * ns.length := by
  induction ns with
  | nil => rfl
  | cons x r ih =>
    have e : rowB (b8 (x :: r)) = leB 8 x ++ rowB (b8 r) := rfl
    rw [e, List.length_append, leB_len, ih, List.length_cons]; omega
theorem b8_byte (ns : List Int) : ∀ x ∈ rowB (b8 ns), 0 ≤ x ∧ x < 256 := by
  induction ns with
  | nil => intro x hx; simp [rowB, b8] at hx
  | cons x r ih =>
    have e : rowB (b8 (x :: r)) = leB 8 x ++ rowB (b8 r) := rfl
    rw [e]
    exact bytes_append (leB_byte _ _) ih
theorem b8_num (ns : List Int) (h : ∀ x ∈ ns, 0 ≤ x ∧ x ≤ 18446744073709551615) : ∀ i (hi : i < ns.length), numL (rowB (b8 ns)) (8 * i) 8 = ns[i] := by
  induction ns with
  | nil => intro i hi; simp at hi
  | cons x r ih =>
    intro i hi
    have e : rowB (b8 (x :: r)) = leB 8 x ++ rowB (b8 r) := rfl
    rw [e]
    match i, hi with
    | 0, _ =>
      have hx := h x List.mem_cons_self
      rw [Nat.mul_zero, num_here]
      have e8 : ((256 ^ 8 : Nat) : Int) = 18446744073709551616 := by decide
      rw [e8]
      show _ = x
      omega
    | i + 1, hi =>
      have e5 : 8 * (i + 1) = 8 + 8 * i := by omega
      rw [e5, num_next 8 8 (8 * i)]
      exact ih (fun y hy => h y (List.mem_cons_of_mem _ hy)) i (by simpa using hi)
theorem leB_wrap64 (x : Int) : leB 8 (wrap64 x) = leB 8 x := by
  have e8 : ((256 ^ 8 : Nat) : Int) = 18446744073709551616 := by decide
  rw [← leB_mod 8 (wrap64 x) 8 (by omega), ← leB_mod 8 x 8 (by omega), e8]
  congr 1
  unfold wrap64; omega
theorem rd_eight (w : World) : Rd (w.alloc (.cells #[.int .u8 1, .int .u8 0, .int .u8 0, .int .u8 0, .int .u8 0, .int .u8 0, .int .u8 0, .int .u8 0] 5)) [] (some ⟨w.heap.size, 0, none⟩) 8 [1, 0, 0, 0, 0, 0, 0, 0] := by
  have hb := Blk.new w #[.int .u8 1, .int .u8 0, .int .u8 0, .int .u8 0, .int .u8 0, .int .u8 0, .int .u8 0, .int .u8 0] 5
  refine ⟨rfl, by omega, fun j hj => ⟨_, rfl, ?_, by simp, by simp⟩⟩
  simp at hj
  rcases (by omega : j = 0 ∨ j = 1 ∨ j = 2 ∨ j = 3 ∨ j = 4 ∨ j = 5 ∨ j = 6 ∨ j = 7) with rfl | rfl | rfl | rfl | rfl | rfl | rfl | rfl <;> exact hb.cellz _ rfl
set_option maxRecDepth 100000 in
theorem law_writeReply (A : Option Addr) (n c m : Nat) (ns : List Int) (w : World) (hm : n ≤ 30 ∧ m = n ∨ 30 < n ∧ m = 30) (hbig : n ≤ 2147483647) (hnc : n ≤ c) (hcc : c ≤ 9223372036854775807) (hlen : ns.length = m) (hi : ∀ x ∈ ns, 0 ≤ x ∧ x ≤ 18446744073709551615)
    (hcell : ∀ j, j < m → ∃ ad, A = some ad ∧ w.cell? (ad.add j) = some (.int .u64 (ns.getD j 0)) ∧ ad.block < w.heap.size) :
    Calls Try.prog 3 #[.slice A n c] w fun e w' => e = .returned (.bool true) ∧ Below w.heap.size w w' := by
  obtain ⟨i0, hi0, hz0, hz1, hz2⟩ := info_of infoB
  have I := Hd.mk (And.intro hi0 (And.intro hz0 (And.intro hz1 hz2)))
  have hnb : ¬ (2147483647 : Int) < n := by omega
  have HC := Hd.mk hcell; have HI := Hd.mk hi; have HLEN := Hd.mk hlen
  clear hcell hi hlen hi0 hz0 hz1 hz2
  rcases hm with ⟨hm, rfl⟩ | ⟨hm, rfl⟩
  · have hmi : min (m : Int) 30 = m := by omega
    go_enter Try.func3, Try.ntmps3
    go_wp2
    go_loopw [3, 22] (fun v i wr => ∃ k : Nat, k ≤ m ∧ i = .int .i64 k ∧ wr.ownsRow w.heap.size 5 1 v (rowB (b8 (ns.take k))).length (bc (rowB (b8 (ns.take k)))) ∧ Below w.heap.size w wr) (fun _ i _ => m - (intOf i).toNat)
    case atStart => exact ⟨0, by omega, rfl, by simpa [rowB, b8] using World.ownsRow_nil _ _ _ _, Below.refl _ _⟩
    case round =>
      obtain ⟨k, hk, rfl, hown, hb⟩ := hrel
      by_cases hlt : k < m
      · obtain ⟨ad, rfl, hc, hal⟩ := HC.out k hlt
        have hkn : k < ns.length := by rw [HLEN.out]; exact hlt
        have c0 : wr.cell? (ad.add k) = some (.int .u64 (ns.getD k 0)) := (World.cell?_of_block (by rw [add_block]; exact hb.block _ hal)).trans hc
        have ets : ns.take (k + 1) = ns.take k ++ [ns.getD k 0] := by rw [List.getD_eq_getElem?_getD, List.getElem?_eq_getElem hkn]; exact List.take_succ_eq_append_getElem hkn
        have eb : rowB (b8 (ns.take (k + 1))) = rowB (b8 (ns.take k)) ++ leB 8 (ns.getD k 0) := by
          rw [ets, b8_append, rowB_append]; simp [rowB, b8]
        have hlen := b8_len (ns.take k)
        rw [List.length_take] at hlen
        have EB := Hd.mk eb; have HB := Hd.mk hb; have HO := Hd.mk hown
        generalize ns.getD k 0 = x at *
        generalize rowB (b8 (ns.take k)) = R at *
        have HLN := Hd.mk (show R.length ≤ 8 * 1000 by omega)
        clear eb ets hlen hown hb hc hal hkn
        go_wp2_with fail
        with_reducible refine (heBytes (wrap64 x) 8 8 _ rfl (by omega) (by omega)).mono ?_
        rw [leB_wrap64]
        rintro e w1 ⟨rfl, hb1, hl1⟩
        have HB1 := Hd.mk hb1; have HL1 := Hd.mk hl1
        have hown1 : w1.ownsRow w.heap.size 5 1 _ R.length (bc R) := HO.out.kept (row := none) ⟨hl1.os, hl1.tape, hl1.output, hl1.size, fun k hk _ => hl1.block k hk⟩ (by cases h : Value.ownBlock _ with | none => exact .inl rfl | some k => exact .inr (by simp))
        clear hb1 hl1
        go_wp2_with (at_builtin; refine wpList_append_own _ rfl _ _ 23 rfl w.heap.size 5 i0 (.int .u8 0) 1 1 Try.underlying23 I.out.1 I.out.2.1 I.out.2.2.1 I.out.2.2.2 rfl (by decide) _ _ _ rfl hown1 ⟨wr.heap.size, 0, none⟩ 8 8 (bc (leB 8 x)) rfl ?c0 ?c1 ?c2 ?c3 ?c4 ?c5 ?_)
        case c0 => simp [leB_len]
        case c1 =>
          intro j u hu
          exact HB1.out.cellz j (by simpa using hu)
        case c2 =>
          intro u hu
          obtain ⟨x, _, rfl⟩ := List.mem_map.1 hu
          rfl
        case c3 => have := HLN.out; unfold maxLen; omega
        case c4 => have := HLN.out; omega
        case c5 => exact Nat.le_trans HB.out.size HL1.out.size
        intro v' w2 hown' hgrow _
        have HO2 := Hd.mk hown'
        have HB2 := Hd.mk ((HB.out.trans (HL1.out.mono HB.out.size)).grown hgrow (Nat.le_trans HB.out.size HL1.out.size) (fun k hk => (hown1.lt k hk).1))
        clear hown' hgrow hown1 c0
        have eR : bc (R ++ leB 8 x) = bc R ++ bc (leB 8 x) := List.map_append
        have ER2 := Hd.mk eR
        clear eR
        go_wp2
        go_roundw
        case rel =>
          refine ⟨k + 1, by omega, by go_num, ?_, HB2.out⟩
          rw [EB.out, List.length_append, leB_len, ER2.out]
          exact HO2.out
        case measure => simp [intOf]; omega
      · obtain rfl : m = k := by omega
        have hall : ns.take m = ns := by have := HLEN.out; exact List.take_of_length_le (by omega)
        rw [hall] at hown
        have hlb := b8_len ns
        obtain ⟨A2, c2, rfl, r1, r2, r3, _, _⟩ := own_rd hown (by have := HLEN.out; omega)
        have C := Hd.mk (writeReplyOf A2 _ c2 (rowB (b8 ns)) ns m (by have := HLEN.out; omega) wr r3 r1 r2 (b8_byte ns) (by omega) (by have := HLEN.out; omega) (b8_num ns HI.out))
        have HB := Hd.mk hb
        clear hown hb hall hlb r1 r2 r3
        go_wp2_with fail
        with_reducible refine C.out.mono ?_
        rintro e w1 ⟨v, rfl, hown, hb⟩
        have HO := Hd.mk hown; have HB1 := Hd.mk (HB.out.trans (hb.to.mono HB.out.size))
        have hnl : (ns.length : Int) = m := by have := HLEN.out; omega
        rcases ownsRow_forms hown with ⟨rfl, h0⟩ | ⟨G, cap, rfl⟩
        all_goals
          clear hown hb C
        · skip
          have hz : m = 0 := by have := HLEN.out; omega
          go_wp2
          go_loopw [50] (fun i wr => ∃ k : Nat, k ≤ m ∧ i = .int .i64 k ∧ wr = w1) (fun i _ => m - (intOf i).toNat)
          case atStart => exact ⟨0, by omega, by first | rfl | simp, rfl⟩
          case round =>
            obtain ⟨k, hk, rfl, rfl⟩ := hrel
            by_cases hlt : k < m
            · omega
            · obtain rfl : m = k := by omega
              have C2 := Hd.mk (writeReplyOf (some ⟨wr.heap.size, 0, none⟩) 8 8 [1, 0, 0, 0, 0, 0, 0, 0] [1] 1 rfl (wr.alloc (.cells #[.int .u8 1, .int .u8 0, .int .u8 0, .int .u8 0, .int .u8 0, .int .u8 0, .int .u8 0, .int .u8 0] 5)) (rd_eight wr) (by omega) (by decide) (by simp) (by simp) (by simp) (by simp [numL, leN]))
              have HB3 := Hd.mk (HB1.out.alloc HB1.out.size (.cells #[.int .u8 1, .int .u8 0, .int .u8 0, .int .u8 0, .int .u8 0, .int .u8 0, .int .u8 0, .int .u8 0] 5))
              go_wp2_with fail
              with_reducible refine C2.out.mono ?_
              rintro e w3 ⟨v3, rfl, hown3, hb⟩
              have HB4 := Hd.mk (HB3.out.trans (hb.to.mono HB3.out.size))
              obtain ⟨G3, cap3, rfl⟩ := ownsRow_form hown3 (by decide)
              clear hown3 hb C2
              go_wp2
              go_ret
              exact ⟨by simp, HB4.out⟩
        · have hcell : ∀ k, k < m → w1.cell? ⟨G, k, none⟩ = some (.int .u64 (ns.getD k 0)) := by
            intro k hk
            have hkn : k < ns.length := by rw [HLEN.out]; exact hk
            rw [HO.out.cellAt k (by omega)]
            simp [List.getD_eq_getElem?_getD, hkn]
          have HCL := Hd.mk hcell
          clear hcell
          go_wp2
          go_loopw [50] (fun i wr => ∃ k : Nat, k ≤ m ∧ i = .int .i64 k ∧ wr = w1) (fun i _ => m - (intOf i).toNat)
          case atStart => exact ⟨0, by omega, by first | rfl | simp, rfl⟩
          case round =>
            obtain ⟨k, hk, rfl, rfl⟩ := hrel
            by_cases hlt : k < m
            · obtain ⟨ad, rfl, hc, hal⟩ := HC.out k hlt
              have c0 : wr.cell? (ad.add k) = some (.int .u64 (ns.getD k 0)) := (World.cell?_of_block (by rw [add_block]; exact HB1.out.block _ hal)).trans hc
              have c1 : wr.cell? ⟨G, k, none⟩ = some (.int .u64 (ns.getD k 0)) := HCL.out k hlt
              generalize ns.getD k 0 = x at *
              clear hc hal
              go_wp2
              go_roundw
              case rel => exact ⟨k + 1, by omega, by go_num, trivial⟩
              case measure => simp [intOf]; omega
            · obtain rfl : m = k := by omega
              have C2 := Hd.mk (writeReplyOf (some ⟨wr.heap.size, 0, none⟩) 8 8 [1, 0, 0, 0, 0, 0, 0, 0] [1] 1 rfl (wr.alloc (.cells #[.int .u8 1, .int .u8 0, .int .u8 0, .int .u8 0, .int .u8 0, .int .u8 0, .int .u8 0, .int .u8 0] 5)) (rd_eight wr) (by omega) (by decide) (by simp) (by simp) (by simp) (by simp [numL, leN]))
              have HB3 := Hd.mk (HB1.out.alloc HB1.out.size (.cells #[.int .u8 1, .int .u8 0, .int .u8 0, .int .u8 0, .int .u8 0, .int .u8 0, .int .u8 0, .int .u8 0] 5))
              go_wp2_with fail
              with_reducible refine C2.out.mono ?_
              rintro e w3 ⟨v3, rfl, hown3, hb⟩
              have HB4 := Hd.mk (HB3.out.trans (hb.to.mono HB3.out.size))
              obtain ⟨G3, cap3, rfl⟩ := ownsRow_form hown3 (by decide)
              clear hown3 hb C2
              go_wp2
              go_ret
              exact ⟨by simp, HB4.out⟩
  · have hmi : min (n : Int) 30 = 30 := by omega
    go_enter Try.func3, Try.ntmps3
    go_wp2
    go_loopw [3, 22] (fun v i wr => ∃ k : Nat, k ≤ 30 ∧ i = .int .i64 k ∧ wr.ownsRow w.heap.size 5 1 v (rowB (b8 (ns.take k))).length (bc (rowB (b8 (ns.take k)))) ∧ Below w.heap.size w wr) (fun _ i _ => 30 - (intOf i).toNat)
    case atStart => exact ⟨0, by omega, rfl, by simpa [rowB, b8] using World.ownsRow_nil _ _ _ _, Below.refl _ _⟩
    case round =>
      obtain ⟨k, hk, rfl, hown, hb⟩ := hrel
      by_cases hlt : k < 30
      · obtain ⟨ad, rfl, hc, hal⟩ := HC.out k hlt
        have hkn : k < ns.length := by rw [HLEN.out]; exact hlt
        have c0 : wr.cell? (ad.add k) = some (.int .u64 (ns.getD k 0)) := (World.cell?_of_block (by rw [add_block]; exact hb.block _ hal)).trans hc
        have ets : ns.take (k + 1) = ns.take k ++ [ns.getD k 0] := by rw [List.getD_eq_getElem?_getD, List.getElem?_eq_getElem hkn]; exact List.take_succ_eq_append_getElem hkn
        have eb : rowB (b8 (ns.take (k + 1))) = rowB (b8 (ns.take k)) ++ leB 8 (ns.getD k 0) := by
          rw [ets, b8_append, rowB_append]; simp [rowB, b8]
        have hlen := b8_len (ns.take k)
        rw [List.length_take] at hlen
        have EB := Hd.mk eb; have HB := Hd.mk hb; have HO := Hd.mk hown
        generalize ns.getD k 0 = x at *
        generalize rowB (b8 (ns.take k)) = R at *
        have HLN := Hd.mk (show R.length ≤ 8 * 1000 by omega)
        clear eb ets hlen hown hb hc hal hkn
        go_wp2_with fail
        with_reducible refine (heBytes (wrap64 x) 8 8 _ rfl (by omega) (by omega)).mono ?_
        rw [leB_wrap64]
        rintro e w1 ⟨rfl, hb1, hl1⟩
        have HB1 := Hd.mk hb1; have HL1 := Hd.mk hl1
        have hown1 : w1.ownsRow w.heap.size 5 1 _ R.length (bc R) := HO.out.kept (row := none) ⟨hl1.os, hl1.tape, hl1.output, hl1.size, fun k hk _ => hl1.block k hk⟩ (by cases h : Value.ownBlock _ with | none => exact .inl rfl | some k => exact .inr (by simp))
        clear hb1 hl1
        go_wp2_with (at_builtin; refine wpList_append_own _ rfl _ _ 23 rfl w.heap.size 5 i0 (.int .u8 0) 1 1 Try.underlying23 I.out.1 I.out.2.1 I.out.2.2.1 I.out.2.2.2 rfl (by decide) _ _ _ rfl hown1 ⟨wr.heap.size, 0, none⟩ 8 8 (bc (leB 8 x)) rfl ?c0 ?c1 ?c2 ?c3 ?c4 ?c5 ?_)
        case c0 => simp [leB_len]
        case c1 =>
          intro j u hu
          exact HB1.out.cellz j (by simpa using hu)
        case c2 =>
          intro u hu
          obtain ⟨x, _, rfl⟩ := List.mem_map.1 hu
          rfl
        case c3 => have := HLN.out; unfold maxLen; omega
        case c4 => have := HLN.out; omega
        case c5 => exact Nat.le_trans HB.out.size HL1.out.size
        intro v' w2 hown' hgrow _
        have HO2 := Hd.mk hown'
        have HB2 := Hd.mk ((HB.out.trans (HL1.out.mono HB.out.size)).grown hgrow (Nat.le_trans HB.out.size HL1.out.size) (fun k hk => (hown1.lt k hk).1))
        clear hown' hgrow hown1 c0
        have eR : bc (R ++ leB 8 x) = bc R ++ bc (leB 8 x) := List.map_append
        have ER2 := Hd.mk eR
        clear eR
        go_wp2
        go_roundw
        case rel =>
          refine ⟨k + 1, by omega, by go_num, ?_, HB2.out⟩
          rw [EB.out, List.length_append, leB_len, ER2.out]
          exact HO2.out
        case measure => simp [intOf]; omega
      · obtain rfl : 30 = k := by omega
        have hall : ns.take 30 = ns := by have := HLEN.out; exact List.take_of_length_le (by omega)
        rw [hall] at hown
        have hlb := b8_len ns
        obtain ⟨A2, c2, rfl, r1, r2, r3, _, _⟩ := own_rd hown (by have := HLEN.out; omega)
        have C := Hd.mk (writeReplyOf A2 _ c2 (rowB (b8 ns)) ns 30 (by have := HLEN.out; omega) wr r3 r1 r2 (b8_byte ns) (by omega) (by have := HLEN.out; omega) (b8_num ns HI.out))
        have HB := Hd.mk hb
        clear hown hb hall hlb r1 r2 r3
        go_wp2_with fail
        with_reducible refine C.out.mono ?_
        rintro e w1 ⟨v, rfl, hown, hb⟩
        have HO := Hd.mk hown; have HB1 := Hd.mk (HB.out.trans (hb.to.mono HB.out.size))
        have hnl : (ns.length : Int) = 30 := by have := HLEN.out; omega
        rcases ownsRow_forms hown with ⟨rfl, h0⟩ | ⟨G, cap, rfl⟩
        all_goals
          clear hown hb C
        · skip
          exact absurd h0 (by have := HLEN.out; omega)
        · have hcell : ∀ k, k < 30 → w1.cell? ⟨G, k, none⟩ = some (.int .u64 (ns.getD k 0)) := by
            intro k hk
            have hkn : k < ns.length := by rw [HLEN.out]; exact hk
            rw [HO.out.cellAt k (by omega)]
            simp [List.getD_eq_getElem?_getD, hkn]
          have HCL := Hd.mk hcell
          clear hcell
          go_wp2
          go_loopw [50] (fun i wr => ∃ k : Nat, k ≤ 30 ∧ i = .int .i64 k ∧ wr = w1) (fun i _ => 30 - (intOf i).toNat)
          case atStart => exact ⟨0, by omega, by first | rfl | simp, rfl⟩
          case round =>
            obtain ⟨k, hk, rfl, rfl⟩ := hrel
            by_cases hlt : k < 30
            · obtain ⟨ad, rfl, hc, hal⟩ := HC.out k hlt
              have c0 : wr.cell? (ad.add k) = some (.int .u64 (ns.getD k 0)) := (World.cell?_of_block (by rw [add_block]; exact HB1.out.block _ hal)).trans hc
              have c1 : wr.cell? ⟨G, k, none⟩ = some (.int .u64 (ns.getD k 0)) := HCL.out k hlt
              generalize ns.getD k 0 = x at *
              clear hc hal
              go_wp2
              go_roundw
              case rel => exact ⟨k + 1, by omega, by go_num, trivial⟩
              case measure => simp [intOf]; omega
            · obtain rfl : 30 = k := by omega
              have C2 := Hd.mk (writeReplyOf (some ⟨wr.heap.size, 0, none⟩) 8 8 [1, 0, 0, 0, 0, 0, 0, 0] [1] 1 rfl (wr.alloc (.cells #[.int .u8 1, .int .u8 0, .int .u8 0, .int .u8 0, .int .u8 0, .int .u8 0, .int .u8 0, .int .u8 0] 5)) (rd_eight wr) (by omega) (by decide) (by simp) (by simp) (by simp) (by simp [numL, leN]))
              have HB3 := Hd.mk (HB1.out.alloc HB1.out.size (.cells #[.int .u8 1, .int .u8 0, .int .u8 0, .int .u8 0, .int .u8 0, .int .u8 0, .int .u8 0, .int .u8 0] 5))
              go_wp2_with fail
              with_reducible refine C2.out.mono ?_
              rintro e w3 ⟨v3, rfl, hown3, hb⟩
              have HB4 := Hd.mk (HB3.out.trans (hb.to.mono HB3.out.size))
              obtain ⟨G3, cap3, rfl⟩ := ownsRow_form hown3 (by decide)
              clear hown3 hb C2
              go_wp2
              go_ret
              exact ⟨by simp, HB4.out⟩
theorem FnWriteReply (a : Option Addr) (len cap : Nat) (zs : List Int) (w : World) (h : (a = none ∧ len = 0 ∧ cap = 0 ∧ zs = []) ∨ ∃ x, a = some x ∧ len ≤ cap ∧ cap ≤ maxLen ∧ zs.length = cap ∧ (∀ i, i < zs.length → w.cell? (x.add i) = some (.int .u64 (zs.getD i 0))) ∧ ∀ n ∈ zs, (Lit.int .u64 n).wf = true) (hs : len * 8 ≤ 140737488351232) :
    Calls Try.prog 3 #[.slice a len cap] w fun e w' => e = .returned (.bool true) ∧ Below w.heap.size w w' := by
  by_cases hbig : len > 2147483647
  · have hbig' : (2147483647 : Int) < len := by omega
    clear h hs
    go_enter Try.func3, Try.ntmps3
    go_wp2
    go_ret
    exact ⟨rfl, Below.refl _ _⟩
  obtain ⟨m, hm⟩ : ∃ m : Nat, len ≤ 30 ∧ m = len ∨ 30 < len ∧ m = 30 := by
    by_cases h : len ≤ 30
    · exact ⟨len, .inl ⟨h, rfl⟩⟩
    · exact ⟨30, .inr ⟨by omega, rfl⟩⟩
  have hml : m ≤ len := by omega
  rcases h with ⟨rfl, rfl, rfl, rfl⟩ | ⟨x, rfl, h1, h2, h3, h4, h5⟩
  · obtain rfl : m = 0 := by omega
    exact law_writeReply none 0 0 0 [] w hm (by omega) (Nat.le_refl _) (by omega) rfl (by simp) (fun j hj => by omega)
  · unfold maxLen at h2
    refine law_writeReply (some x) len cap m (zs.take m) w hm (by omega) h1 h2 (by simp; omega) (fun y hy => ?_) (fun j hj => ⟨x, rfl, ?_, ?_⟩)
    · have := bounds_u64 (h5 y (List.mem_of_mem_take hy))
      omega
    · rw [h4 j (by omega)]
      simp [List.getD_eq_getElem?_getD, hj]
    · have := lt_of_cell (h4 j (by omega))
      rwa [add_block] at this
end Go.Proofs.Ytbohjafchfeheaa.Kb
