/- The Encoder's methods that write numbers of one, two, four and eight bytes. -/
import Derived.Test.YtnkengcajechbaaDoorEnc
namespace Go.Proofs.YtnkengcajechbaaDoor.Kb
open Go Go.RowKit
set_option linter.unusedVariables false
set_option linter.unusedSimpArgs false
set_option maxHeartbeats 1000000
theorem splice_get (Z : List Value) (l : List Int) (hZ : l.length ≤ Z.length) : ∀ j (hj : j < l.length), (splice Z 0 (bc l)).toArray[j]? = some (.int .u8 l[j]) := by
  intro j hj
  simp [splice, List.getElem?_append, hj]
theorem splice_len (Z : List Value) (l : List Int) (hZ : l.length ≤ Z.length) : (splice Z 0 (bc l)).length = Z.length := by
  rw [length_splice]
  simpa using hZ
set_option maxRecDepth 100000 in
theorem E_Byte (K : EK) (out : List Int) (x : Int) (w : World) (h : Enc K w out) (hn : out.length + 1 ≤ 1000000000) :
    Calls Tryd.prog 34 #[.pointer (some ⟨K.e, 0, none⟩), .int .u8 x] w fun e w' => e = .returned (.tuple #[]) ∧ Wrote K w out [x] w' := by
  obtain ⟨Z, hz, hZ⟩ := h.sc
  have c1 : w.cell? ⟨K.e, 1, none⟩ = some (.slice (some ⟨K.sb, 0, none⟩) 4096 4096) := h.blk.cell 1 rfl
  have z0 : 0 < Z.length := by omega
  have hn1 := h.n1
  have s0 : w.cell? ⟨K.sb, 0, none⟩ = some Z[0] := hZ.cell 0 (by simp)
  have f0 := hZ.free 0
  have hb := (Bel.refl w.heap.size [K.sb] w).set (p := ⟨K.sb, 0, none⟩) (.inr (by simp)) (.int .u8 x)
  have hZ1 : Blk (w.setCell ⟨K.sb, 0, none⟩ (.int .u8 x)) K.sb (Z.set 0 (.int .u8 x)).toArray 5 := (hZ.set 0 (.int .u8 x)).cast (by simp)
  have h1 := h.scr hb (Z.set 0 (.int .u8 x)) (by simpa using hz) hZ1
  have hR := rd_row hZ1 [x] (by intro j hj; simp at hj; subst hj; simp [z0]) (by simp)
  have c2 : (w.setCell ⟨K.sb, 0, none⟩ (.int .u8 x)).cell? ⟨K.e, 1, none⟩ = some (.slice (some ⟨K.sb, 0, none⟩) 4096 4096) := h1.blk.cell 1 rfl
  have C := Hd.mk (E_Bytes K out [x] _ h1 _ 1 4096 hR rfl hn)
  have HB := Hd.mk hb
  have HL := Hd.mk h.le
  clear h hZ hz hb hZ1 h1 hR
  generalize Z[0] = v0 at s0
  go_enter Tryd.func34, Tryd.ntmps34
  go_wp2_with fail
  with_reducible refine C.out.mono ?_
  rintro e w2 ⟨rfl, hw⟩
  have HW := Hd.mk hw
  clear hw C
  go_wp2
  go_end0
  exact ⟨rfl, wrote_of (HB.out.weak HL.out (by simp)) HW.out⟩
set_option maxRecDepth 100000 in
theorem E_Int8 (K : EK) (out : List Int) (x : Int) (w : World) (h : Enc K w out) (hn : out.length + 1 ≤ 1000000000) :
    Calls Tryd.prog 23 #[.pointer (some ⟨K.e, 0, none⟩), .int .i8 x] w fun e w' => e = .returned (.tuple #[]) ∧ Wrote K w out (leB 1 x) w' := by
  have C := Hd.mk (E_Byte K out (x % 256) w h hn)
  clear h
  go_enter Tryd.func23, Tryd.ntmps23
  go_wp2_with fail
  with_reducible refine C.out.mono ?_
  rintro e w2 ⟨rfl, hw⟩
  have HW := Hd.mk hw
  clear hw C
  go_wp2
  go_end0
  exact ⟨rfl, HW.out⟩
set_option maxRecDepth 100000 in
theorem E_Int16 (K : EK) (out : List Int) (x : Int) (w : World) (h : Enc K w out) (hn : out.length + 2 ≤ 1000000000) :
    Calls Tryd.prog 24 #[.pointer (some ⟨K.e, 0, none⟩), .int .i16 x] w fun e w' => e = .returned (.tuple #[]) ∧ Wrote K w out (leB 2 x) w' := by
  have u0 : 0 ≤ (x % 65536) := by omega
  have u1 : (x % 65536) < 65536 := by omega
  have uw : IntKind.u16.wrap x = (x % 65536) := by simp [IntKind.wrap, IntKind.bits, IntKind.signed]
  have em : leB 2 (x % 65536) = leB 2 x := leB_mod 2 x 2 (by omega)
  obtain ⟨Z, hz, hZ⟩ := h.sc
  have c1 : w.cell? ⟨K.e, 1, none⟩ = some (.slice (some ⟨K.sb, 0, none⟩) 4096 4096) := h.blk.cell 1 rfl
  have C := Hd.mk (put16 K.sb 2 4096 (x % 65536) Z.toArray 5 w.drew (by omega) (by simp; omega) u0 u1 hZ.drew)
  have H := Hd.mk h; have HZ := Hd.mk hz; have EM := Hd.mk em
  clear h hZ hz u0 u1 em
  go_enter Tryd.func24, Tryd.ntmps24
  go_wp2
  try rw [uw]
  go_still_tail 8, (by kernel_rfl)
  change wpList _ _ _ _ _ w.drew
  go_wp2_with fail
  with_reducible refine C.out.mono ?_
  rintro e w1 ⟨rfl, hb1, hbel⟩
  have hb := Bel.trans (Bel.refl w.heap.size [K.sb] w).drew hbel
  have hl : (leB 2 (x % 65536)).length ≤ Z.length := by rw [leB_len, HZ.out]; omega
  have he := H.out.scr hb (splice Z 0 (bc (leB 2 (x % 65536)))) (by rw [splice_len _ _ hl]; exact HZ.out) hb1
  have hR := rd_row hb1 (leB 2 (x % 65536)) (splice_get _ _ hl) (by rw [leB_len]; omega)
  rw [leB_len] at hR
  have d0 : w1.cell? ⟨K.e, 0, none⟩ = some (.pointer (some ⟨K.wr, 0, none⟩)) := he.blk.cell 0 rfl
  have d1 : w1.cell? ⟨K.e, 1, none⟩ = some (.slice (some ⟨K.sb, 0, none⟩) 4096 4096) := he.blk.cell 1 rfl
  have C2 := Hd.mk (W_Write K out (leB 2 (x % 65536)) w1.drew ⟨he.blk, he.sc, he.own, he.n1, he.n2, he.n3, he.l1, he.l2, he.l3, he.le, he.small⟩ _ 2 4096 ⟨hR.len, hR.small, hR.at_⟩ rfl hn)
  have HB := Hd.mk hb
  clear hb hb1 hbel hl he hR c1 C
  go_wp2
  go_still_tail 9, (by kernel_rfl)
  change wpList _ _ _ _ _ w1.drew
  go_wp2_with fail
  with_reducible refine C2.out.mono ?_
  rintro e w2 ⟨rfl, hw⟩
  have HW := Hd.mk hw
  clear hw d0 d1 C2
  go_wp2
  go_end0
  refine ⟨rfl, ?_⟩
  rw [← EM.out]
  exact wrote_of (HB.out.drew.weak H.out.le (by simp)) HW.out
set_option maxRecDepth 100000 in
theorem E_Uint32 (K : EK) (out : List Int) (x : Int) (w : World) (h : Enc K w out) (hn : out.length + 4 ≤ 1000000000) (h0 : 0 ≤ x) (h1 : x < 4294967296) :
    Calls Tryd.prog 22 #[.pointer (some ⟨K.e, 0, none⟩), .int .u32 x] w fun e w' => e = .returned (.tuple #[]) ∧ Wrote K w out (leB 4 x) w' := by
  have u0 := h0
  have u1 := h1
  have em : leB 4 x = leB 4 x := rfl
  obtain ⟨Z, hz, hZ⟩ := h.sc
  have c1 : w.cell? ⟨K.e, 1, none⟩ = some (.slice (some ⟨K.sb, 0, none⟩) 4096 4096) := h.blk.cell 1 rfl
  have C := Hd.mk (put32 K.sb 4 4096 x Z.toArray 5 w.drew (by omega) (by simp; omega) u0 u1 hZ.drew)
  have H := Hd.mk h; have HZ := Hd.mk hz; have EM := Hd.mk em
  clear h hZ hz u0 u1 em
  go_enter Tryd.func22, Tryd.ntmps22
  go_wp2
  go_still_tail 7, (by kernel_rfl)
  change wpList _ _ _ _ _ w.drew
  go_wp2_with fail
  with_reducible refine C.out.mono ?_
  rintro e w1 ⟨rfl, hb1, hbel⟩
  have hb := Bel.trans (Bel.refl w.heap.size [K.sb] w).drew hbel
  have hl : (leB 4 x).length ≤ Z.length := by rw [leB_len, HZ.out]; omega
  have he := H.out.scr hb (splice Z 0 (bc (leB 4 x))) (by rw [splice_len _ _ hl]; exact HZ.out) hb1
  have hR := rd_row hb1 (leB 4 x) (splice_get _ _ hl) (by rw [leB_len]; omega)
  rw [leB_len] at hR
  have d0 : w1.cell? ⟨K.e, 0, none⟩ = some (.pointer (some ⟨K.wr, 0, none⟩)) := he.blk.cell 0 rfl
  have d1 : w1.cell? ⟨K.e, 1, none⟩ = some (.slice (some ⟨K.sb, 0, none⟩) 4096 4096) := he.blk.cell 1 rfl
  have C2 := Hd.mk (W_Write K out (leB 4 x) w1.drew ⟨he.blk, he.sc, he.own, he.n1, he.n2, he.n3, he.l1, he.l2, he.l3, he.le, he.small⟩ _ 4 4096 ⟨hR.len, hR.small, hR.at_⟩ rfl hn)
  have HB := Hd.mk hb
  clear hb hb1 hbel hl he hR c1 C
  go_wp2
  go_still_tail 9, (by kernel_rfl)
  change wpList _ _ _ _ _ w1.drew
  go_wp2_with fail
  with_reducible refine C2.out.mono ?_
  rintro e w2 ⟨rfl, hw⟩
  have HW := Hd.mk hw
  clear hw d0 d1 C2
  go_wp2
  go_end0
  refine ⟨rfl, ?_⟩
  exact wrote_of (HB.out.drew.weak H.out.le (by simp)) HW.out
theorem zero_step (Z : List Value) (k : Nat) (hk : k < Z.length) : (splice Z 0 (bc (List.replicate k 0))).set k (.int .u8 0) = splice Z 0 (bc (List.replicate (k + 1) 0)) := by
  apply List.ext_getElem?
  intro j
  simp only [splice, bc, List.map_replicate, List.length_replicate, List.take_zero, List.nil_append, Nat.zero_add]
  rw [List.getElem?_set]
  by_cases h : k = j
  · subst h
    have hl : k < (List.replicate k (Value.int .u8 0) ++ Z.drop k).length := by simp; omega
    rw [if_pos rfl, if_pos hl]
    rw [List.getElem?_append_left (by simp), List.getElem?_replicate]
    simp
  · rw [if_neg h]
    rw [List.getElem?_append, List.getElem?_append]
    simp only [List.length_replicate, List.getElem?_replicate, List.getElem?_drop]
    by_cases h1 : j < k
    · simp [h1, show j < k + 1 by omega]
    · have h2 : ¬ j < k + 1 := by omega
      simp only [h1, h2, if_false]
      congr 1
      omega
set_option maxRecDepth 100000 in
theorem E_Zeroes (K : EK) (out : List Int) (n : Nat) (m : Int) (w : World) (hm : m = n) (h : Enc K w out) (n0 : 0 < n) (n1 : n ≤ 4096) (hn : out.length + n ≤ 1000000000) :
    Calls Tryd.prog 25 #[.pointer (some ⟨K.e, 0, none⟩), .int .i64 m] w fun e w' => e = .returned (.tuple #[]) ∧ Wrote K w out (List.replicate n 0) w' := by
  subst hm
  obtain ⟨Z, hz, hZ⟩ := h.sc
  have c1 : w.cell? ⟨K.e, 1, none⟩ = some (.slice (some ⟨K.sb, 0, none⟩) 4096 4096) := h.blk.cell 1 rfl
  have H := Hd.mk h; have HZ := Hd.mk hz; have HZ2 := Hd.mk hZ
  clear h hZ hz
  go_enter Tryd.func25, Tryd.ntmps25
  go_wp2
  go_loopw [5] (fun i wr => ∃ k : Nat, k ≤ n ∧ i = .int .i64 k ∧ Blk wr K.sb (splice Z 0 (bc (List.replicate k 0))).toArray 5 ∧ Bel w.heap.size [K.sb] w wr) (fun i _ => n - (intOf i).toNat)
  case atStart => exact ⟨0, by omega, rfl, HZ2.out.cast (by simp [splice]), Bel.refl _ _ _⟩
  case round =>
    obtain ⟨k, hk, rfl, hb, hbel⟩ := hrel
    have hl : (bc (List.replicate k 0)).length ≤ Z.length := by simp [HZ.out]; omega
    have he := H.out.scr hbel (splice Z 0 (bc (List.replicate k 0))) (by rw [splice_len _ _ (by simpa using hl)]; exact HZ.out) hb
    have d1 : wr.cell? ⟨K.e, 1, none⟩ = some (.slice (some ⟨K.sb, 0, none⟩) 4096 4096) := he.blk.cell 1 rfl
    have d0 : wr.cell? ⟨K.e, 0, none⟩ = some (.pointer (some ⟨K.wr, 0, none⟩)) := he.blk.cell 0 rfl
    by_cases hlt : k < n
    · have hsz : (splice Z 0 (bc (List.replicate k 0))).length = 4096 := by rw [splice_len _ _ (by simpa using hl)]; exact HZ.out
      have s0 : ∃ v, wr.cell? ⟨K.sb, k, none⟩ = some v := ⟨_, hb.cell k (Array.getElem?_eq_getElem (by rw [List.size_toArray, hsz]; omega))⟩
      obtain ⟨v, s0⟩ := s0
      have f0 := hb.free k
      have HB := Hd.mk hb; have HL := Hd.mk hbel
      clear hb hbel he hl hsz
      go_wp2
      go_roundw
      case rel =>
        refine ⟨k + 1, by omega, by go_num, (HB.out.set k _).cast ?_, HL.out.set (.inr (by simp)) _⟩
        apply Array.ext'
        rw [Array.toList_setIfInBounds]
        exact zero_step Z k (by rw [HZ.out]; omega)
      case measure => simp [intOf]; omega
    · obtain rfl : k = n := by omega
      have hR := rd_row hb (List.replicate k 0) (splice_get _ _ (by simpa using hl)) (by simp; omega)
      rw [List.length_replicate] at hR
      have C2 := Hd.mk (W_Write K out (List.replicate k 0) wr.drew ⟨he.blk, he.sc, he.own, he.n1, he.n2, he.n3, he.l1, he.l2, he.l3, he.le, he.small⟩ _ k 4096 ⟨hR.len, hR.small, hR.at_⟩ rfl hn)
      have HL := Hd.mk hbel
      clear hb hbel he hl hR
      go_wp2
      refine wp_loop_rounds 2 ?_
      rw [rounds_succ]
      go_wp2
      go_region_with (go_at_call 33; (with_reducible refine C2.out.mono ?_); rintro e w2 ⟨rfl, hw⟩)
      all_goals
        have HW := Hd.mk hw
        clear hw d0 d1 C2
        go_wp2_with fail
        rw [rounds_succ]
        go_wp2
        go_end0
        exact ⟨rfl, wrote_of (HL.out.drew.weak H.out.le (by simp)) HW.out⟩
end Go.Proofs.YtnkengcajechbaaDoor.Kb
