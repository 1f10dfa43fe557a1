/- The walk of FnLengthBytes: what the specification says of lengths, and the law. -/
import Derived.Test.YtbohjafchfeheaaVar
import Derived.Test.YtbohjafchfeheaaPack
namespace Go.Proofs.Ytbohjafchfeheaa.Kb
open Go Go.RowKit
set_option linter.unusedVariables false
set_option linter.unusedSimpArgs false
set_option maxHeartbeats 1000000
set_option maxRecDepth 100000 in
theorem heLength (n : Int) (w : World) (h0 : 0 ≤ n) (h1 : n ≤ 1073741824) :
    Calls Try.prog 24 #[.int .i64 n] w fun e w' => Made w (lenB n) e w' := by
  obtain ⟨i0, hi, hz0, hz1, hz2⟩ := info_of infoB
  have I := Hd.mk (And.intro hi (And.intro hz0 (And.intro hz1 hz2)))
  clear hi hz0 hz1 hz2
  unfold lenB
  by_cases k1 : n ≤ 245
  · rw [if_pos k1]
    have hb0 : Below w.heap.size w (w.alloc (.cells #[.int .u8 n] 5)) := (Below.refl _ _).alloc (Nat.le_refl _) _
    have ho0 := World.ownsRow_lit (base := w.heap.size) (e := 5) (size := 1) w #[.int .u8 n] 1 (Nat.le_refl _) (by decide) rfl
    go_enter Try.func24, Try.ntmps24
    go_wp2
    refine bodyPost_ret (v := .slice (some ⟨w.heap.size, 0, none⟩) 1 1) (by simp [results, Try.results24, go_sem]) rfl ⟨_, rfl, ho0, hb0⟩
  rw [if_neg k1]
  by_cases k2 : n ≤ 32767
  · rw [if_pos k2]
    have hb0 : Below w.heap.size w (w.alloc (.cells #[.int .u8 246] 5)) := (Below.refl _ _).alloc (Nat.le_refl _) _
    have ho0 := World.ownsRow_lit (base := w.heap.size) (e := 5) (size := 1) w #[.int .u8 246] 1 (Nat.le_refl _) (by decide) rfl
    have HB0 := Hd.mk hb0; have HO0 := Hd.mk ho0
    clear hb0 ho0
    go_enter Try.func24, Try.ntmps24
    go_wp2_with fail
    with_reducible refine (heBytes n 2 2 _ rfl (by omega) (by omega)).mono ?_
    rintro e w1 ⟨rfl, hb1, hl1⟩
    have hown1 : w1.ownsRow w.heap.size 5 1 (.slice (some ⟨w.heap.size, 0, none⟩) 1 1) 1 [.int .u8 246] := HO0.out.kept (row := none) ⟨hl1.os, hl1.tape, hl1.output, hl1.size, fun k hk _ => hl1.block k hk⟩ (.inr (by simp [Value.ownBlock]))
    have HB1 := Hd.mk hb1; have HL1 := Hd.mk hl1
    clear hb1 hl1
    simp only [World.size_alloc] at HB1
    go_wp2_with (at_builtin; refine wpList_append_own _ rfl _ _ 23 rfl w.heap.size 5 i0 (.int .u8 0) 1 1 Try.underlying23 I.out.1 I.out.2.1 I.out.2.2.1 I.out.2.2.2 rfl (by decide) _ _ _ rfl hown1 ⟨w.heap.size + 1, 0, none⟩ 2 2 (bc (leB 2 n)) rfl ?c0 ?c1 ?c2 ?c3 ?c4 ?c5 ?_)
    case c0 => simp [leB_len]
    case c1 =>
      intro j u hu
      exact HB1.out.cellz j (by simpa using hu)
    case c2 =>
      intro u hu
      obtain ⟨x, _, rfl⟩ := List.mem_map.1 hu
      rfl
    case c3 => unfold maxLen; omega
    case c4 => omega
    case c5 => exact Nat.le_trans HB0.out.size HL1.out.size
    intro v' w2 hown' hgrow _
    have HO2 := Hd.mk hown'
    have HB2 := Hd.mk ((HB0.out.trans (HL1.out.mono HB0.out.size)).grown hgrow (Nat.le_trans HB0.out.size HL1.out.size) (fun k hk => (hown1.lt k hk).1))
    clear hown' hgrow hown1
    go_wp2
    refine bodyPost_ret (v := v') (by simp [results, Try.results24, go_sem]) rfl ⟨_, rfl, ?_, HB2.out⟩
    have e : ((246 : Int) :: leB 2 n).length = 1 + 2 := by simp [leB_len]
    rw [e]
    exact HO2.out
  · rw [if_neg k2]
    have hb0 : Below w.heap.size w (w.alloc (.cells #[.int .u8 247] 5)) := (Below.refl _ _).alloc (Nat.le_refl _) _
    have ho0 := World.ownsRow_lit (base := w.heap.size) (e := 5) (size := 1) w #[.int .u8 247] 1 (Nat.le_refl _) (by decide) rfl
    have HB0 := Hd.mk hb0; have HO0 := Hd.mk ho0
    clear hb0 ho0
    go_enter Try.func24, Try.ntmps24
    go_wp2_with fail
    with_reducible refine (heBytes n 4 4 _ rfl (by omega) (by omega)).mono ?_
    rintro e w1 ⟨rfl, hb1, hl1⟩
    have hown1 : w1.ownsRow w.heap.size 5 1 (.slice (some ⟨w.heap.size, 0, none⟩) 1 1) 1 [.int .u8 247] := HO0.out.kept (row := none) ⟨hl1.os, hl1.tape, hl1.output, hl1.size, fun k hk _ => hl1.block k hk⟩ (.inr (by simp [Value.ownBlock]))
    have HB1 := Hd.mk hb1; have HL1 := Hd.mk hl1
    clear hb1 hl1
    simp only [World.size_alloc] at HB1
    go_wp2_with (at_builtin; refine wpList_append_own _ rfl _ _ 23 rfl w.heap.size 5 i0 (.int .u8 0) 1 1 Try.underlying23 I.out.1 I.out.2.1 I.out.2.2.1 I.out.2.2.2 rfl (by decide) _ _ _ rfl hown1 ⟨w.heap.size + 1, 0, none⟩ 4 4 (bc (leB 4 n)) rfl ?c0 ?c1 ?c2 ?c3 ?c4 ?c5 ?_)
    case c0 => simp [leB_len]
    case c1 =>
      intro j u hu
      exact HB1.out.cellz j (by simpa using hu)
    case c2 =>
      intro u hu
      obtain ⟨x, _, rfl⟩ := List.mem_map.1 hu
      rfl
    case c3 => unfold maxLen; omega
    case c4 => omega
    case c5 => exact Nat.le_trans HB0.out.size HL1.out.size
    intro v' w2 hown' hgrow _
    have HO2 := Hd.mk hown'
    have HB2 := Hd.mk ((HB0.out.trans (HL1.out.mono HB0.out.size)).grown hgrow (Nat.le_trans HB0.out.size HL1.out.size) (fun k hk => (hown1.lt k hk).1))
    clear hown' hgrow hown1
    go_wp2
    refine bodyPost_ret (v := v') (by simp [results, Try.results24, go_sem]) rfl ⟨_, rfl, ?_, HB2.out⟩
    have e : ((247 : Int) :: leB 4 n).length = 1 + 4 := by simp [leB_len]
    rw [e]
    exact HO2.out
theorem var_lenB (K : DK) (n : Int) (w : World) (h0 : 0 ≤ n) (h1 : n ≤ 1073741824) (hx : K.xs = lenB n) (h : Dec K w 0 .nilIface) :
    Calls Try.prog 70 #[.pointer (some ⟨K.d, 0, none⟩)] w fun e w' => Ind K w (lenB n).length n false .nilIface e w' := by
  by_cases k1 : n ≤ 245
  · have e : lenB n = [n] := by unfold lenB; rw [if_pos k1]
    rw [e] at hx ⊢
    refine (D_var0 K 0 n w h (by rw [hx]; simp) (by unfold DK.num; rw [hx]; simp [leN]) h0 k1).mono ?_
    rintro e w1 ⟨rfl, hw⟩
    exact Ind.of hw
  by_cases k2 : n ≤ 32767
  · have e : lenB n = 246 :: leB 2 n := by unfold lenB; rw [if_neg k1, if_pos k2]
    rw [e] at hx ⊢
    have hn : IntKind.i16.wrap (K.num (0 + 1) 2) = n := by
      unfold DK.num; rw [hx]; simp only [Nat.zero_add, List.drop_succ_cons, List.drop_zero]
      rw [List.take_of_length_le (by simp [leB_len]), leN_leB]
      simp [IntKind.wrap, IntKind.bits, IntKind.signed]; omega
    have C := D_var246 K 0 w h (by rw [hx]; simp [leB_len]) (by unfold DK.num; rw [hx]; simp [leN])
    rw [hn] at C
    refine C.mono ?_
    rintro e w1 ⟨rfl, hw⟩
    have : (((246 : Int) :: leB 2 n).length : Int) = 3 := by simp [leB_len]
    rw [this]
    exact Ind.of hw
  · have e : lenB n = 247 :: leB 4 n := by unfold lenB; rw [if_neg k1, if_neg k2]
    rw [e] at hx ⊢
    have hn : wrap32 (K.num (0 + 1) 4) = n := by
      unfold DK.num; rw [hx]; simp only [Nat.zero_add, List.drop_succ_cons, List.drop_zero]
      rw [List.take_of_length_le (by simp [leB_len]), leN_leB]
      unfold wrap32; omega
    have C := D_var247 K 0 w h (by rw [hx]; simp [leB_len]) (by unfold DK.num; rw [hx]; simp [leN])
    rw [hn] at C
    refine C.mono ?_
    rintro e w1 ⟨rfl, hw⟩
    have : (((247 : Int) :: leB 4 n).length : Int) = 5 := by simp [leB_len]
    rw [this]
    exact Ind.of hw
set_option maxRecDepth 100000 in
theorem law_lengthBytes (a : Int) (w : World) (b : -9223372036854775808 ≤ a ∧ a ≤ 9223372036854775807) :
    Calls Try.prog 9 #[.int .i64 a] w fun e w' => e = .returned (.bool true) ∧ Below w.heap.size w w' := by
  obtain ⟨n, hn⟩ : ∃ n, n = a % 18446744073709551616 % 1073741825 := ⟨_, rfl⟩
  have h0 : 0 ≤ n := by omega
  have h1 : n ≤ 1073741824 := by omega
  have hn' : wrap64 ((IntKind.u64.wrap a).tmod 1073741825) = n := by
    have e : IntKind.u64.wrap a = a % 18446744073709551616 := by simp [IntKind.wrap, IntKind.bits, IntKind.signed]
    rw [e, Int.tmod_eq_emod_of_nonneg (by omega), hn]
    unfold wrap64; omega
  have hlen := lenB_len n
  have hby := lenB_byte n h0
  have HLEN := Hd.mk hlen; have HBY := Hd.mk hby
  have H0 := Hd.mk h0; have H1 := Hd.mk h1; have HN := Hd.mk hn'
  clear hn hn' hby
  go_enter Try.func9, Try.ntmps9
  go_wp2_with fail
  rw [HN.out]
  with_reducible refine (heLength n _ H0.out H1.out).mono ?_
  intro e w1 h1'
  obtain ⟨A, c, rfl, k1, k2, k3, _, _, k4⟩ := h1'.rd (by omega)
  have R1 := Hd.mk k3; have B1 := Hd.mk k4
  clear h1' k3 k4
  go_wp2_with fail
  with_reducible refine (lengthBytes n _ H0.out H1.out).mono ?_
  rintro e w2 ⟨v, rfl, h2⟩
  obtain ⟨A2, c2, hv, m1, m2, m3, _, _, m4⟩ := h2.rd (by omega)
  cases hv
  have R1' := Hd.mk (R1.out.below m4); have R2 := Hd.mk m3; have B2 := Hd.mk (B1.out.trans (m4.mono B1.out.size))
  clear h2 m3 m4 R1 B1
  go_wp2_with fail
  have C := Hd.mk (lengthOf_any A2 _ c2 (lenB n) w2 R2.out m1 m2 HBY.out (lenB n).length n false (by omega) (by omega) .nilIface (.inl rfl) (fun K w hK hd => var_lenB K n w H0.out H1.out hK hd))
  with_reducible refine C.out.mono ?_
  unfold lenR
  rintro e w3 ⟨rfl, hb⟩
  have s1 := str_run (P := Try.prog) (src := 23) (dst := 9) (c := c) Try.underlying23 Try.underlying5 Try.underlying9 (R1'.out.below hb)
  have s2 := str_run (P := Try.prog) (src := 23) (dst := 9) (c := c2) Try.underlying23 Try.underlying5 Try.underlying9 (R2.out.below hb)
  have B3 := Hd.mk (B2.out.trans (hb.mono B2.out.size))
  clear hb C R1' R2
  go_wp2_with fail
  with_reducible refine (lengthSize n _ H0.out H1.out).mono ?_
  rintro e w4 ⟨rfl, rfl⟩
  go_wp2
  go_ret
  exact ⟨by simp, B3.out⟩
theorem FnLengthBytes (a0 : Int) (w : World) (h0 : (Lit.int .i64 a0).wf = true) :
    Calls Try.prog 9 #[.int .i64 a0] w fun e w' => e = .returned (.bool true) ∧ Below w.heap.size w w' := by
  have b0 := bounds_i64 h0
  exact law_lengthBytes a0 w (by omega)
end Go.Proofs.Ytbohjafchfeheaa.Kb
