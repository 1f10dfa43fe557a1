/- Lengths out of any bytes: FnLengthOf. -/
import Derived.Test.YtbohjafchfeheaaFail
import Derived.Test.YtbohjafchfeheaaHeNum
import Derived.Test.YtbohjafchfeheaaPack
namespace Go.Proofs.Ytbohjafchfeheaa.Kb
open Go Go.RowKit
set_option linter.unusedVariables false
set_option linter.unusedSimpArgs false
set_option maxHeartbeats 1000000
theorem failed_of {K : DK} {w w' : World} {m : Nat} {T : TypeId} {v : Value} (h : ∃ p c, DecB K w' p c (.iface T v)) (hb : Bel w.heap.size [K.d, K.sb] w w') : Failed K w w' := by
  obtain ⟨p, c, h⟩ := h
  exact ⟨⟨p, c, _, .inr ⟨rfl, T, v, rfl⟩, h⟩, hb⟩
set_option maxRecDepth 100000 in
theorem D_Byte_no (K : DK) (p : Nat) (w : World) (h : Dec K w p .nilIface) (fit : K.xs.length = p) :
    Calls Try.prog 95 #[.pointer (some ⟨K.d, 0, none⟩)] w fun e w' => e = .returned (.int .u8 0) ∧ Failed K w w' := by
  obtain ⟨Z, hz, hZ⟩ := h.sc
  have hl : K.xs.length ≤ 140737488351232 := h.b.rd.small
  have c3 : w.cell? ⟨K.d, 3, none⟩ = some (.slice (some ⟨K.sb, 0, none⟩) 4096 4096) := h.b.blk.cell 3 rfl
  have H := Hd.mk h; have HZ := Hd.mk hZ; have HZ2 := Hd.mk hz; have FIT := Hd.mk fit
  clear h hZ hz fit
  go_enter Try.func95, Try.ntmps95
  go_wp2_with fail
  have C := readFull_no K p p _ H.out.b K.sb Z 5 HZ.out (Ne.symm H.out.b.ne) (H.out.b.rd.sub (by simp)) 1 4096 (K.xs.length - p) _ (fun _ => rfl) (by rw [HZ2.out]; omega) (by have := FIT.out; omega) (by have := FIT.out; omega) (by have := FIT.out; omega) (by omega)
  with_reducible refine C.mono ?_
  rintro e w1 ⟨T, v, rfl, hd, hb⟩
  have HF := Hd.mk (failed_of (m := 0) hd hb)
  clear hd hb C
  go_wp2
  go_ret
  exact ⟨rfl, HF.out⟩
set_option maxRecDepth 100000 in
theorem D_Int16_no (K : DK) (p : Nat) (w : World) (h : Dec K w p .nilIface) (fit : K.xs.length < p + 2) :
    Calls Try.prog 96 #[.pointer (some ⟨K.d, 0, none⟩)] w fun e w' => e = .returned (.int .i16 0) ∧ Failed K w w' := by
  obtain ⟨Z, hz, hZ⟩ := h.sc
  have hl : K.xs.length ≤ 140737488351232 := h.b.rd.small
  have hle := h.b.le
  have c3 : w.cell? ⟨K.d, 3, none⟩ = some (.slice (some ⟨K.sb, 0, none⟩) 4096 4096) := h.b.blk.cell 3 rfl
  have H := Hd.mk h; have HZ := Hd.mk hZ; have HZ2 := Hd.mk hz; have FIT := Hd.mk fit
  clear h hZ hz fit
  go_enter Try.func96, Try.ntmps96
  go_wp2_with fail
  have C := readFull_no K p p _ H.out.b K.sb Z 5 HZ.out (Ne.symm H.out.b.ne) (H.out.b.rd.sub (by simp)) 2 4096 (K.xs.length - p) _ (fun _ => rfl) (by rw [HZ2.out]; omega) (by have := FIT.out; omega) (by have := FIT.out; omega) (by have := FIT.out; omega) (by omega)
  with_reducible refine C.mono ?_
  rintro e w1 ⟨T, v, rfl, hd, hb⟩
  have HF := Hd.mk (failed_of (m := 0) hd hb)
  clear hd hb C
  go_wp2
  go_ret
  exact ⟨rfl, HF.out⟩
set_option maxRecDepth 100000 in
theorem D_Int32_no (K : DK) (p : Nat) (w : World) (h : Dec K w p .nilIface) (fit : K.xs.length < p + 4) :
    Calls Try.prog 97 #[.pointer (some ⟨K.d, 0, none⟩)] w fun e w' => e = .returned (.int .i32 0) ∧ Failed K w w' := by
  obtain ⟨Z, hz, hZ⟩ := h.sc
  have hl : K.xs.length ≤ 140737488351232 := h.b.rd.small
  have hle := h.b.le
  have c3 : w.cell? ⟨K.d, 3, none⟩ = some (.slice (some ⟨K.sb, 0, none⟩) 4096 4096) := h.b.blk.cell 3 rfl
  have H := Hd.mk h; have HZ := Hd.mk hZ; have HZ2 := Hd.mk hz; have FIT := Hd.mk fit
  clear h hZ hz fit
  go_enter Try.func97, Try.ntmps97
  go_wp2_with fail
  have C := readFull_no K p p _ H.out.b K.sb Z 5 HZ.out (Ne.symm H.out.b.ne) (H.out.b.rd.sub (by simp)) 4 4096 (K.xs.length - p) _ (fun _ => rfl) (by rw [HZ2.out]; omega) (by have := FIT.out; omega) (by have := FIT.out; omega) (by have := FIT.out; omega) (by omega)
  with_reducible refine C.mono ?_
  rintro e w1 ⟨T, v, rfl, hd, hb⟩
  have HF := Hd.mk (failed_of (m := 0) hd hb)
  clear hd hb C
  go_wp2
  go_ret
  exact ⟨rfl, HF.out⟩
set_option maxRecDepth 100000 in
theorem D_var_none (K : DK) (w : World) (h : Dec K w 0 .nilIface) (fit : K.xs.length = 0) :
    Calls Try.prog 70 #[.pointer (some ⟨K.d, 0, none⟩)] w fun e w' => Ind K w 1 0 false true e w' := by
  have C := Hd.mk (D_Byte_no K 0 w h fit)
  clear h
  go_enter Try.func70, Try.ntmps70
  go_wp2_with fail
  with_reducible refine C.out.mono ?_
  rintro e w1 ⟨rfl, hw⟩
  have HW := Hd.mk hw
  clear hw C
  go_wp2
  refine bodyPost_ret (v := .tuple #[.int .i64 1, .int .i64 0, .bool false]) (by simp [results, Try.results70, go_sem]) rfl ⟨rfl, HW.out.1, HW.out.2⟩
theorem Failed.next {K : DK} {w w1 w2 : World} {p k : Nat} (h : Went K w p k w1) (h2 : Failed K w1 w2) : Failed K w w2 := ⟨h2.1, h.2.trans (h2.2.weak h.2.size (fun x hx _ => hx))⟩
set_option maxRecDepth 100000 in
theorem D_var246_no (K : DK) (w : World) (h : Dec K w 0 .nilIface) (f1 : 0 + 1 ≤ K.xs.length) (f2 : K.xs.length < 0 + 1 + 2) (hb : K.num 0 1 = 246) :
    Calls Try.prog 70 #[.pointer (some ⟨K.d, 0, none⟩)] w fun e w' => Ind K w 3 0 false true e w' := by
  have C := D_Byte K 0 w h f1
  rw [hb] at C
  have C := Hd.mk C
  clear h
  go_enter Try.func70, Try.ntmps70
  go_wp2_with fail
  with_reducible refine C.out.mono ?_
  rintro e w1 ⟨rfl, hw⟩
  have HW := Hd.mk hw
  have C2 := Hd.mk (D_Int16_no K (0 + 1) w1 hw.1 f2)
  clear hw C
  go_wp2_with fail
  with_reducible refine C2.out.mono ?_
  rintro e w2 ⟨rfl, hw⟩
  have HW2 := Hd.mk (Failed.next HW.out hw)
  clear hw C2 HW
  go_wp2
  refine bodyPost_ret (v := .tuple #[.int .i64 3, .int .i64 0, .bool false]) (by simp [results, Try.results70, go_sem]) rfl ⟨rfl, HW2.out.1, HW2.out.2⟩
set_option maxRecDepth 100000 in
theorem D_var247_no (K : DK) (w : World) (h : Dec K w 0 .nilIface) (f1 : 0 + 1 ≤ K.xs.length) (f2 : K.xs.length < 0 + 1 + 4) (hb : K.num 0 1 = 247) :
    Calls Try.prog 70 #[.pointer (some ⟨K.d, 0, none⟩)] w fun e w' => Ind K w 5 0 false true e w' := by
  have C := D_Byte K 0 w h f1
  rw [hb] at C
  have C := Hd.mk C
  clear h
  go_enter Try.func70, Try.ntmps70
  go_wp2_with fail
  with_reducible refine C.out.mono ?_
  rintro e w1 ⟨rfl, hw⟩
  have HW := Hd.mk hw
  have C2 := Hd.mk (D_Int32_no K (0 + 1) w1 hw.1 f2)
  clear hw C
  go_wp2_with fail
  with_reducible refine C2.out.mono ?_
  rintro e w2 ⟨rfl, hw⟩
  have HW2 := Hd.mk (Failed.next HW.out hw)
  clear hw C2 HW
  go_wp2
  refine bodyPost_ret (v := .tuple #[.int .i64 5, .int .i64 0, .bool false]) (by simp [results, Try.results70, go_sem]) rfl ⟨rfl, HW2.out.1, HW2.out.2⟩
/-- What bytes tell of a length, by cases. -/
inductive Sh (xs : List Int) : Int → Int → Bool → Bool → Prop
  | none : xs.length = 0 → Sh xs 1 0 false true
  | one : 1 ≤ xs.length → 0 ≤ xs.getD 0 0 → xs.getD 0 0 ≤ 245 → Sh xs 1 (xs.getD 0 0) false false
  | null : 1 ≤ xs.length → xs.getD 0 0 = 255 → Sh xs 1 0 true false
  | two : 3 ≤ xs.length → xs.getD 0 0 = 246 → Sh xs 3 (IntKind.i16.wrap (leN ((xs.drop 1).take 2))) false false
  | twoNo : 1 ≤ xs.length → xs.length < 3 → xs.getD 0 0 = 246 → Sh xs 3 0 false true
  | four : 5 ≤ xs.length → xs.getD 0 0 = 247 → Sh xs 5 (wrap32 (leN ((xs.drop 1).take 4))) false false
  | fourNo : 1 ≤ xs.length → xs.length < 5 → xs.getD 0 0 = 247 → Sh xs 5 0 false true
theorem Sh.of (xs : List Int) (hby : ∀ x ∈ xs, 0 ≤ x ∧ x < 256) (h : xs.length = 0 ∨ xs.getD 0 0 ≤ 247 ∨ 255 ≤ xs.getD 0 0) : ∃ a b nl bad, Sh xs a b nl bad := by
  by_cases h0 : xs.length = 0
  · exact ⟨_, _, _, _, .none h0⟩
  have hx : 0 ≤ xs.getD 0 0 ∧ xs.getD 0 0 < 256 := by
    have hkx : 0 < xs.length := by omega
    rw [List.getD_eq_getElem?_getD, List.getElem?_eq_getElem hkx]
    exact hby _ (List.getElem_mem hkx)
  rcases (by omega : xs.getD 0 0 ≤ 245 ∨ xs.getD 0 0 = 246 ∨ xs.getD 0 0 = 247 ∨ xs.getD 0 0 = 255) with k | k | k | k
  · exact ⟨_, _, _, _, .one (by omega) hx.1 k⟩
  · by_cases h3 : 3 ≤ xs.length
    · exact ⟨_, _, _, _, .two h3 k⟩
    · exact ⟨_, _, _, _, .twoNo (by omega) (by omega) k⟩
  · by_cases h3 : 5 ≤ xs.length
    · exact ⟨_, _, _, _, .four h3 k⟩
    · exact ⟨_, _, _, _, .fourNo (by omega) (by omega) k⟩
  · exact ⟨_, _, _, _, .null (by omega) k⟩
theorem num_0 (K : DK) (h : 1 ≤ K.xs.length) : K.num 0 1 = K.xs.getD 0 0 := by
  unfold DK.num
  cases hx : K.xs with
  | nil => rw [hx] at h; simp at h
  | cons x r => simp [leN]
theorem var_sh (xs : List Int) (a b : Int) (nl bad : Bool) (h : Sh xs a b nl bad) (K : DK) (w : World) (hx : K.xs = xs) (hd : Dec K w 0 .nilIface) :
    Calls Try.prog 70 #[.pointer (some ⟨K.d, 0, none⟩)] w fun e w' => Ind K w a b nl bad e w' := by
  subst hx
  cases h with
  | none h => exact D_var_none K w hd h
  | one h1 h2 h3 =>
    refine (D_var0 K 0 _ w hd h1 (num_0 K h1) h2 h3).mono ?_
    rintro e w1 ⟨rfl, hw⟩
    exact Ind.of hw
  | null h1 h2 =>
    refine (D_var255 K 0 w hd h1 ((num_0 K h1).trans h2)).mono ?_
    rintro e w1 ⟨rfl, hw⟩
    exact Ind.of hw
  | two h1 h2 =>
    refine (D_var246 K 0 w hd h1 ((num_0 K (by omega)).trans h2)).mono ?_
    rintro e w1 ⟨rfl, hw⟩
    exact Ind.of hw
  | twoNo h1 h2 h3 => exact D_var246_no K w hd h1 h2 ((num_0 K h1).trans h3)
  | four h1 h2 =>
    refine (D_var247 K 0 w hd h1 ((num_0 K (by omega)).trans h2)).mono ?_
    rintro e w1 ⟨rfl, hw⟩
    exact Ind.of hw
  | fourNo h1 h2 h3 => exact D_var247_no K w hd h1 h2 ((num_0 K h1).trans h3)
end Go.Proofs.Ytbohjafchfeheaa.Kb
