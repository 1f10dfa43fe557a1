/- FnInit: the law. -/
import Derived.Test.YtnkengcajechbaaDoorInitC
import Derived.Test.YtnkengcajechbaaDoorZero
import Derived.Test.YtnkengcajechbaaDoorRows
import Derived.LaidMore
import Derived.MakeChecks
import Derived.ProofKit
import Derived.Deep.DeepCutAuto
namespace Go.Proofs.YtnkengcajechbaaDoor.Kb
open Go Go.RowKit
set_option linter.unusedVariables false
set_option linter.unusedSimpArgs false
set_option maxHeartbeats 4000000
theorem le_minus1 : leB 4 (-1) = leB 4 4294967295 := by decide +kernel
theorem le1_zero : leB 1 0 = [0] := by decide +kernel
theorem le1_one : leB 1 1 = [1] := by decide +kernel
theorem rd_of_blk {w : World} {g : Nat} {cs : Array Value} {t : TypeId} (h : Blk w g cs t) (xs : List Int) (hs : xs.length ≤ 140737488351232) (hx : cs = (bc xs).toArray) : Rd w [] (some ⟨g, 0, none⟩) xs.length xs :=
  ⟨rfl, hs, fun j hj => ⟨_, rfl, h.cellz j (by rw [hx]; simp [hj]), h.lt, by simp⟩⟩
theorem own_rd0 {w : World} {B n : Nat} {e : TypeId} {v : Value} {xs : List Int} (h : w.ownsRow B e 1 v n (bc xs)) (hs : n ≤ 140737488351232) (h0 : 0 < n) : ∃ g c, v = .slice (some ⟨g, 0, none⟩) n c ∧ n ≤ c ∧ c ≤ maxLen ∧ Rd w [] (some ⟨g, 0, none⟩) n xs := by
  obtain ⟨A, c, rfl, h1, h2, h3, _, _⟩ := own_rd h hs
  obtain ⟨_, h6⟩ := h
  rcases h6 with ⟨_, rfl⟩ | ⟨g, cap, cur, h7, _⟩
  · omega
  · cases h7
    exact ⟨g, c, rfl, h1, h2, h3⟩
theorem bel_drewN (B : Nat) (w : World) (q : Nat) : Below B w (w.drewN q) := ⟨rfl, rfl, rfl, Nat.le_refl _, fun _ _ => rfl⟩
set_option maxRecDepth 100000 in
theorem law_init00 (a0 a1 a2 a3 : Int) (r : Bool) (w : World) (b0 : -128 ≤ a0 ∧ a0 ≤ 127) (b1 : -32768 ≤ a1 ∧ a1 ≤ 32767) (b2 : -128 ≤ a2 ∧ a2 ≤ 127) (b3 : -32768 ≤ a3 ∧ a3 ≤ 32767) (hgl : w.cell? ⟨0, 0, none⟩ = some (.int .u32 4294967295)) :
    Calls Tryd.prog 3 #[.int .i8 a0, .int .i16 a1, .int .i8 a2, .int .i16 a3, .bool false, .bool r] w fun e w' => e = .returned (.bool true) ∧ Below w.heap.size w w' := by
  obtain ⟨xs, hxs⟩ : ∃ xs, xs = leB 4 4294967295 ++ (leB 1 a0 ++ (leB 2 a1 ++ (leB 1 a2 ++ (leB 2 a3 ++ (List.replicate 4 0))))) := ⟨_, rfl⟩
  obtain ⟨ys, hys⟩ : ∃ ys, rowB [(-1, 4), (a0, 1), (a1, 2), (a2, 1), (a3, 2), (0, 1)] = ys := ⟨_, rfl⟩
  have hyl : ys.length = 11 := by rw [← hys]; simp [rowB, leB_len]
  have hsplit : xs = ys ++ [0, 0, 0] := by rw [hxs, ← hys]; simp [rowB, le_minus1, le1_zero]
  have hlen : xs.length = 14 := by rw [hsplit]; simp [hyl]
  have ht : xs.take 11 = ys := by rw [hsplit, List.take_left' hyl]
  have hd : (xs.drop 11).take 3 = [0, 0, 0] := by rw [hsplit, List.drop_left' hyl]; rfl
  have hby : ∀ x ∈ xs, 0 ≤ x ∧ x < 256 := by
    rw [hxs]
    exact bytes_append (leB_byte _ _) (bytes_append (leB_byte _ _) (bytes_append (leB_byte _ _) (bytes_append (leB_byte _ _) (bytes_append (leB_byte _ _) (by simp)))))
  have e0 : IntKind.i8.wrap (numL xs 4 1) = a0 := by rw [hxs, num_next 4 1 0, num_here]; simp [IntKind.wrap, IntKind.bits, IntKind.signed]; omega
  have e1 : IntKind.i16.wrap (numL xs 5 2) = a1 := by rw [hxs, num_next 4 2 1, num_next 1 2 0, num_here]; simp [IntKind.wrap, IntKind.bits, IntKind.signed]; omega
  have e2 : IntKind.i8.wrap (numL xs 7 1) = a2 := by rw [hxs, num_next 4 1 3, num_next 1 1 2, num_next 2 1 0, num_here]; simp [IntKind.wrap, IntKind.bits, IntKind.signed]; omega
  have e3 : IntKind.i16.wrap (numL xs 8 2) = a3 := by rw [hxs, num_next 4 2 4, num_next 1 2 3, num_next 2 2 1, num_next 1 2 0, num_here]; simp [IntKind.wrap, IntKind.bits, IntKind.signed]; omega
  have e4 : IntKind.i8.wrap (numL xs 11 1) = 0 := by rw [hxs, num_next 4 1 7, num_next 1 1 6, num_next 2 1 4, num_next 1 1 3, num_next 2 1 1]; decide +kernel
  have C3 := Hd.mk (fun (A : Option Addr) (c : Nat) (W : World) (hr : Rd W [] A xs.length xs) (hn : xs.length ≤ c) (hc : c ≤ maxLen) => initOf A xs.length c xs W hr hn hc hby (by rw [hlen]; omega) a0 a1 a2 a3 0 0 b0 b1 b2 b3 (by decide) (by decide) (fun K hK W g hg => dec_init0 K g W a0 a1 a2 a3  hg (by rw [hK, hlen]; omega) (by unfold DK.num; rw [hK]; exact e0) (by unfold DK.num; rw [hK]; exact e1) (by unfold DK.num; rw [hK]; exact e2) (by unfold DK.num; rw [hK]; exact e3) (by unfold DK.num; rw [hK]; exact e4)))
  have C2 := Hd.mk (fun W h => initBytes0 a0 a1 a2 a3 0 b0 b1 b2 b3 (by decide) W h)
  rw [← hxs] at C2
  have hB : Below w.heap.size w (w.alloc (.cells #[.int .i64 a0, .int .i64 a1, .int .i64 a2, .int .i64 a3, .int .i64 0, .int .i64 0] 24)) := (Below.refl _ _).alloc (Nat.le_refl _) _
  have C1 := heRow2 [(-1, 4), (a0, 1), (a1, 2), (a2, 1), (a3, 2), (0, 1)] 6 #[.int .i64 (-1), .int .i64 a0, .int .i64 a1, .int .i64 a2, .int .i64 a3, .int .i64 0] #[.int .i64 4, .int .i64 1, .int .i64 2, .int .i64 1, .int .i64 2, .int .i64 1] 2 3 (w.alloc (.cells #[.int .i64 a0, .int .i64 a1, .int .i64 a2, .int .i64 a3, .int .i64 0, .int .i64 0] 24)) rfl rfl rfl (by simp) (by omega) ys hys
  simp only [World.size_alloc] at C1
  have C1 := Hd.mk C1
  have hA := Blk.new w #[.int .i64 a0, .int .i64 a1, .int .i64 a2, .int .i64 a3, .int .i64 0, .int .i64 0] 24
  have HB := Hd.mk hB; have HA := Hd.mk hA; have HT := Hd.mk ht; have HDr := Hd.mk hd; have HLEN := Hd.mk hlen; have HYL := Hd.mk hyl; have HSP := Hd.mk hsplit; have HGL := Hd.mk hgl
  obtain ⟨p0, q0⟩ := b0; obtain ⟨p1, q1⟩ := b1; obtain ⟨p2, q2⟩ := b2; obtain ⟨p3, q3⟩ := b3
  obtain ⟨i0, hi, hz0, hz1, hz2⟩ := info_of infoB
  have I := Hd.mk (And.intro hi (And.intro hz0 (And.intro hz1 hz2)))
  obtain ⟨i1, hi1, _⟩ := info_of infoI
  have heq : ∀ w, (Op.equalIn 10000 24 (.agg #[.int .i64 a0, .int .i64 a1, .int .i64 a2, .int .i64 a3, .int .i64 0, .int .i64 0]) (.agg #[.int .i64 a0, .int .i64 a1, .int .i64 a2, .int .i64 a3, .int .i64 0, .int .i64 0])).run Tryd.prog w = .ok true w :=
    fun w => eq_ints .i64 w 9998 6 [a0, a1, a2, a3, 0, 0] Tryd.underlying24 Tryd.underlying3 hi1 (by kernel_rfl) rfl
  have HEQ := Hd.mk heq
  clear hB hA ht hd hlen hyl hsplit hxs hys hby e0 e1 e2 e3 e4  hi hz0 hz1 hz2 hi1 heq hgl
  go_enter Tryd.func3, Tryd.ntmps3
  go_wp2_with fail
  with_reducible refine C1.out.mono ?_
  rintro e w1 ⟨v, rfl, hown, hb1⟩
  rw [HYL.out] at hown
  have hA1 := HA.out.below hb1 (by simp)
  have HB1 := Hd.mk (HB.out.trans (hb1.mono HB.out.size)); have HA1 := Hd.mk hA1; have HO := Hd.mk hown
  have c0 : w1.cell? ⟨w.heap.size, 0, none⟩ = some (.int .i64 a0) := hA1.cell 0 rfl
  have c1 : w1.cell? ⟨w.heap.size, 1, none⟩ = some (.int .i64 a1) := hA1.cell 1 rfl
  have c2 : w1.cell? ⟨w.heap.size, 2, none⟩ = some (.int .i64 a2) := hA1.cell 2 rfl
  have c3 : w1.cell? ⟨w.heap.size, 3, none⟩ = some (.int .i64 a3) := hA1.cell 3 rfl
  have c4 : w1.cell? ⟨w.heap.size, 4, none⟩ = some (.int .i64 0) := hA1.cell 4 rfl
  have c5 : w1.cell? ⟨w.heap.size, 5, none⟩ = some (.int .i64 0) := hA1.cell 5 rfl
  have f4 := hA1.free 4; have f5 := hA1.free 5; have hlt := hA1.lt
  clear hown hb1 hA1 HA HB C1
  go_upto_region 8 with fail
  obtain ⟨W1, hW1⟩ : ∃ W1, W1 = w1 := ⟨_, rfl⟩
  subst hW1
  have hA2 := HA1.out; have hO2 := HO.out; have hB2 := HB1.out
  have HA2 := Hd.mk hA2; have HO2 := Hd.mk hO2; have HB2 := Hd.mk hB2
  clear hA2 hO2 hB2 HA1 HO HB1 c0 c1 c2 c3 c4 c5 f4 f5 hlt
  have hlt := HA2.out.lt
  have hown : (W1.alloc (.cells #[.int .u8 0, .int .u8 0, .int .u8 0] 5)).ownsRow (w.heap.size + 1) 5 1 v 11 (bc ys) := by simpa using HO2.out.alloc (.cells #[.int .u8 0, .int .u8 0, .int .u8 0] 5)
  have hrt : Rd (W1.alloc (.cells #[.int .u8 0, .int .u8 0, .int .u8 0] 5)) [] (some ⟨W1.heap.size, 0, none⟩) 3 [0, 0, 0] := rd_of_blk (Blk.new W1 #[.int .u8 0, .int .u8 0, .int .u8 0] 5) [0, 0, 0] (by simp) rfl
  have HRT := Hd.mk hrt; have HOW := Hd.mk hown
  clear hrt hown
  go_wp2_with (at_builtin; refine wpList_append_rd rfl (.tmp 50) (.tmp 51) 25 rfl (w.heap.size + 1) 5 i0 (.int .u8 0) Tryd.underlying25 I.out.1 I.out.2.1 I.out.2.2.1 I.out.2.2.2 rfl v 11 (bc ys) (by simp [Act.eval, Act.put]) HOW.out (some ⟨W1.heap.size, 0, none⟩) 3 3 [0, 0, 0] (by simp [Act.eval, Act.put]) HRT.out (by omega) (by simp <;> omega) ?_)
  intro v3 w3 hown3 hg3
  have hA3 : Blk w3 w.heap.size #[.int .i64 a0, .int .i64 a1, .int .i64 a2, .int .i64 a3, .int .i64 0, .int .i64 0] 24 := (HA2.out.alloc (.cells #[.int .u8 0, .int .u8 0, .int .u8 0] 5)).grown hg3 (fun he => by have := (HOW.out.lt _ he).1; omega)
  have hB3 : Below w.heap.size w w3 := (HB2.out.alloc HB2.out.size (.cells #[.int .u8 0, .int .u8 0, .int .u8 0] 5)).grown hg3 (by have := HB2.out.size; simp; omega) (fun j hj => by have := (HOW.out.lt j hj).1; omega)
  have hO3 : w3.ownsRow (w.heap.size + 1) 5 1 v3 14 (bc xs) := by rw [HSP.out]; simpa using hown3
  obtain ⟨g3, c2, rfl, k1, k2, k3⟩ := own_rd0 hO3 (by omega) (by omega)
  have HA3 := Hd.mk hA3; have HB3 := Hd.mk hB3; have R3 := Hd.mk k3
  have c0' : w3.cell? ⟨w.heap.size, 0, none⟩ = some (.int .i64 a0) := hA3.cell 0 rfl
  have c1' : w3.cell? ⟨w.heap.size, 1, none⟩ = some (.int .i64 a1) := hA3.cell 1 rfl
  have c2' : w3.cell? ⟨w.heap.size, 2, none⟩ = some (.int .i64 a2) := hA3.cell 2 rfl
  have c3' : w3.cell? ⟨w.heap.size, 3, none⟩ = some (.int .i64 a3) := hA3.cell 3 rfl
  have c4' : w3.cell? ⟨w.heap.size, 4, none⟩ = some (.int .i64 0) := hA3.cell 4 rfl
  have c5' : w3.cell? ⟨w.heap.size, 5, none⟩ = some (.int .i64 0) := hA3.cell 5 rfl
  have C2w := Hd.mk (C2.out w3 (glob_below HGL.out (hB3.mono (Nat.le_refl _))))
  clear hown3 hg3 hA3 hB3 hO3 k3 C2 HA2 HO2 HB2 HRT HOW hlt
  go_wp2_with fail
  with_reducible refine C2w.out.mono ?_
  rintro e w4 ⟨v4, rfl, hmade⟩
  obtain ⟨vv, hvv, hown4, m5⟩ := hmade
  cases hvv
  obtain ⟨g4, c, rfl, m1, m2, m3⟩ := own_rd0 hown4 (by rw [HLEN.out]; omega) (by rw [HLEN.out]; omega)
  have C3w := Hd.mk (C3.out (some ⟨g4, 0, none⟩) c w4 m3 m1 m2)
  rw [HLEN.out] at m1 m3
  rw [HLEN.out] at C3w ⊢
  have HB4 := Hd.mk (HB3.out.trans (m5.mono HB3.out.size)); have R4 := Hd.mk m3; have R3' := Hd.mk (R3.out.below m5); have HA4 := Hd.mk (HA3.out.below m5 HA3.out.lt)
  clear hown4 m2 m3 m5 C2w C3 HB3 R3 HA3 c0' c1' c2' c3' c4' c5'
  go_wp2_with fail
  with_reducible refine C3w.out.mono ?_
  rintro e w5 ⟨rfl, hb5⟩
  have hA5 := HA4.out.below hb5 HA4.out.lt
  have HB5 := Hd.mk (HB4.out.trans (hb5.mono HB4.out.size)); have R5 := Hd.mk (R4.out.below hb5); have R6 := Hd.mk (R3'.out.below hb5); have HA5 := Hd.mk hA5
  clear hb5 C3w HB4 R4 R3' HA4
  go_upto_region 11 with fail
  obtain ⟨W6, hW6⟩ : ∃ W6, W6 = w5.alloc (.cells #[.int .i64 a0, .int .i64 a1, .int .i64 a2, .int .i64 a3, .int .i64 0, .int .i64 0] 24) := ⟨_, rfl⟩
  rw [← hW6]
  have HB6 : Hd (Below w.heap.size w W6) := ⟨by rw [hW6]; exact HB5.out.alloc HB5.out.size _⟩
  have hb56 : Below w5.heap.size w5 W6 := by rw [hW6]; exact (Below.refl _ _).alloc (Nat.le_refl _) _
  have hN6 : Blk W6 w5.heap.size #[.int .i64 a0, .int .i64 a1, .int .i64 a2, .int .i64 a3, .int .i64 0, .int .i64 0] 24 := by rw [hW6]; exact Blk.new _ _ _
  have hA6 := hA5.below hb56 hA5.lt
  have d0 : W6.cell? ⟨w.heap.size, 0, none⟩ = some (.int .i64 a0) := hA6.cell 0 rfl
  have e0 : W6.cell? ⟨w5.heap.size, 0, none⟩ = some (.int .i64 a0) := hN6.cell 0 rfl
  have d1 : W6.cell? ⟨w.heap.size, 1, none⟩ = some (.int .i64 a1) := hA6.cell 1 rfl
  have e1 : W6.cell? ⟨w5.heap.size, 1, none⟩ = some (.int .i64 a1) := hN6.cell 1 rfl
  have d2 : W6.cell? ⟨w.heap.size, 2, none⟩ = some (.int .i64 a2) := hA6.cell 2 rfl
  have e2 : W6.cell? ⟨w5.heap.size, 2, none⟩ = some (.int .i64 a2) := hN6.cell 2 rfl
  have d3 : W6.cell? ⟨w.heap.size, 3, none⟩ = some (.int .i64 a3) := hA6.cell 3 rfl
  have e3 : W6.cell? ⟨w5.heap.size, 3, none⟩ = some (.int .i64 a3) := hN6.cell 3 rfl
  have d4 : W6.cell? ⟨w.heap.size, 4, none⟩ = some (.int .i64 0) := hA6.cell 4 rfl
  have e4 : W6.cell? ⟨w5.heap.size, 4, none⟩ = some (.int .i64 0) := hN6.cell 4 rfl
  have d5 : W6.cell? ⟨w.heap.size, 5, none⟩ = some (.int .i64 0) := hA6.cell 5 rfl
  have e5 : W6.cell? ⟨w5.heap.size, 5, none⟩ = some (.int .i64 0) := hN6.cell 5 rfl
  have q1 := R5.out.first 11 (by omega); have q2 := R6.out.first 11 (by omega); have q3 : Rd w5 [] (some ⟨g4, 11, none⟩) 3 ((xs.drop 11).take 3) := by simpa [Addr.add] using R5.out.part 11 3 (by omega)
  have q4 : Rd w5 [] (some ⟨g3, 11, none⟩) 3 ((xs.drop 11).take 3) := by simpa [Addr.add] using R6.out.part 11 3 (by omega)
  rw [HT.out] at q1 q2; rw [HDr.out] at q3 q4
  have s1 := fun j => str_run (P := Tryd.prog) (src := 25) (dst := 9) (c := c) Tryd.underlying25 Tryd.underlying5 Tryd.underlying9 ((q1.below hb56).below (bel_drewN _ _ j))
  have s2 := fun j => str_run (P := Tryd.prog) (src := 25) (dst := 9) (c := c2) Tryd.underlying25 Tryd.underlying5 Tryd.underlying9 ((q2.below hb56).below (bel_drewN _ _ j))
  have s3 := fun j => str_run (P := Tryd.prog) (src := 25) (dst := 9) (c := c - 11) Tryd.underlying25 Tryd.underlying5 Tryd.underlying9 ((q3.below hb56).below (bel_drewN _ _ j))
  have s4 := fun j => str_run (P := Tryd.prog) (src := 25) (dst := 9) (c := c2 - 11) Tryd.underlying25 Tryd.underlying5 Tryd.underlying9 ((q4.below hb56).below (bel_drewN _ _ j))
  obtain ⟨X, hX⟩ : ∃ X, strOfNums ys = X := ⟨_, rfl⟩
  obtain ⟨Y, hY⟩ : ∃ Y, strOfNums [0, 0, 0] = Y := ⟨_, rfl⟩
  simp only [hX] at s1 s2; simp only [hY] at s3 s4
  have h11 : ¬ c = 11 := by omega
  have h12 : ¬ c2 = 11 := by omega
  have h13 : (11 : Int) ≤ c := by omega
  have h14 : (11 : Int) ≤ c2 := by omega
  have heq := HEQ.out
  clear hW6 hb56 hN6 hA6 q1 q2 q3 q4 hX hY hA5 R5 R6 HA5 HB5 HEQ
  go_quiet (fail)
  go_wp2
  go_ret
  exact ⟨by simp, HB6.out.trans (bel_drewN _ _ _)⟩
set_option maxRecDepth 100000 in
theorem law_init10 (a0 a1 a2 a3 : Int) (w : World) (b0 : -128 ≤ a0 ∧ a0 ≤ 127) (b1 : -32768 ≤ a1 ∧ a1 ≤ 32767) (b2 : -128 ≤ a2 ∧ a2 ≤ 127) (b3 : -32768 ≤ a3 ∧ a3 ≤ 32767) (hgl : w.cell? ⟨0, 0, none⟩ = some (.int .u32 4294967295)) :
    Calls Tryd.prog 3 #[.int .i8 a0, .int .i16 a1, .int .i8 a2, .int .i16 a3, .bool true, .bool false] w fun e w' => e = .returned (.bool true) ∧ Below w.heap.size w w' := by
  obtain ⟨xs, hxs⟩ : ∃ xs, xs = leB 4 4294967295 ++ (leB 1 a0 ++ (leB 2 a1 ++ (leB 1 a2 ++ (leB 2 a3 ++ (List.replicate 1 0 ++ (leB 1 1 ++ (leB 1 1 ++ (leB 1 0)))))))) := ⟨_, rfl⟩
  obtain ⟨ys, hys⟩ : ∃ ys, rowB [(-1, 4), (a0, 1), (a1, 2), (a2, 1), (a3, 2), (0, 1)] = ys := ⟨_, rfl⟩
  have hyl : ys.length = 11 := by rw [← hys]; simp [rowB, leB_len]
  have hsplit : xs = ys ++ [1, 1, 0] := by rw [hxs, ← hys]; simp [rowB, le_minus1, le1_zero, le1_one]
  have hlen : xs.length = 14 := by rw [hsplit]; simp [hyl]
  have ht : xs.take 11 = ys := by rw [hsplit, List.take_left' hyl]
  have hd : (xs.drop 11).take 3 = [1, 1, 0] := by rw [hsplit, List.drop_left' hyl]; rfl
  have hby : ∀ x ∈ xs, 0 ≤ x ∧ x < 256 := by
    rw [hxs]
    exact bytes_append (leB_byte _ _) (bytes_append (leB_byte _ _) (bytes_append (leB_byte _ _) (bytes_append (leB_byte _ _) (bytes_append (leB_byte _ _) (bytes_append (by simp) (bytes_append (leB_byte _ _) (bytes_append (leB_byte _ _) (leB_byte _ _))))))))
  have e0 : IntKind.i8.wrap (numL xs 4 1) = a0 := by rw [hxs, num_next 4 1 0, num_here]; simp [IntKind.wrap, IntKind.bits, IntKind.signed]; omega
  have e1 : IntKind.i16.wrap (numL xs 5 2) = a1 := by rw [hxs, num_next 4 2 1, num_next 1 2 0, num_here]; simp [IntKind.wrap, IntKind.bits, IntKind.signed]; omega
  have e2 : IntKind.i8.wrap (numL xs 7 1) = a2 := by rw [hxs, num_next 4 1 3, num_next 1 1 2, num_next 2 1 0, num_here]; simp [IntKind.wrap, IntKind.bits, IntKind.signed]; omega
  have e3 : IntKind.i16.wrap (numL xs 8 2) = a3 := by rw [hxs, num_next 4 2 4, num_next 1 2 3, num_next 2 2 1, num_next 1 2 0, num_here]; simp [IntKind.wrap, IntKind.bits, IntKind.signed]; omega
  have e4 : IntKind.i8.wrap (numL xs 11 1) = 1 := by rw [hxs, num_next 4 1 7, num_next 1 1 6, num_next 2 1 4, num_next 1 1 3, num_next 2 1 1]; decide +kernel
  have ec : IntKind.i8.wrap (numL xs 12 1) = 1 := by rw [hxs, num_next 4 1 8, num_next 1 1 7, num_next 2 1 5, num_next 1 1 4, num_next 2 1 2]; decide +kernel
  have e5 : IntKind.i8.wrap (numL xs 13 1) = 0 := by rw [hxs, num_next 4 1 9, num_next 1 1 8, num_next 2 1 6, num_next 1 1 5, num_next 2 1 3]; decide +kernel
  have C3 := Hd.mk (fun (A : Option Addr) (c : Nat) (W : World) (hr : Rd W [] A xs.length xs) (hn : xs.length ≤ c) (hc : c ≤ maxLen) => initOf A xs.length c xs W hr hn hc hby (by rw [hlen]; omega) a0 a1 a2 a3 1 0 b0 b1 b2 b3 (by decide) (by decide) (fun K hK W g hg => dec_init1 K g W a0 a1 a2 a3 0 hg (by rw [hK, hlen]; omega) (by unfold DK.num; rw [hK]; exact e0) (by unfold DK.num; rw [hK]; exact e1) (by unfold DK.num; rw [hK]; exact e2) (by unfold DK.num; rw [hK]; exact e3) (by unfold DK.num; rw [hK]; exact e4) (by unfold DK.num; rw [hK]; exact e5) (by unfold DK.num; rw [hK]; exact ec)))
  have C2 := Hd.mk (fun W h => initBytes1 a0 a1 a2 a3 0 b0 b1 b2 b3 (by decide) W h)
  rw [← hxs] at C2
  have hB : Below w.heap.size w (w.alloc (.cells #[.int .i64 a0, .int .i64 a1, .int .i64 a2, .int .i64 a3, .int .i64 0, .int .i64 0] 24)) := (Below.refl _ _).alloc (Nat.le_refl _) _
  have C1 := heRow2 [(-1, 4), (a0, 1), (a1, 2), (a2, 1), (a3, 2), (0, 1)] 6 #[.int .i64 (-1), .int .i64 a0, .int .i64 a1, .int .i64 a2, .int .i64 a3, .int .i64 0] #[.int .i64 4, .int .i64 1, .int .i64 2, .int .i64 1, .int .i64 2, .int .i64 1] 2 3 (w.alloc (.cells #[.int .i64 a0, .int .i64 a1, .int .i64 a2, .int .i64 a3, .int .i64 0, .int .i64 0] 24)) rfl rfl rfl (by simp) (by omega) ys hys
  simp only [World.size_alloc] at C1
  have C1 := Hd.mk C1
  have hA := Blk.new w #[.int .i64 a0, .int .i64 a1, .int .i64 a2, .int .i64 a3, .int .i64 0, .int .i64 0] 24
  have HB := Hd.mk hB; have HA := Hd.mk hA; have HT := Hd.mk ht; have HDr := Hd.mk hd; have HLEN := Hd.mk hlen; have HYL := Hd.mk hyl; have HSP := Hd.mk hsplit; have HGL := Hd.mk hgl
  obtain ⟨p0, q0⟩ := b0; obtain ⟨p1, q1⟩ := b1; obtain ⟨p2, q2⟩ := b2; obtain ⟨p3, q3⟩ := b3
  obtain ⟨i0, hi, hz0, hz1, hz2⟩ := info_of infoB
  have I := Hd.mk (And.intro hi (And.intro hz0 (And.intro hz1 hz2)))
  obtain ⟨i1, hi1, _⟩ := info_of infoI
  have heq : ∀ w, (Op.equalIn 10000 24 (.agg #[.int .i64 a0, .int .i64 a1, .int .i64 a2, .int .i64 a3, .int .i64 1, .int .i64 0]) (.agg #[.int .i64 a0, .int .i64 a1, .int .i64 a2, .int .i64 a3, .int .i64 1, .int .i64 0])).run Tryd.prog w = .ok true w :=
    fun w => eq_ints .i64 w 9998 6 [a0, a1, a2, a3, 1, 0] Tryd.underlying24 Tryd.underlying3 hi1 (by kernel_rfl) rfl
  have HEQ := Hd.mk heq
  clear hB hA ht hd hlen hyl hsplit hxs hys hby e0 e1 e2 e3 e4 e5 ec hi hz0 hz1 hz2 hi1 heq hgl
  go_enter Tryd.func3, Tryd.ntmps3
  go_wp2_with fail
  with_reducible refine C1.out.mono ?_
  rintro e w1 ⟨v, rfl, hown, hb1⟩
  rw [HYL.out] at hown
  have hA1 := HA.out.below hb1 (by simp)
  have HB1 := Hd.mk (HB.out.trans (hb1.mono HB.out.size)); have HA1 := Hd.mk hA1; have HO := Hd.mk hown
  have c0 : w1.cell? ⟨w.heap.size, 0, none⟩ = some (.int .i64 a0) := hA1.cell 0 rfl
  have c1 : w1.cell? ⟨w.heap.size, 1, none⟩ = some (.int .i64 a1) := hA1.cell 1 rfl
  have c2 : w1.cell? ⟨w.heap.size, 2, none⟩ = some (.int .i64 a2) := hA1.cell 2 rfl
  have c3 : w1.cell? ⟨w.heap.size, 3, none⟩ = some (.int .i64 a3) := hA1.cell 3 rfl
  have c4 : w1.cell? ⟨w.heap.size, 4, none⟩ = some (.int .i64 0) := hA1.cell 4 rfl
  have c5 : w1.cell? ⟨w.heap.size, 5, none⟩ = some (.int .i64 0) := hA1.cell 5 rfl
  have f4 := hA1.free 4; have f5 := hA1.free 5; have hlt := hA1.lt
  clear hown hb1 hA1 HA HB C1
  go_upto_region 7 with fail
  obtain ⟨W1, hW1⟩ : ∃ W1, W1 = (w1.setCell ⟨w.heap.size, 4, none⟩ (.int .i64 1)) := ⟨_, rfl⟩
  rw [← hW1]
  have hA2 : Blk W1 w.heap.size #[.int .i64 a0, .int .i64 a1, .int .i64 a2, .int .i64 a3, .int .i64 1, .int .i64 0] 24 := by rw [hW1]; exact (HA1.out.set 4 (.int .i64 1)).cast (by simp)
  have hO2 : W1.ownsRow (w.alloc (.cells #[.int .i64 a0, .int .i64 a1, .int .i64 a2, .int .i64 a3, .int .i64 0, .int .i64 0] 24)).heap.size 5 1 v 11 (bc ys) := by rw [hW1]; exact (ownsRow_setCell_below HO.out (a := ⟨w.heap.size, 4, none⟩) (by simp) _)
  have hB2 : Below w.heap.size w W1 := by rw [hW1]; exact (HB1.out.setCell (p := ⟨w.heap.size, 4, none⟩) (by simp) _)
  have HA2 := Hd.mk hA2; have HO2 := Hd.mk hO2; have HB2 := Hd.mk hB2
  clear hW1 hA2 hO2 hB2 HA1 HO HB1 c0 c1 c2 c3 c4 c5 f4 f5 hlt
  have c5 : W1.cell? ⟨w.heap.size, 5, none⟩ = some (.int .i64 0) := HA2.out.cell 5 rfl
  have hlt := HA2.out.lt
  have hown : (W1.alloc (.cells #[.int .u8 1, .int .u8 1, .int .u8 0] 5)).ownsRow (w.heap.size + 1) 5 1 v 11 (bc ys) := by simpa using HO2.out.alloc (.cells #[.int .u8 1, .int .u8 1, .int .u8 0] 5)
  have hrt : Rd (W1.alloc (.cells #[.int .u8 1, .int .u8 1, .int .u8 0] 5)) [] (some ⟨W1.heap.size, 0, none⟩) 3 [1, 1, 0] := rd_of_blk (Blk.new W1 #[.int .u8 1, .int .u8 1, .int .u8 0] 5) [1, 1, 0] (by simp) rfl
  have HRT := Hd.mk hrt; have HOW := Hd.mk hown
  clear hrt hown
  go_wp2_with (at_builtin; refine wpList_append_rd rfl (.tmp 44) (.tmp 48) 25 rfl (w.heap.size + 1) 5 i0 (.int .u8 0) Tryd.underlying25 I.out.1 I.out.2.1 I.out.2.2.1 I.out.2.2.2 rfl v 11 (bc ys) (by simp [Act.eval, Act.put]) HOW.out (some ⟨W1.heap.size, 0, none⟩) 3 3 [1, 1, 0] (by simp [Act.eval, Act.put]) HRT.out (by omega) (by simp <;> omega) ?_)
  intro v3 w3 hown3 hg3
  have hA3 : Blk w3 w.heap.size #[.int .i64 a0, .int .i64 a1, .int .i64 a2, .int .i64 a3, .int .i64 1, .int .i64 0] 24 := (HA2.out.alloc (.cells #[.int .u8 1, .int .u8 1, .int .u8 0] 5)).grown hg3 (fun he => by have := (HOW.out.lt _ he).1; omega)
  have hB3 : Below w.heap.size w w3 := (HB2.out.alloc HB2.out.size (.cells #[.int .u8 1, .int .u8 1, .int .u8 0] 5)).grown hg3 (by have := HB2.out.size; simp; omega) (fun j hj => by have := (HOW.out.lt j hj).1; omega)
  have hO3 : w3.ownsRow (w.heap.size + 1) 5 1 v3 14 (bc xs) := by rw [HSP.out]; simpa using hown3
  obtain ⟨g3, c2, rfl, k1, k2, k3⟩ := own_rd0 hO3 (by omega) (by omega)
  have HA3 := Hd.mk hA3; have HB3 := Hd.mk hB3; have R3 := Hd.mk k3
  have c0' : w3.cell? ⟨w.heap.size, 0, none⟩ = some (.int .i64 a0) := hA3.cell 0 rfl
  have c1' : w3.cell? ⟨w.heap.size, 1, none⟩ = some (.int .i64 a1) := hA3.cell 1 rfl
  have c2' : w3.cell? ⟨w.heap.size, 2, none⟩ = some (.int .i64 a2) := hA3.cell 2 rfl
  have c3' : w3.cell? ⟨w.heap.size, 3, none⟩ = some (.int .i64 a3) := hA3.cell 3 rfl
  have c4' : w3.cell? ⟨w.heap.size, 4, none⟩ = some (.int .i64 1) := hA3.cell 4 rfl
  have c5' : w3.cell? ⟨w.heap.size, 5, none⟩ = some (.int .i64 0) := hA3.cell 5 rfl
  have C2w := Hd.mk (C2.out w3 (glob_below HGL.out (hB3.mono (Nat.le_refl _))))
  clear hown3 hg3 hA3 hB3 hO3 k3 C2 HA2 HO2 HB2 HRT HOW hlt c5
  go_wp2_with fail
  with_reducible refine C2w.out.mono ?_
  rintro e w4 ⟨v4, rfl, hmade⟩
  obtain ⟨vv, hvv, hown4, m5⟩ := hmade
  cases hvv
  obtain ⟨g4, c, rfl, m1, m2, m3⟩ := own_rd0 hown4 (by rw [HLEN.out]; omega) (by rw [HLEN.out]; omega)
  have C3w := Hd.mk (C3.out (some ⟨g4, 0, none⟩) c w4 m3 m1 m2)
  rw [HLEN.out] at m1 m3
  rw [HLEN.out] at C3w ⊢
  have HB4 := Hd.mk (HB3.out.trans (m5.mono HB3.out.size)); have R4 := Hd.mk m3; have R3' := Hd.mk (R3.out.below m5); have HA4 := Hd.mk (HA3.out.below m5 HA3.out.lt)
  clear hown4 m2 m3 m5 C2w C3 HB3 R3 HA3 c0' c1' c2' c3' c4' c5'
  go_wp2_with fail
  with_reducible refine C3w.out.mono ?_
  rintro e w5 ⟨rfl, hb5⟩
  have hA5 := HA4.out.below hb5 HA4.out.lt
  have HB5 := Hd.mk (HB4.out.trans (hb5.mono HB4.out.size)); have R5 := Hd.mk (R4.out.below hb5); have R6 := Hd.mk (R3'.out.below hb5); have HA5 := Hd.mk hA5
  clear hb5 C3w HB4 R4 R3' HA4
  go_upto_region 11 with fail
  obtain ⟨W6, hW6⟩ : ∃ W6, W6 = w5.alloc (.cells #[.int .i64 a0, .int .i64 a1, .int .i64 a2, .int .i64 a3, .int .i64 1, .int .i64 0] 24) := ⟨_, rfl⟩
  rw [← hW6]
  have HB6 : Hd (Below w.heap.size w W6) := ⟨by rw [hW6]; exact HB5.out.alloc HB5.out.size _⟩
  have hb56 : Below w5.heap.size w5 W6 := by rw [hW6]; exact (Below.refl _ _).alloc (Nat.le_refl _) _
  have hN6 : Blk W6 w5.heap.size #[.int .i64 a0, .int .i64 a1, .int .i64 a2, .int .i64 a3, .int .i64 1, .int .i64 0] 24 := by rw [hW6]; exact Blk.new _ _ _
  have hA6 := hA5.below hb56 hA5.lt
  have d0 : W6.cell? ⟨w.heap.size, 0, none⟩ = some (.int .i64 a0) := hA6.cell 0 rfl
  have e0 : W6.cell? ⟨w5.heap.size, 0, none⟩ = some (.int .i64 a0) := hN6.cell 0 rfl
  have d1 : W6.cell? ⟨w.heap.size, 1, none⟩ = some (.int .i64 a1) := hA6.cell 1 rfl
  have e1 : W6.cell? ⟨w5.heap.size, 1, none⟩ = some (.int .i64 a1) := hN6.cell 1 rfl
  have d2 : W6.cell? ⟨w.heap.size, 2, none⟩ = some (.int .i64 a2) := hA6.cell 2 rfl
  have e2 : W6.cell? ⟨w5.heap.size, 2, none⟩ = some (.int .i64 a2) := hN6.cell 2 rfl
  have d3 : W6.cell? ⟨w.heap.size, 3, none⟩ = some (.int .i64 a3) := hA6.cell 3 rfl
  have e3 : W6.cell? ⟨w5.heap.size, 3, none⟩ = some (.int .i64 a3) := hN6.cell 3 rfl
  have d4 : W6.cell? ⟨w.heap.size, 4, none⟩ = some (.int .i64 1) := hA6.cell 4 rfl
  have e4 : W6.cell? ⟨w5.heap.size, 4, none⟩ = some (.int .i64 1) := hN6.cell 4 rfl
  have d5 : W6.cell? ⟨w.heap.size, 5, none⟩ = some (.int .i64 0) := hA6.cell 5 rfl
  have e5 : W6.cell? ⟨w5.heap.size, 5, none⟩ = some (.int .i64 0) := hN6.cell 5 rfl
  have q1 := R5.out.first 11 (by omega); have q2 := R6.out.first 11 (by omega); have q3 : Rd w5 [] (some ⟨g4, 11, none⟩) 3 ((xs.drop 11).take 3) := by simpa [Addr.add] using R5.out.part 11 3 (by omega)
  have q4 : Rd w5 [] (some ⟨g3, 11, none⟩) 3 ((xs.drop 11).take 3) := by simpa [Addr.add] using R6.out.part 11 3 (by omega)
  rw [HT.out] at q1 q2; rw [HDr.out] at q3 q4
  have s1 := fun j => str_run (P := Tryd.prog) (src := 25) (dst := 9) (c := c) Tryd.underlying25 Tryd.underlying5 Tryd.underlying9 ((q1.below hb56).below (bel_drewN _ _ j))
  have s2 := fun j => str_run (P := Tryd.prog) (src := 25) (dst := 9) (c := c2) Tryd.underlying25 Tryd.underlying5 Tryd.underlying9 ((q2.below hb56).below (bel_drewN _ _ j))
  have s3 := fun j => str_run (P := Tryd.prog) (src := 25) (dst := 9) (c := c - 11) Tryd.underlying25 Tryd.underlying5 Tryd.underlying9 ((q3.below hb56).below (bel_drewN _ _ j))
  have s4 := fun j => str_run (P := Tryd.prog) (src := 25) (dst := 9) (c := c2 - 11) Tryd.underlying25 Tryd.underlying5 Tryd.underlying9 ((q4.below hb56).below (bel_drewN _ _ j))
  obtain ⟨X, hX⟩ : ∃ X, strOfNums ys = X := ⟨_, rfl⟩
  obtain ⟨Y, hY⟩ : ∃ Y, strOfNums [1, 1, 0] = Y := ⟨_, rfl⟩
  simp only [hX] at s1 s2; simp only [hY] at s3 s4
  have h11 : ¬ c = 11 := by omega
  have h12 : ¬ c2 = 11 := by omega
  have h13 : (11 : Int) ≤ c := by omega
  have h14 : (11 : Int) ≤ c2 := by omega
  have heq := HEQ.out
  clear hW6 hb56 hN6 hA6 q1 q2 q3 q4 hX hY hA5 R5 R6 HA5 HB5 HEQ
  go_quiet (fail)
  go_wp2
  go_ret
  exact ⟨by simp, HB6.out.trans (bel_drewN _ _ _)⟩
set_option maxRecDepth 100000 in
theorem law_init11 (a0 a1 a2 a3 : Int) (w : World) (b0 : -128 ≤ a0 ∧ a0 ≤ 127) (b1 : -32768 ≤ a1 ∧ a1 ≤ 32767) (b2 : -128 ≤ a2 ∧ a2 ≤ 127) (b3 : -32768 ≤ a3 ∧ a3 ≤ 32767) (hgl : w.cell? ⟨0, 0, none⟩ = some (.int .u32 4294967295)) :
    Calls Tryd.prog 3 #[.int .i8 a0, .int .i16 a1, .int .i8 a2, .int .i16 a3, .bool true, .bool true] w fun e w' => e = .returned (.bool true) ∧ Below w.heap.size w w' := by
  obtain ⟨xs, hxs⟩ : ∃ xs, xs = leB 4 4294967295 ++ (leB 1 a0 ++ (leB 2 a1 ++ (leB 1 a2 ++ (leB 2 a3 ++ (List.replicate 1 0 ++ (leB 1 1 ++ (leB 1 1 ++ (leB 1 1)))))))) := ⟨_, rfl⟩
  obtain ⟨ys, hys⟩ : ∃ ys, rowB [(-1, 4), (a0, 1), (a1, 2), (a2, 1), (a3, 2), (0, 1)] = ys := ⟨_, rfl⟩
  have hyl : ys.length = 11 := by rw [← hys]; simp [rowB, leB_len]
  have hsplit : xs = ys ++ [1, 1, 1] := by rw [hxs, ← hys]; simp [rowB, le_minus1, le1_zero, le1_one]
  have hlen : xs.length = 14 := by rw [hsplit]; simp [hyl]
  have ht : xs.take 11 = ys := by rw [hsplit, List.take_left' hyl]
  have hd : (xs.drop 11).take 3 = [1, 1, 1] := by rw [hsplit, List.drop_left' hyl]; rfl
  have hby : ∀ x ∈ xs, 0 ≤ x ∧ x < 256 := by
    rw [hxs]
    exact bytes_append (leB_byte _ _) (bytes_append (leB_byte _ _) (bytes_append (leB_byte _ _) (bytes_append (leB_byte _ _) (bytes_append (leB_byte _ _) (bytes_append (by simp) (bytes_append (leB_byte _ _) (bytes_append (leB_byte _ _) (leB_byte _ _))))))))
  have e0 : IntKind.i8.wrap (numL xs 4 1) = a0 := by rw [hxs, num_next 4 1 0, num_here]; simp [IntKind.wrap, IntKind.bits, IntKind.signed]; omega
  have e1 : IntKind.i16.wrap (numL xs 5 2) = a1 := by rw [hxs, num_next 4 2 1, num_next 1 2 0, num_here]; simp [IntKind.wrap, IntKind.bits, IntKind.signed]; omega
  have e2 : IntKind.i8.wrap (numL xs 7 1) = a2 := by rw [hxs, num_next 4 1 3, num_next 1 1 2, num_next 2 1 0, num_here]; simp [IntKind.wrap, IntKind.bits, IntKind.signed]; omega
  have e3 : IntKind.i16.wrap (numL xs 8 2) = a3 := by rw [hxs, num_next 4 2 4, num_next 1 2 3, num_next 2 2 1, num_next 1 2 0, num_here]; simp [IntKind.wrap, IntKind.bits, IntKind.signed]; omega
  have e4 : IntKind.i8.wrap (numL xs 11 1) = 1 := by rw [hxs, num_next 4 1 7, num_next 1 1 6, num_next 2 1 4, num_next 1 1 3, num_next 2 1 1]; decide +kernel
  have ec : IntKind.i8.wrap (numL xs 12 1) = 1 := by rw [hxs, num_next 4 1 8, num_next 1 1 7, num_next 2 1 5, num_next 1 1 4, num_next 2 1 2]; decide +kernel
  have e5 : IntKind.i8.wrap (numL xs 13 1) = 1 := by rw [hxs, num_next 4 1 9, num_next 1 1 8, num_next 2 1 6, num_next 1 1 5, num_next 2 1 3]; decide +kernel
  have C3 := Hd.mk (fun (A : Option Addr) (c : Nat) (W : World) (hr : Rd W [] A xs.length xs) (hn : xs.length ≤ c) (hc : c ≤ maxLen) => initOf A xs.length c xs W hr hn hc hby (by rw [hlen]; omega) a0 a1 a2 a3 1 1 b0 b1 b2 b3 (by decide) (by decide) (fun K hK W g hg => dec_init1 K g W a0 a1 a2 a3 1 hg (by rw [hK, hlen]; omega) (by unfold DK.num; rw [hK]; exact e0) (by unfold DK.num; rw [hK]; exact e1) (by unfold DK.num; rw [hK]; exact e2) (by unfold DK.num; rw [hK]; exact e3) (by unfold DK.num; rw [hK]; exact e4) (by unfold DK.num; rw [hK]; exact e5) (by unfold DK.num; rw [hK]; exact ec)))
  have C2 := Hd.mk (fun W h => initBytes1 a0 a1 a2 a3 1 b0 b1 b2 b3 (by decide) W h)
  rw [← hxs] at C2
  have hB : Below w.heap.size w (w.alloc (.cells #[.int .i64 a0, .int .i64 a1, .int .i64 a2, .int .i64 a3, .int .i64 0, .int .i64 0] 24)) := (Below.refl _ _).alloc (Nat.le_refl _) _
  have C1 := heRow2 [(-1, 4), (a0, 1), (a1, 2), (a2, 1), (a3, 2), (0, 1)] 6 #[.int .i64 (-1), .int .i64 a0, .int .i64 a1, .int .i64 a2, .int .i64 a3, .int .i64 0] #[.int .i64 4, .int .i64 1, .int .i64 2, .int .i64 1, .int .i64 2, .int .i64 1] 2 3 (w.alloc (.cells #[.int .i64 a0, .int .i64 a1, .int .i64 a2, .int .i64 a3, .int .i64 0, .int .i64 0] 24)) rfl rfl rfl (by simp) (by omega) ys hys
  simp only [World.size_alloc] at C1
  have C1 := Hd.mk C1
  have hA := Blk.new w #[.int .i64 a0, .int .i64 a1, .int .i64 a2, .int .i64 a3, .int .i64 0, .int .i64 0] 24
  have HB := Hd.mk hB; have HA := Hd.mk hA; have HT := Hd.mk ht; have HDr := Hd.mk hd; have HLEN := Hd.mk hlen; have HYL := Hd.mk hyl; have HSP := Hd.mk hsplit; have HGL := Hd.mk hgl
  obtain ⟨p0, q0⟩ := b0; obtain ⟨p1, q1⟩ := b1; obtain ⟨p2, q2⟩ := b2; obtain ⟨p3, q3⟩ := b3
  obtain ⟨i0, hi, hz0, hz1, hz2⟩ := info_of infoB
  have I := Hd.mk (And.intro hi (And.intro hz0 (And.intro hz1 hz2)))
  obtain ⟨i1, hi1, _⟩ := info_of infoI
  have heq : ∀ w, (Op.equalIn 10000 24 (.agg #[.int .i64 a0, .int .i64 a1, .int .i64 a2, .int .i64 a3, .int .i64 1, .int .i64 1]) (.agg #[.int .i64 a0, .int .i64 a1, .int .i64 a2, .int .i64 a3, .int .i64 1, .int .i64 1])).run Tryd.prog w = .ok true w :=
    fun w => eq_ints .i64 w 9998 6 [a0, a1, a2, a3, 1, 1] Tryd.underlying24 Tryd.underlying3 hi1 (by kernel_rfl) rfl
  have HEQ := Hd.mk heq
  clear hB hA ht hd hlen hyl hsplit hxs hys hby e0 e1 e2 e3 e4 e5 ec hi hz0 hz1 hz2 hi1 heq hgl
  go_enter Tryd.func3, Tryd.ntmps3
  go_wp2_with fail
  with_reducible refine C1.out.mono ?_
  rintro e w1 ⟨v, rfl, hown, hb1⟩
  rw [HYL.out] at hown
  have hA1 := HA.out.below hb1 (by simp)
  have HB1 := Hd.mk (HB.out.trans (hb1.mono HB.out.size)); have HA1 := Hd.mk hA1; have HO := Hd.mk hown
  have c0 : w1.cell? ⟨w.heap.size, 0, none⟩ = some (.int .i64 a0) := hA1.cell 0 rfl
  have c1 : w1.cell? ⟨w.heap.size, 1, none⟩ = some (.int .i64 a1) := hA1.cell 1 rfl
  have c2 : w1.cell? ⟨w.heap.size, 2, none⟩ = some (.int .i64 a2) := hA1.cell 2 rfl
  have c3 : w1.cell? ⟨w.heap.size, 3, none⟩ = some (.int .i64 a3) := hA1.cell 3 rfl
  have c4 : w1.cell? ⟨w.heap.size, 4, none⟩ = some (.int .i64 0) := hA1.cell 4 rfl
  have c5 : w1.cell? ⟨w.heap.size, 5, none⟩ = some (.int .i64 0) := hA1.cell 5 rfl
  have f4 := hA1.free 4; have f5 := hA1.free 5; have hlt := hA1.lt
  clear hown hb1 hA1 HA HB C1
  go_upto_region 7 with fail
  obtain ⟨W1, hW1⟩ : ∃ W1, W1 = ((w1.setCell ⟨w.heap.size, 4, none⟩ (.int .i64 1)).setCell ⟨w.heap.size, 5, none⟩ (.int .i64 1)) := ⟨_, rfl⟩
  rw [← hW1]
  have hA2 : Blk W1 w.heap.size #[.int .i64 a0, .int .i64 a1, .int .i64 a2, .int .i64 a3, .int .i64 1, .int .i64 1] 24 := by rw [hW1]; exact ((HA1.out.set 4 (.int .i64 1)).set 5 (.int .i64 1)).cast (by simp)
  have hO2 : W1.ownsRow (w.alloc (.cells #[.int .i64 a0, .int .i64 a1, .int .i64 a2, .int .i64 a3, .int .i64 0, .int .i64 0] 24)).heap.size 5 1 v 11 (bc ys) := by rw [hW1]; exact (ownsRow_setCell_below (ownsRow_setCell_below HO.out (a := ⟨w.heap.size, 4, none⟩) (by simp) _) (a := ⟨w.heap.size, 5, none⟩) (by simp) _)
  have hB2 : Below w.heap.size w W1 := by rw [hW1]; exact ((HB1.out.setCell (p := ⟨w.heap.size, 4, none⟩) (by simp) _).setCell (p := ⟨w.heap.size, 5, none⟩) (by simp) _)
  have HA2 := Hd.mk hA2; have HO2 := Hd.mk hO2; have HB2 := Hd.mk hB2
  clear hW1 hA2 hO2 hB2 HA1 HO HB1 c0 c1 c2 c3 c4 c5 f4 f5 hlt
  have c5 : W1.cell? ⟨w.heap.size, 5, none⟩ = some (.int .i64 1) := HA2.out.cell 5 rfl
  have hlt := HA2.out.lt
  have hown : (W1.alloc (.cells #[.int .u8 1, .int .u8 1, .int .u8 1] 5)).ownsRow (w.heap.size + 1) 5 1 v 11 (bc ys) := by simpa using HO2.out.alloc (.cells #[.int .u8 1, .int .u8 1, .int .u8 1] 5)
  have hrt : Rd (W1.alloc (.cells #[.int .u8 1, .int .u8 1, .int .u8 1] 5)) [] (some ⟨W1.heap.size, 0, none⟩) 3 [1, 1, 1] := rd_of_blk (Blk.new W1 #[.int .u8 1, .int .u8 1, .int .u8 1] 5) [1, 1, 1] (by simp) rfl
  have HRT := Hd.mk hrt; have HOW := Hd.mk hown
  clear hrt hown
  go_wp2_with (at_builtin; refine wpList_append_rd rfl (.tmp 44) (.tmp 48) 25 rfl (w.heap.size + 1) 5 i0 (.int .u8 0) Tryd.underlying25 I.out.1 I.out.2.1 I.out.2.2.1 I.out.2.2.2 rfl v 11 (bc ys) (by simp [Act.eval, Act.put]) HOW.out (some ⟨W1.heap.size, 0, none⟩) 3 3 [1, 1, 1] (by simp [Act.eval, Act.put]) HRT.out (by omega) (by simp <;> omega) ?_)
  intro v3 w3 hown3 hg3
  have hA3 : Blk w3 w.heap.size #[.int .i64 a0, .int .i64 a1, .int .i64 a2, .int .i64 a3, .int .i64 1, .int .i64 1] 24 := (HA2.out.alloc (.cells #[.int .u8 1, .int .u8 1, .int .u8 1] 5)).grown hg3 (fun he => by have := (HOW.out.lt _ he).1; omega)
  have hB3 : Below w.heap.size w w3 := (HB2.out.alloc HB2.out.size (.cells #[.int .u8 1, .int .u8 1, .int .u8 1] 5)).grown hg3 (by have := HB2.out.size; simp; omega) (fun j hj => by have := (HOW.out.lt j hj).1; omega)
  have hO3 : w3.ownsRow (w.heap.size + 1) 5 1 v3 14 (bc xs) := by rw [HSP.out]; simpa using hown3
  obtain ⟨g3, c2, rfl, k1, k2, k3⟩ := own_rd0 hO3 (by omega) (by omega)
  have HA3 := Hd.mk hA3; have HB3 := Hd.mk hB3; have R3 := Hd.mk k3
  have c0' : w3.cell? ⟨w.heap.size, 0, none⟩ = some (.int .i64 a0) := hA3.cell 0 rfl
  have c1' : w3.cell? ⟨w.heap.size, 1, none⟩ = some (.int .i64 a1) := hA3.cell 1 rfl
  have c2' : w3.cell? ⟨w.heap.size, 2, none⟩ = some (.int .i64 a2) := hA3.cell 2 rfl
  have c3' : w3.cell? ⟨w.heap.size, 3, none⟩ = some (.int .i64 a3) := hA3.cell 3 rfl
  have c4' : w3.cell? ⟨w.heap.size, 4, none⟩ = some (.int .i64 1) := hA3.cell 4 rfl
  have c5' : w3.cell? ⟨w.heap.size, 5, none⟩ = some (.int .i64 1) := hA3.cell 5 rfl
  have C2w := Hd.mk (C2.out w3 (glob_below HGL.out (hB3.mono (Nat.le_refl _))))
  clear hown3 hg3 hA3 hB3 hO3 k3 C2 HA2 HO2 HB2 HRT HOW hlt c5
  go_wp2_with fail
  with_reducible refine C2w.out.mono ?_
  rintro e w4 ⟨v4, rfl, hmade⟩
  obtain ⟨vv, hvv, hown4, m5⟩ := hmade
  cases hvv
  obtain ⟨g4, c, rfl, m1, m2, m3⟩ := own_rd0 hown4 (by rw [HLEN.out]; omega) (by rw [HLEN.out]; omega)
  have C3w := Hd.mk (C3.out (some ⟨g4, 0, none⟩) c w4 m3 m1 m2)
  rw [HLEN.out] at m1 m3
  rw [HLEN.out] at C3w ⊢
  have HB4 := Hd.mk (HB3.out.trans (m5.mono HB3.out.size)); have R4 := Hd.mk m3; have R3' := Hd.mk (R3.out.below m5); have HA4 := Hd.mk (HA3.out.below m5 HA3.out.lt)
  clear hown4 m2 m3 m5 C2w C3 HB3 R3 HA3 c0' c1' c2' c3' c4' c5'
  go_wp2_with fail
  with_reducible refine C3w.out.mono ?_
  rintro e w5 ⟨rfl, hb5⟩
  have hA5 := HA4.out.below hb5 HA4.out.lt
  have HB5 := Hd.mk (HB4.out.trans (hb5.mono HB4.out.size)); have R5 := Hd.mk (R4.out.below hb5); have R6 := Hd.mk (R3'.out.below hb5); have HA5 := Hd.mk hA5
  clear hb5 C3w HB4 R4 R3' HA4
  go_upto_region 11 with fail
  obtain ⟨W6, hW6⟩ : ∃ W6, W6 = w5.alloc (.cells #[.int .i64 a0, .int .i64 a1, .int .i64 a2, .int .i64 a3, .int .i64 1, .int .i64 1] 24) := ⟨_, rfl⟩
  rw [← hW6]
  have HB6 : Hd (Below w.heap.size w W6) := ⟨by rw [hW6]; exact HB5.out.alloc HB5.out.size _⟩
  have hb56 : Below w5.heap.size w5 W6 := by rw [hW6]; exact (Below.refl _ _).alloc (Nat.le_refl _) _
  have hN6 : Blk W6 w5.heap.size #[.int .i64 a0, .int .i64 a1, .int .i64 a2, .int .i64 a3, .int .i64 1, .int .i64 1] 24 := by rw [hW6]; exact Blk.new _ _ _
  have hA6 := hA5.below hb56 hA5.lt
  have d0 : W6.cell? ⟨w.heap.size, 0, none⟩ = some (.int .i64 a0) := hA6.cell 0 rfl
  have e0 : W6.cell? ⟨w5.heap.size, 0, none⟩ = some (.int .i64 a0) := hN6.cell 0 rfl
  have d1 : W6.cell? ⟨w.heap.size, 1, none⟩ = some (.int .i64 a1) := hA6.cell 1 rfl
  have e1 : W6.cell? ⟨w5.heap.size, 1, none⟩ = some (.int .i64 a1) := hN6.cell 1 rfl
  have d2 : W6.cell? ⟨w.heap.size, 2, none⟩ = some (.int .i64 a2) := hA6.cell 2 rfl
  have e2 : W6.cell? ⟨w5.heap.size, 2, none⟩ = some (.int .i64 a2) := hN6.cell 2 rfl
  have d3 : W6.cell? ⟨w.heap.size, 3, none⟩ = some (.int .i64 a3) := hA6.cell 3 rfl
  have e3 : W6.cell? ⟨w5.heap.size, 3, none⟩ = some (.int .i64 a3) := hN6.cell 3 rfl
  have d4 : W6.cell? ⟨w.heap.size, 4, none⟩ = some (.int .i64 1) := hA6.cell 4 rfl
  have e4 : W6.cell? ⟨w5.heap.size, 4, none⟩ = some (.int .i64 1) := hN6.cell 4 rfl
  have d5 : W6.cell? ⟨w.heap.size, 5, none⟩ = some (.int .i64 1) := hA6.cell 5 rfl
  have e5 : W6.cell? ⟨w5.heap.size, 5, none⟩ = some (.int .i64 1) := hN6.cell 5 rfl
  have q1 := R5.out.first 11 (by omega); have q2 := R6.out.first 11 (by omega); have q3 : Rd w5 [] (some ⟨g4, 11, none⟩) 3 ((xs.drop 11).take 3) := by simpa [Addr.add] using R5.out.part 11 3 (by omega)
  have q4 : Rd w5 [] (some ⟨g3, 11, none⟩) 3 ((xs.drop 11).take 3) := by simpa [Addr.add] using R6.out.part 11 3 (by omega)
  rw [HT.out] at q1 q2; rw [HDr.out] at q3 q4
  have s1 := fun j => str_run (P := Tryd.prog) (src := 25) (dst := 9) (c := c) Tryd.underlying25 Tryd.underlying5 Tryd.underlying9 ((q1.below hb56).below (bel_drewN _ _ j))
  have s2 := fun j => str_run (P := Tryd.prog) (src := 25) (dst := 9) (c := c2) Tryd.underlying25 Tryd.underlying5 Tryd.underlying9 ((q2.below hb56).below (bel_drewN _ _ j))
  have s3 := fun j => str_run (P := Tryd.prog) (src := 25) (dst := 9) (c := c - 11) Tryd.underlying25 Tryd.underlying5 Tryd.underlying9 ((q3.below hb56).below (bel_drewN _ _ j))
  have s4 := fun j => str_run (P := Tryd.prog) (src := 25) (dst := 9) (c := c2 - 11) Tryd.underlying25 Tryd.underlying5 Tryd.underlying9 ((q4.below hb56).below (bel_drewN _ _ j))
  obtain ⟨X, hX⟩ : ∃ X, strOfNums ys = X := ⟨_, rfl⟩
  obtain ⟨Y, hY⟩ : ∃ Y, strOfNums [1, 1, 1] = Y := ⟨_, rfl⟩
  simp only [hX] at s1 s2; simp only [hY] at s3 s4
  have h11 : ¬ c = 11 := by omega
  have h12 : ¬ c2 = 11 := by omega
  have h13 : (11 : Int) ≤ c := by omega
  have h14 : (11 : Int) ≤ c2 := by omega
  have heq := HEQ.out
  clear hW6 hb56 hN6 hA6 q1 q2 q3 q4 hX hY hA5 R5 R6 HA5 HB5 HEQ
  go_quiet (fail)
  go_wp2
  go_ret
  exact ⟨by simp, HB6.out.trans (bel_drewN _ _ _)⟩
theorem fill_cell {W : World} (h : laidMetH Tryd.prog YtnkengcajechbaaDoor.Rows.fnInitRow.laid W) : W.cell? ⟨0, 0, none⟩ = some (.int .u32 4294967295) := by
  rw [MakeChecks.laidMetH_plain _ _ _ (by kernel_rfl)] at h
  obtain ⟨ps, ⟨g, t, cs, fuel, p, q, hg, ht, hv, hd, _, _⟩, _, _⟩ := h
  obtain rfl := Option.some.inj ((show Tryd.prog.globalNamed "given.example/pub-anacrusis/pub/gohdb/driver/inner/protocol.initRequestFiller" = some 0 by kernel_rfl).symm.trans hg)
  obtain rfl := Option.some.inj ((show (Tryd.prog.globals[0]?).map (·.type) = some 66 by kernel_rfl).symm.trans ht)
  obtain ⟨z, e1, e2, _⟩ := DataW.trod_int Tryd.underlying66 hd
  have e3 : (YtnkengcajechbaaDoor.Rows.laid_given_example_pub_anacrusis_pub_gohdb_driver_inner_protocol_initRequestFiller : DataW Unit) = .lit (.int .u32 z) := congrArg Prod.fst e2
  unfold YtnkengcajechbaaDoor.Rows.laid_given_example_pub_anacrusis_pub_gohdb_driver_inner_protocol_initRequestFiller at e3
  simp only [DataW.lit.injEq, Lit.int.injEq, true_and] at e3
  rw [World.var?_cell hg hv 0, e3]
  have : cs.toList[0]? = some (.int .u32 z) := by rw [e1]; rfl
  simpa using this
theorem FnInit (a0 a1 a2 a3 : Int) (o r : Bool) (w : World) (h0 : (Lit.int .i8 a0).wf = true) (h1 : (Lit.int .i16 a1).wf = true) (h2 : (Lit.int .i8 a2).wf = true) (h3 : (Lit.int .i16 a3).wf = true) (hL : laidMetH Tryd.prog YtnkengcajechbaaDoor.Rows.fnInitRow.laid w) :
    Calls Tryd.prog 3 #[.int .i8 a0, .int .i16 a1, .int .i8 a2, .int .i16 a3, .bool o, .bool r] w fun e w' => e = .returned (.bool true) ∧ Below w.heap.size w w' := by
  cases o
  · exact law_init00 a0 a1 a2 a3 r w (bounds_i8 h0) (bounds_i16 h1) (bounds_i8 h2) (bounds_i16 h3) (fill_cell hL)
  · cases r
    · exact law_init10 a0 a1 a2 a3 w (bounds_i8 h0) (bounds_i16 h1) (bounds_i8 h2) (bounds_i16 h3) (fill_cell hL)
    · exact law_init11 a0 a1 a2 a3 w (bounds_i8 h0) (bounds_i16 h1) (bounds_i8 h2) (bounds_i16 h3) (fill_cell hL)
end Go.Proofs.YtnkengcajechbaaDoor.Kb
