/- The walk of FnMessage, put together. -/
import Derived.Test.YtbohjafchfeheaaMsg
import Derived.OpenShut
namespace Go.Proofs.Ytbohjafchfeheaa.Kb
open Go Go.RowKit
set_option linter.unusedVariables false
set_option linter.unusedSimpArgs false
set_option maxHeartbeats 1000000
set_option maxRecDepth 100000 in
theorem messageOf (A : Option Addr) (n c : Nat) (xs : List Int) (w : World) (hr : Rd w [] A n xs) (hn : n ≤ c) (hc : c ≤ maxLen) (hby : ∀ x ∈ xs, 0 ≤ x ∧ x < 256) (fit : 32 ≤ xs.length)
    (x0 x1 x2 x3 x4 : Int) (e0 : wrap64 (numL xs 0 8) = x0) (e1 : wrap32 (numL xs 8 4) = x1) (e2 : numL xs 12 4 = x2) (e3 : numL xs 16 4 = x3) (e4 : IntKind.i16.wrap (numL xs 20 2) = x4) :
    Calls Try.prog 30 #[.slice A n c] w fun e w' => e = .returned (.tuple #[.int .i64 x0, .int .i32 x1, .int .u32 x2, .int .u32 x3, .int .i16 x4, .int .i64 32, .int .i64 0]) ∧ Below w.heap.size w w' := by
  have C := Hd.mk (decoder_new A n c xs false false w hr hn hc hby)
  have E0 := Hd.mk e0; have E1 := Hd.mk e1; have E2 := Hd.mk e2; have E3 := Hd.mk e3; have E4 := Hd.mk e4; have HF := Hd.mk fit
  clear hr hn hc hby fit e0 e1 e2 e3 e4
  go_enter Try.func30, Try.ntmps30
  go_wp2_with fail
  with_reducible refine C.out.mono ?_
  intro e w1 h1
  obtain ⟨K, rfl, rfl, l1, l2, hd, hb⟩ := h1.to
  have HD := Hd.mk hd; have HB := Hd.mk hb; have L1 := Hd.mk l1; have L2 := Hd.mk l2
  clear h1 hd hb l1 l2 C
  go_wp2_with fail
  have C2 := zzMessageOf K w1 HD.out HF.out x0 x1 x2 x3 x4 E0.out E1.out E2.out E3.out E4.out
  with_reducible refine C2.mono ?_
  rintro e w2 ⟨rfl, hd, hb⟩
  have HD2 := Hd.mk hd
  have HB2 := Hd.mk (Bel.to' ((Bel.of (S := [K.d, K.sb]) HB.out).then hb HB.out.size (fun x hx _ => hx)) (fun x hx => by have := L1.out; have := L2.out; simp at hx; rcases hx with rfl | rfl <;> omega))
  clear hd hb HD HB E0 E1 E2 E3 E4 L1 L2
  go_wp2_with fail
  with_reducible refine (D_Cnt K _ _ _ _ HD2.out.b).mono ?_
  rintro e w3 ⟨rfl, rfl⟩
  go_wp2
  refine bodyPost_ret (v := .tuple #[.int .i64 x0, .int .i32 x1, .int .u32 x2, .int .u32 x3, .int .i16 x4, .int .i64 32, .int .i64 0]) (by simp [results, Try.results30, go_sem]) rfl ⟨rfl, HB2.out⟩
set_option maxRecDepth 100000 in
theorem law_message (a0 a1 a2 a3 a4 : Int) (w : World) (b0 : -9223372036854775808 ≤ a0 ∧ a0 ≤ 9223372036854775807) (b1 : -2147483648 ≤ a1 ∧ a1 ≤ 2147483647) (b2 : 0 ≤ a2 ∧ a2 < 4294967296) (b3 : 0 ≤ a3 ∧ a3 < 4294967296) (b4 : -32768 ≤ a4 ∧ a4 ≤ 32767) :
    Calls Try.prog 11 #[.int .i64 a0, .int .i32 a1, .int .u32 a2, .int .u32 a3, .int .i16 a4] w fun e w' => e = .returned (.bool true) ∧ Below w.heap.size w w' := by
  obtain ⟨xs, hxs⟩ : ∃ xs, xs = leB 8 a0 ++ (leB 4 a1 ++ (leB 4 a2 ++ (leB 4 a3 ++ (leB 2 a4 ++ (List.replicate 10 0))))) := ⟨_, rfl⟩
  have hlen : xs.length = 32 := by rw [hxs]; simp [leB_len]
  have hby : ∀ x ∈ xs, 0 ≤ x ∧ x < 256 := by
    rw [hxs]
    exact bytes_append (leB_byte _ _) (bytes_append (leB_byte _ _) (bytes_append (leB_byte _ _) (bytes_append (leB_byte _ _) (bytes_append (leB_byte _ _) (bytes_zero _)))))
  have hrow : rowB [(a0, 8), (a1, 4), (a2, 4), (a3, 4), (a4, 2), (0, 8), (0, 2)] = xs := by rw [hxs]; simp [rowB, leB]
  have e0 : wrap64 (numL xs 0 8) = a0 := by rw [hxs, num_here]; unfold wrap64; omega
  have e1 : wrap32 (numL xs 8 4) = a1 := by rw [hxs, num_next 8 4 0, num_here]; unfold wrap32; omega
  have e2 : numL xs 12 4 = a2 := by rw [hxs, num_next 8 4 4, num_next 4 4 0, num_here]; omega
  have e3 : numL xs 16 4 = a3 := by rw [hxs, num_next 8 4 8, num_next 4 4 4, num_next 4 4 0, num_here]; omega
  have e4 : IntKind.i16.wrap (numL xs 20 2) = a4 := by rw [hxs, num_next 8 2 12, num_next 4 2 8, num_next 4 2 4, num_next 4 2 0, num_here]; simp [IntKind.wrap, IntKind.bits, IntKind.signed]; omega
  have C1 := Hd.mk (messageBytes a0 a1 a2 a3 a4 w b2.1 b2.2 b3.1 b3.2)
  rw [← hxs] at C1
  have HLEN := Hd.mk hlen; have HBY := Hd.mk hby; have HROW := Hd.mk hrow; have E0 := Hd.mk e0; have E1 := Hd.mk e1; have E2 := Hd.mk e2; have E3 := Hd.mk e3; have E4 := Hd.mk e4
  obtain ⟨p0, q0⟩ := b0; obtain ⟨p1, q1⟩ := b1; obtain ⟨p2, q2⟩ := b2; obtain ⟨p3, q3⟩ := b3; obtain ⟨p4, q4⟩ := b4
  clear hlen hby hrow e0 e1 e2 e3 e4 hxs
  go_enter Try.func11, Try.ntmps11
  go_wp2_with fail
  with_reducible refine C1.out.mono ?_
  intro e w1 h1
  obtain ⟨A, c, rfl, k1, k2, k3, _, _, k4⟩ := h1.rd (by rw [HLEN.out]; omega)
  have K1 := Hd.mk k1; have K2 := Hd.mk k2; have K3 := Hd.mk k3; have K4 := Hd.mk k4
  clear h1 k1 k2 k3 k4 C1
  go_wp2_with fail
  have C2 := heRow2 [(a0, 8), (a1, 4), (a2, 4), (a3, 4), (a4, 2), (0, 8), (0, 2)] 7 #[.int .i64 a0, .int .i64 a1, .int .i64 a2, .int .i64 a3, .int .i64 a4, .int .i64 0, .int .i64 0] #[.int .i64 8, .int .i64 4, .int .i64 4, .int .i64 4, .int .i64 2, .int .i64 8, .int .i64 2] 2 3 w1 rfl rfl rfl (by simp) (by omega) xs HROW.out
  with_reducible refine C2.mono ?_
  intro e w2 h1
  obtain ⟨A2, c2, rfl, _, _, k3, _, _, k4⟩ := h1.rd (by rw [HLEN.out]; omega)
  have R1 := Hd.mk (K3.out.below k4); have R2 := Hd.mk k3; have B2 := Hd.mk (K4.out.trans (k4.mono K4.out.size))
  clear h1 k3 k4 C2 K3 K4
  go_wp2_with fail
  have C3 := messageOf A _ c xs w2 R1.out K1.out K2.out HBY.out (by rw [HLEN.out]; omega) a0 a1 a2 a3 a4 E0.out E1.out E2.out E3.out E4.out
  with_reducible refine C3.mono ?_
  rintro e w3 ⟨rfl, hb⟩
  have s1 := str_run (P := Try.prog) (src := 23) (dst := 9) (c := c) Try.underlying23 Try.underlying5 Try.underlying9 (R1.out.below hb)
  have s2 := str_run (P := Try.prog) (src := 23) (dst := 9) (c := c2) Try.underlying23 Try.underlying5 Try.underlying9 (R2.out.below hb)
  have B3 := Hd.mk (B2.out.trans (hb.mono B2.out.size))
  clear hb C3
  go_wp2
  go_ret
  exact ⟨by simp, B3.out⟩
theorem FnMessage (a0 a1 a2 a3 a4 : Int) (w : World) (h0 : (Lit.int .i64 a0).wf = true) (h1 : (Lit.int .i32 a1).wf = true) (h2 : (Lit.int .u32 a2).wf = true) (h3 : (Lit.int .u32 a3).wf = true) (h4 : (Lit.int .i16 a4).wf = true) :
    Calls Try.prog 11 #[.int .i64 a0, .int .i32 a1, .int .u32 a2, .int .u32 a3, .int .i16 a4] w fun e w' => e = .returned (.bool true) ∧ Below w.heap.size w w' := by
  have b2 := bounds_u32 h2
  have b3 := bounds_u32 h3
  exact law_message a0 a1 a2 a3 a4 w (bounds_i64 h0) (bounds_i32 h1) (by omega) (by omega) (bounds_i16 h4)
end Go.Proofs.Ytbohjafchfeheaa.Kb
