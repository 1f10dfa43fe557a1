/- FnLobChunks: the law. -/
import Derived.Test.YtagmjnlimiconaaLcC
namespace Go.Proofs.Ytagmjnlimiconaa.Kb
open Go Go.RowKit
set_option linter.unusedVariables false
set_option linter.unusedSimpArgs false
set_option maxHeartbeats 2000000
/-- The option of piece i. -/
def optN (L N i : Nat) : Int := if i = L / N then 6 else 2
theorem opt_get (L N i : Nat) (h : i < L / N + 1) : ((List.replicate (L / N) (2 : Int) ++ [6]).map (Value.int .i64))[i]? = some (.int .i64 (optN L N i)) := by
  unfold optN
  by_cases hi : i = L / N
  · subst hi
    simp
  · rw [if_neg hi]
    simp [List.getElem?_append, show i < L / N by omega]
theorem optN_last (L N i : Nat) (h : i = L / N) : optN L N i = 6 := if_pos h
theorem optN_more (L N i : Nat) (h : i ≠ L / N) : optN L N i = 2 := if_neg h
theorem own_at0 {w : World} {b n : Nat} {e : TypeId} {v : Value} {xs : List Value} (h : w.ownsRow b e 1 v n xs) (hn : 0 < n) : ∃ g c, v = .slice (some ⟨g, 0, none⟩) n c ∧ n ≤ c ∧ c ≤ maxLen ∧ (∀ j x, xs[j]? = some x → w.cell? ⟨g, j, none⟩ = some x) ∧ ∀ j, w.frozen? ⟨g, j, none⟩ = false := by
  rcases h.2 with ⟨_, rfl⟩ | ⟨g, c, cs, rfl, hb, hg, h1, h2, h3, h4⟩
  · omega
  · refine ⟨g, c, rfl, h1, h2, fun j x hx => Blk.cell (t := e) hg j ?_, fun j => Blk.free (t := e) hg j⟩
    have : (cs.toList.take (n * 1))[j]? = some x := by rw [h4]; exact hx
    rw [List.getElem?_take] at this
    split at this
    · rw [← Array.getElem?_toList, this]
    · cases this
theorem bel_drewN (B : Nat) (w : World) (q : Nat) : Below B w (w.drewN q) := ⟨rfl, rfl, rfl, Nat.le_refl _, fun _ _ => rfl⟩
theorem drewN_add (w : World) (a b : Nat) : (w.drewN a).drewN b = w.drewN (a + b) := by
  simp [World.drewN, Nat.add_assoc]
theorem piece_rd {w : World} {b n : Nat} {e : TypeId} {v : Value} {ys : List Int} {A : Option Addr} {n' c : Nat} (h : w.ownsRow b e 1 v n (bc ys)) (hv : v = .slice A n' c) (hs : n ≤ 140737488351232) : Rd w [] A n ys ∧ n' = n := by
  obtain ⟨A', c', h1, _, _, h2, _, _⟩ := own_rd h hs
  rw [hv] at h1
  cases h1
  exact ⟨h2, rfl⟩
set_option maxRecDepth 100000 in
theorem law_lobChunks (A : Option Addr) (n c m : Nat) (a1 : Int) (xs : List Int) (w : World) (hm : n ≤ 500 ∧ m = n ∨ 500 < n ∧ m = 500) (hbig : n ≤ 2147483647) (hnc : n ≤ c) (hcc : c ≤ 9223372036854775807) (hr : Rd w [] A m xs) (ha0 : 0 ≤ a1) (ha1 : a1 < 256) :
    Calls Try.prog 3 #[.slice A n c, .int .u8 a1] w fun e w' => e = .returned (.bool true) ∧ Below w.heap.size w w' := by
  obtain ⟨N, hN⟩ : ∃ N : Nat, (N : Int) = 3 + a1 % 58 := ⟨(3 + a1 % 58).toNat, by omega⟩
  have hN1 : 3 ≤ N := by omega
  have hN2 : N ≤ 60 := by omega
  have hnb : ¬ (2147483647 : Int) < n := by omega
  have hif : (if (500 : Int) < n then 500 else (n : Int)).toNat = m := by split <;> omega
  have HIF := Hd.mk hif
  clear hif
  have hmc : (m : Int) ≤ c := by omega
  have hmc' : m ≤ c := by omega
  have C := Hd.mk (lobChunks A m c xs N w hr hmc' hcc hN1 hN2 (by omega))
  have HR := Hd.mk hr; have HL := Hd.mk hr.len; have HN := Hd.mk hN
  clear hr
  have hNr : 3 + a1 % 58 = (N : Int) := hN.symm
  have m0 : (0 : Int) ≤ m := by omega
  clear hN
  have hm500 : m ≤ 500 := by omega
  have HMM := Hd.mk hm
  clear hm
  go_enter Try.func3, Try.ntmps3
  go_upto_region 3 with fail
  go_cut [0, 5] from 12 (fun s0 s5 wx => s0 = .slice A m c ∧ s5 = .int .i64 N ∧ wx = w)
  case first =>
    go_wp2_with fail
    all_goals
      go_meet
      case rel => exact ⟨by first | rw [HIF.out] | (have := HMM.out; congr 1; omega), rfl, rfl⟩
  obtain ⟨rfl, rfl, rfl⟩ := hcut
  go_wp2_with fail
  with_reducible refine C.out.mono ?_
  rintro e w1 ⟨v4, v5, vs, rfl, own4, own5, hpc, hbel⟩
  obtain ⟨K, hK⟩ : ∃ K, xs.length / N + 1 = K := ⟨_, rfl⟩
  have hKd : (m : Int) / N + 1 = (K : Int) := by rw [← hK, HL.out]; simp
  have hdl : (m : Int) / N ≤ m := Int.ediv_le_self _ (by omega)
  have hd0 : 0 ≤ (m : Int) / N := Int.ediv_nonneg (by omega) (by omega)
  have hw : wrap64 (wrap64 ((m : Int) / N) + 1) = K := by
    generalize (m : Int) / N = q at hdl hd0 hKd ⊢
    unfold wrap64
    omega
  have hKs : (K : Int) ≤ 1000 := by omega
  have HKd := Hd.mk hKd
  clear hKd hdl hd0
  rw [hK] at own4 own5
  have hK0 : 0 < K := by rw [← hK]; exact Nat.succ_pos _
  obtain ⟨g4, c4, rfl, q1, q2, cl4, fr4⟩ := own_at0 own4 hK0
  obtain ⟨g5, c5, rfl, q3, q4, cl5, fr5⟩ := own_at0 own5 hK0
  have hvl : vs.length = K := by have := own5.1; simpa using this
  have CL4 := Hd.mk cl4; have CL5 := Hd.mk cl5; have PC := Hd.mk hpc; have HB := Hd.mk hbel; have HK := Hd.mk hK; have HV := Hd.mk hvl
  clear own4 own5 hpc hbel hK hvl cl4 cl5 fr4 fr5 C
  have h1N : (1 : Int) ≤ N := by omega
  go_wp2_with fail
  clear hw
  go_loopw [9, 52] (fun s9 i wr => ∃ k : Nat, k ≤ K ∧ i = .int .i64 k ∧ ∃ q, wr = w1.drewN q) (fun _ i _ => K - (intOf i).toNat)
  case atStart => exact ⟨0, by omega, rfl, 0, rfl⟩
  case round =>
    obtain ⟨k, hk, rfl, q, rfl⟩ := hrel
    by_cases hlt : k < K
    · have hkv : k < vs.length := by rw [HV.out]; exact hlt
      obtain ⟨f, hf⟩ : ∃ f, k * N = f := ⟨_, rfl⟩
      have hfm : f ≤ m := by
        rw [← hf, ← HL.out]
        exact Nat.le_trans (Nat.mul_le_mul_right N (show k ≤ xs.length / N by have := HK.out; omega)) (Nat.div_mul_le_self _ _)
      have hfI : (k : Int) * N = f := by rw [← hf]; simp
      obtain ⟨A5, c5', hvk, hl5, _⟩ := own_slice (PC.out k hkv)
      obtain ⟨l, hl⟩ : ∃ l, (chunk xs N k).length = l := ⟨_, rfl⟩
      obtain ⟨r5, _⟩ := piece_rd (PC.out k hkv) hvk (by have := chunk_len xs N k; omega)
      rw [hl] at hvk r5
      have y5 : (w1.drewN q).cell? ⟨g5, k, none⟩ = some (.slice A5 l c5') := CL5.out k _ (by rw [List.getElem?_eq_getElem hkv, hvk])
      have y4 : (w1.drewN q).cell? ⟨g4, k, none⟩ = some (.int .i64 (optN m N k)) := CL4.out k _ (by rw [HL.out]; exact opt_get m N k (by have := HK.out; rw [HL.out] at this; omega))
      have s5 := fun j => str_run (P := Try.prog) (src := 22) (dst := 9) (c := c5') Try.underlying22 Try.underlying5 Try.underlying9 ((r5.below (bel_drewN _ _ q)).below (bel_drewN _ _ j))
      have rW : Rd w1 [] (rest A f c) l (chunk xs N k) := by
        have h1 := rd_rest (HR.out.below HB.out) hfm hmc'
        have h2 := rd_first h1 l (by rw [← hl, ← hf]; unfold chunk; simp [HL.out]; omega)
        rw [← hf] at h2 ⊢
        have e : (xs.drop (k * N)).take l = chunk xs N k := by
          unfold chunk at hl ⊢
          rw [← hl, List.take_eq_take_iff]
          simp
        rwa [e] at h2
      have k1 : (k : Int) + 1 ≤ K := by omega
      have f0 : (0 : Int) ≤ f := by omega
      have fm : (f : Int) ≤ m := by omega
      have fc : (f : Int) ≤ c := by omega
      have HF := Hd.mk hf; have HL1 := Hd.mk hl; have HVk := Hd.mk hvk; have R5 := Hd.mk r5; have RW := Hd.mk rW
      clear hf hl hvk r5 rW
      by_cases hlast : k + 1 = K
      · have hk2 : k = m / N := by have := HK.out; rw [HL.out] at this; omega
        have hfN : m < f + N := by
          have h1 := Nat.lt_mul_div_succ m (show 0 < N by omega)
          rw [← hk2] at h1
          have e : N * (k + 1) = k * N + N := by rw [Nat.mul_comm]; exact Nat.succ_mul k N
          rw [e, HF.out] at h1
          exact h1
        have hlN : l = m - f := by rw [← HL1.out]; unfold chunk; rw [HF.out]; simp [HL.out]; omega
        rw [optN_last m N k hk2] at y4
        obtain ⟨X, hX⟩ : ∃ X, strOfNums (chunk xs N k) = X := ⟨_, rfl⟩
        have hmn : (m : Int) < (f : Int) + N := by omega
        have d1 : ¬ ((k : Int) + 1 < K) := by omega
        have d3 : decide ((k : Int) + 1 < K) = false := by simp; omega
        obtain ⟨Wq, hWq⟩ : ∃ Wq, w1.drewN q = Wq := ⟨_, rfl⟩
        have HWq := Hd.mk hWq
        by_cases hcf : c = f
        · obtain rfl : m = c := by omega
          subst hcf
          obtain rfl : l = 0 := by omega
          have rr := RW.out
          unfold rest at rr
          rw [if_pos rfl] at rr
          have sW := fun j => str_run (P := Try.prog) (src := 22) (dst := 9) (c := 0) Try.underlying22 Try.underlying5 Try.underlying9 ((rr.below (bel_drewN _ _ q)).below (bel_drewN _ _ j))
          simp only [hX] at s5 sW
          simp only [hWq] at s5 sW y4 y5 ⊢
          clear hWq hX HF rr hk2 hlN
          go_wp2_with fail
          go_quiet (fail)
          go_wp2_with fail
          go_roundw
          case rel => exact ⟨k + 1, by omega, by go_num, q + nq, by rw [← HWq.out, drewN_add]⟩
          case measure => simp [intOf]; omega
        · subst hlN
          have rr := RW.out
          unfold rest at rr
          rw [if_neg hcf] at rr
          have sW := fun j => str_run (P := Try.prog) (src := 22) (dst := 9) (c := c - f) Try.underlying22 Try.underlying5 Try.underlying9 ((rr.below (bel_drewN _ _ q)).below (bel_drewN _ _ j))
          simp only [hX] at s5 sW
          simp only [hWq] at s5 sW y4 y5 ⊢
          clear hWq hX HF rr hk2
          go_wp2_with fail
          go_quiet (fail)
          go_wp2_with fail
          go_roundw
          case rel => exact ⟨k + 1, by omega, by go_num, q + nq, by rw [← HWq.out, drewN_add]⟩
          case measure => simp [intOf]; omega
      · have hk2 : k ≠ m / N := by have := HK.out; rw [HL.out] at this; omega
        have hfN : f + N ≤ m := by
          have h1 : (k + 1) * N ≤ m := by
            rw [← HL.out]
            exact Nat.le_trans (Nat.mul_le_mul_right N (show k + 1 ≤ xs.length / N by have := HK.out; omega)) (Nat.div_mul_le_self _ _)
          have e : (k + 1) * N = k * N + N := Nat.succ_mul k N
          rw [e, HF.out] at h1
          exact h1
        have hlN : l = N := by rw [← HL1.out]; unfold chunk; rw [HF.out]; simp [HL.out]; omega
        subst hlN
        rw [optN_more m l k hk2] at y4
        have hcf : ¬ c = f := by omega
        have rr := RW.out
        unfold rest at rr
        rw [if_neg hcf] at rr
        have sW := fun j => str_run (P := Try.prog) (src := 22) (dst := 9) (c := c - f) Try.underlying22 Try.underlying5 Try.underlying9 ((rr.below (bel_drewN _ _ q)).below (bel_drewN _ _ j))
        obtain ⟨X, hX⟩ : ∃ X, strOfNums (chunk xs l k) = X := ⟨_, rfl⟩
        simp only [hX] at s5 sW
        have hmn : ¬ ((m : Int) < (f : Int) + l) := by omega
        have hmn2 : decide ((m : Int) < (f : Int) + l) = false := by simp; omega
        have d1 : decide ((k : Int) + 1 < K) = true := by simp; omega
        have d2 : ((k : Int) + 1 == K) = false := by simp; omega
        clear hX HF rr
        obtain ⟨Wq, hWq⟩ : ∃ Wq, w1.drewN q = Wq := ⟨_, rfl⟩
        have HWq := Hd.mk hWq
        simp only [hWq] at s5 sW y4 y5 ⊢
        clear hWq
        go_wp2_with fail
        go_quiet (fail)
        go_wp2_with fail
        go_roundw
        case rel => exact ⟨k + 1, by omega, by go_num, q + nq, by rw [← HWq.out, drewN_add]⟩
        case measure => simp [intOf]; omega
    · obtain rfl : k = K := by omega
      go_wp2
      go_ret
      exact ⟨rfl, HB.out.trans (bel_drewN _ _ q)⟩
theorem rd_row_inL {a : Option Addr} {len cap : Nat} {zs : List Int} {w : World} (h : (a = none ∧ len = 0 ∧ cap = 0 ∧ zs = []) ∨ ∃ x, a = some x ∧ len ≤ cap ∧ cap ≤ maxLen ∧ zs.length = cap ∧ (∀ i, i < zs.length → w.cell? (x.add i) = some (.int .u8 (zs.getD i 0))) ∧ ∀ n ∈ zs, (Lit.int .u8 n).wf = true) (hs : len * 1 ≤ 140737488351232) (m : Nat) (hm : m ≤ len) :
    len ≤ cap ∧ cap ≤ maxLen ∧ Rd w [] a m (zs.take m) ∧ ∀ x ∈ zs.take m, 0 ≤ x ∧ x < 256 := by
  rcases h with ⟨rfl, rfl, rfl, rfl⟩ | ⟨x, rfl, h1, h2, h3, h4, h5⟩
  · exact ⟨Nat.le_refl _, by decide, ⟨by simp; omega, by omega, fun j hj => by simp at hj⟩, by simp⟩
  · refine ⟨h1, h2, ⟨by simp; omega, by omega, fun j hj => ?_⟩, ?_⟩
    · simp at hj
      have hc := h4 j (by omega)
      refine ⟨x, rfl, ?_, ?_, by simp⟩
      · rw [hc, List.getD_eq_getElem?_getD, List.getElem?_eq_getElem (by omega)]
        simp
      · rcases Nat.lt_or_ge (x.add j).block w.heap.size with h' | h'
        · rwa [add_block] at h'
        · simp [World.cell?, Array.getElem?_eq_none h'] at hc
    · intro y hy
      have := bounds_u8 (h5 y (List.mem_of_mem_take hy))
      omega
theorem FnLobChunks (A : Option Addr) (len cap : Nat) (zs : List Int) (a1 : Int) (w : World) (h : (A = none ∧ len = 0 ∧ cap = 0 ∧ zs = []) ∨ ∃ x, A = some x ∧ len ≤ cap ∧ cap ≤ maxLen ∧ zs.length = cap ∧ (∀ i, i < zs.length → w.cell? (x.add i) = some (.int .u8 (zs.getD i 0))) ∧ ∀ n ∈ zs, (Lit.int .u8 n).wf = true) (hs : len * 1 ≤ 140737488351232) (hw : (Lit.int .u8 a1).wf = true) :
    Calls Try.prog 3 #[.slice A len cap, .int .u8 a1] w fun e w' => e = .returned (.bool true) ∧ Below w.heap.size w w' := by
  have hb := bounds_u8 hw
  by_cases hbig : len > 2147483647
  · have hbig' : (2147483647 : Int) < len := by omega
    clear h hs hw
    go_enter Try.func3, Try.ntmps3
    go_wp2
    go_ret
    exact ⟨rfl, Below.refl _ _⟩
  obtain ⟨m, hm⟩ : ∃ m : Nat, len ≤ 500 ∧ m = len ∨ 500 < len ∧ m = 500 := by
    by_cases h : len ≤ 500
    · exact ⟨len, .inl ⟨h, rfl⟩⟩
    · exact ⟨500, .inr ⟨by omega, rfl⟩⟩
  obtain ⟨h1, h2, h3, h4⟩ := rd_row_inL h hs m (by omega)
  unfold maxLen at h2
  exact law_lobChunks A len cap m a1 (zs.take m) w hm (by omega) h1 h2 h3 (by omega) (by omega)
end Go.Proofs.Ytagmjnlimiconaa.Kb
