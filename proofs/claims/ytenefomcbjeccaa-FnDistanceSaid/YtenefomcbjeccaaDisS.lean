/- FnDistance: the reference's HeDistance. -/
import Derived.Test.YtenefomcbjeccaaDisI
import Derived.BigQuiet
import Derived.Deep.QuietTactic
namespace Go.Proofs.Ytenefomcbjeccaa.Kb
open Go Go.RowKit
set_option linter.unusedVariables false
set_option linter.unusedSimpArgs false
set_option maxHeartbeats 4000000
theorem quiet_same {P : Program} {f : FuncId} {args : Array Value} {w : World} {n : Nat} {v : Value} (c : ∀ W : World, Calls P f args W fun e w' => e = .returned v ∧ w' = W) :
    Calls P f args (w.drewN n) fun e w'' => e = .returned v ∧ ∃ m, w'' = w.drewN m := by
  refine (c _).mono ?_
  rintro e w' ⟨rfl, rfl⟩
  exact ⟨rfl, n, rfl⟩
/-- Which letters are one, by the reference. -/
def MS (sens : Bool) (a b : ByteArray) : Nat → Nat → Bool := fun i j => if sens then decide (at_ a i = at_ b j) else decide (lw (at_ a i) = lw (at_ b j))
set_option maxRecDepth 100000 in
theorem heDist (a b : ByteArray) (sens : Bool) (w : World) (ha : a.size ≤ 100) (hb : b.size ≤ 100) :
    Calls Try.prog 13 #[.string a, .string b, .bool sens] w fun e w' => DistOut (G (MS sens a b) a.size b.size) w e w' := by
  obtain ⟨M, hM⟩ : ∃ M, MS sens a b = M := ⟨_, rfl⟩
  rw [hM]
  have HM := Hd.mk hM
  clear hM
  go_enter Try.func13, Try.ntmps13
  go_wp2_with (refine wpList_make_z rfl _ _ 28 rfl 3 (.int .i64 0) 8 Try.underlying28 infoN rfl .i64 .i64 _ _ (b.size + 1) rfl rfl (by omega) (by omega) (by omega) (by omega) ?_)
  intro w2 hB hl hsz
  obtain ⟨g, hg⟩ : ∃ g, w.heap.size = g := ⟨_, rfl⟩
  have hgw : w.heap.size ≤ g := by omega
  rw [hg] at hB hl hsz ⊢
  rw [zs_mx _ (fun t => .int .i64 t)] at hB
  have HB := Hd.mk hB; have HL := Hd.mk (show Below w.heap.size w w2 by rw [hg]; exact hl)
  clear hB hl hsz hg
  go_wp2
  go_loopw [19] (fun i wr => ∃ k : Nat, k ≤ b.size + 1 ∧ i = .int .i64 k ∧ Blk wr g (mx (b.size + 1) (fun t => .int .i64 t) (fun _ => .int .i64 0) k).toArray 3 ∧ Below w.heap.size w wr) (fun i _ => b.size + 1 - (intOf i).toNat)
  case atStart => exact ⟨0, Nat.zero_le _, rfl, HB.out, HL.out⟩
  case round =>
    obtain ⟨k, hk, rfl, hB, hbw⟩ := hrel
    by_cases hlt : k < b.size + 1
    · have s0 : wr.cell? ⟨g, k, none⟩ = some (.int .i64 0) := hB.cell k (by simp only [List.getElem?_toArray]; rw [mx_get _ _ _ _ _ hlt, if_neg (Nat.lt_irrefl k)])
      have f0 := hB.free k
      have H2 := Hd.mk ((hB.set k (.int .i64 k)).cast (cs' := (mx (b.size + 1) (fun t => .int .i64 t) (fun _ => .int .i64 0) (k + 1)).toArray) (by
        rw [List.setIfInBounds_toArray, ← mx_set _ (fun t => Value.int .i64 t) _ k hlt]))
      have HB2 := Hd.mk (hbw.setCell (p := ⟨g, k, none⟩) hgw (.int .i64 k))
      clear hB hbw
      go_wp2
      go_roundw
      case rel => exact ⟨k + 1, by omega, by go_num, H2.out, HB2.out⟩
      case measure => simp [intOf]; omega
    · have ek : k = b.size + 1 := by omega
      subst ek
      have hB2 := hB.cast (cs' := (mx (b.size + 1) (fun _ => .nilIface) (rowV M 0) 0).toArray) (by
        congr 1
        exact mx_full _ _ _ _ _ (Nat.le_refl _))
      have HB3 := Hd.mk hB2; have HBW3 := Hd.mk hbw
      clear hB hB2 hbw HB HL
      go_wp2
      go_loopw [29] (fun iv wq => ∃ i : Nat, i ≤ a.size ∧ iv = .int .i64 i ∧ Blk wq g (mx (b.size + 1) (fun _ => .nilIface) (rowV M i) 0).toArray 3 ∧ Below w.heap.size w wq) (fun iv _ => a.size - (intOf iv).toNat)
      case atStart => exact ⟨0, Nat.zero_le _, rfl, HB3.out, HBW3.out⟩
      case round =>
        obtain ⟨i, hi, rfl, hB1, hbw1⟩ := hrel
        by_cases hilt : i < a.size
        · have s0 : wr.cell? ⟨g, 0, none⟩ = some (.int .i64 i) := hB1.cell 0 (by simp only [List.getElem?_toArray]; rw [mx_get _ _ _ _ _ (by omega), if_neg (by omega)]; simp [rowV, G_zero])
          have f0 := hB1.free 0
          have hB2 := (hB1.set 0 (.int .i64 ((i : Int) + 1))).cast (cs' := (mx (b.size + 1) (rowV M (i + 1)) (rowV M i) 1).toArray) (by
            rw [List.setIfInBounds_toArray, ← mx_set _ (rowV M (i + 1)) _ 0 (by omega)]
            have e : rowV M (i + 1) 0 = .int .i64 ((i : Int) + 1) := by simp [rowV, G_zero]
            rw [e, mx_full0 _ (rowV M (i + 1))])
          have hbw2 := hbw1.setCell (p := ⟨g, 0, none⟩) hgw (.int .i64 ((i : Int) + 1))
          have B2 := Hd.mk hB2; have BW2 := Hd.mk hbw2
          clear hB1 hbw1 hB2 hbw2
          have h64 : i ≤ 100 := by omega
          go_wp2
          obtain ⟨W3, hW3⟩ : ∃ W3, W3 = wr.setCell ⟨g, 0, none⟩ (.int .i64 ((i : Int) + 1)) := ⟨_, rfl⟩
          rw [← hW3] at B2 BW2 ⊢
          clear hW3 s0 f0
          go_loopw [42, 10] (fun jv dv wq => ∃ j : Nat, j ≤ b.size ∧ jv = .int .i64 j ∧ dv = .int .i64 (G M i j) ∧ Blk wq g (mx (b.size + 1) (rowV M (i + 1)) (rowV M i) (j + 1)).toArray 3 ∧ Below w.heap.size w wq) (fun jv _ _ => b.size - (intOf jv).toNat)
          case atStart => exact ⟨0, Nat.zero_le _, rfl, by rw [G_zero], B2.out, BW2.out⟩
          case round =>
            obtain ⟨j, hj, rfl, rfl, hB1, hbw1⟩ := hrel
            by_cases hjlt : j < b.size
            · have cu : wr.cell? ⟨g, j + 1, none⟩ = some (.int .i64 (G M i (j + 1))) := hB1.cell (j + 1) (by simp only [List.getElem?_toArray]; rw [mx_get _ _ _ _ _ (by omega), if_neg (by omega)]; rfl)
              have cl : wr.cell? ⟨g, j, none⟩ = some (.int .i64 (G M (i + 1) j)) := hB1.cell j (by simp only [List.getElem?_toArray]; rw [mx_get _ _ _ _ _ (by omega), if_pos (by omega)]; rfl)
              have fu := hB1.free (j + 1); have fl := hB1.free j
              have hn := G_next M i j
              have a1 := G_adj M i j; have a2 := G_up M i j
              have b1 := G_le M i j; have b2 := G_le M i (j + 1); have b3 := G_le M (i + 1) j
              have hset : ∀ v : Nat, v = G M (i + 1) (j + 1) → Blk (wr.setCell ⟨g, j + 1, none⟩ (.int .i64 v)) g (mx (b.size + 1) (rowV M (i + 1)) (rowV M i) (j + 1 + 1)).toArray 3 := fun v hv => (hB1.set (j + 1) (.int .i64 v)).cast (by
                rw [List.setIfInBounds_toArray, ← mx_set _ (rowV M (i + 1)) _ (j + 1) (by omega), hv]; rfl)
              have HS := Hd.mk hset; have HBW := Hd.mk hbw1
              have hM2 : M i j = MS sens a b i j := by rw [← HM.out]
              obtain ⟨d, hd⟩ : ∃ d, G M i j = d := ⟨_, rfl⟩
              obtain ⟨u, hu⟩ : ∃ u, G M i (j + 1) = u := ⟨_, rfl⟩
              obtain ⟨l, hl⟩ : ∃ l, G M (i + 1) j = l := ⟨_, rfl⟩
              rw [hd, hu, hl] at hn
              rw [hd, hu] at a1; rw [hd, hl] at a2
              rw [hd] at b1; rw [hu] at b2 cu; rw [hl] at b3 cl
              rw [hd]
              have hpa := at_get a i hilt; have hqb := at_get b j hjlt
              have p8 := at_lt a i; have q8 := at_lt b j
              unfold MS at hM2
              obtain ⟨p, hp⟩ : ∃ p, at_ a i = p := ⟨_, rfl⟩
              obtain ⟨q, hq⟩ : ∃ q, at_ b j = q := ⟨_, rfl⟩
              rw [hp, hq] at hM2
              rw [hp] at hpa p8; rw [hq] at hqb q8
              have wu := w64 u (by omega); have wl := w64 l (by omega); have wd := w64 d (by omega); have wj := w64 j (by omega)
              have hj1 : ((j : Int) + 1).toNat = j + 1 := by omega
              have hu' := Hd.mk hu
              have HN := Hd.mk hn
              clear hB1 hbw1 hset hu hl hd hp hq hn
              by_cases hpq : p = q
              · have HM2 : M i j = true := by rw [hM2]; simp [hpq]
                have HN2 : G M (i + 1) (j + 1) = d := by rw [HN.out, if_pos HM2]
                clear hM2 HM2 HN
                subst hpq
                go_wp2
                go_region
                all_goals
                  go_wp2
                  go_roundw
                  case rel => exact ⟨j + 1, by omega, by go_num, by rw [hu'.out], HS.out d HN2.symm, (HBW.out.setCell (p := ⟨g, j + 1, none⟩) hgw _).drew⟩
                  case measure => simp [intOf]; omega
              · have g1 : ((p : Int) == (q : Int)) = false := by simp; omega
                have g2 : ((p : Int) != (q : Int)) = true := by simp; omega
                have g3 : (p == q) = false := by simp [hpq]
                have g4 : (p != q) = true := by simp [hpq]
                have g5 : decide (p = q) = false := by simp [hpq]
                cases sens with
                | true =>
                  have HM2 : M i j = false := by rw [hM2]; simp [hpq]
                  obtain ⟨v, hv⟩ : ∃ v, 1 + min d (min l u) = v := ⟨_, rfl⟩
                  have HN2 : G M (i + 1) (j + 1) = v := by rw [HN.out, HM2, ← hv]; simp
                  have HV := Hd.mk hv
                  clear hM2 HM2 HN hv
                  go_wp2
                  go_region
                  all_goals
                    go_wp2
                    go_region
                    all_goals
                      go_wp2
                      go_roundw
                      case rel =>
                        have hv := HV.out
                        rw [show (1 + if (u : Int) < if l < d then (l : Int) else (d : Int) then (u : Int) else if l < d then (l : Int) else (d : Int)) = ((v : Nat) : Int) by by_cases hlu : l < d <;> simp only [hlu, if_true, if_false] <;> split <;> omega]
                        exact ⟨j + 1, by omega, by go_num, by rw [hu'.out], HS.out v HN2.symm, ((HBW.out.setCell (p := ⟨g, j + 1, none⟩) hgw _).drew).drew⟩
                      case measure => simp [intOf]; omega
                | false =>
                  have CP := Hd.mk (fun w => heLower p w p8)
                  have CQ := Hd.mk (fun w => heLower q w q8)
                  have lp : lw p < 256 := by unfold lw; split <;> omega
                  obtain ⟨p', hp'⟩ : ∃ p', lw p = p' := ⟨_, rfl⟩
                  obtain ⟨q', hq'⟩ : ∃ q', lw q = q' := ⟨_, rfl⟩
                  rw [hp', hq'] at hM2
                  simp only [hp'] at CP
                  simp only [hq'] at CQ
                  clear hp' hq' lp
                  by_cases hl' : p' = q'
                  · have HM2 : M i j = true := by rw [hM2]; simp [hl']
                    have HN2 : G M (i + 1) (j + 1) = d := by rw [HN.out, if_pos HM2]
                    clear hM2 HM2 HN
                    subst hl'
                    go_wp2
                    go_quiet (first | (go_at_call 26; (with_reducible refine (CP.out _).mono ?_); rintro e w' ⟨rfl, rfl⟩; exact ⟨rfl, _, rfl⟩) | (go_at_call 26; (with_reducible refine (CQ.out _).mono ?_); rintro e w' ⟨rfl, rfl⟩; exact ⟨rfl, _, rfl⟩))
                    all_goals
                      go_wp2
                      go_roundw
                      case rel => exact ⟨j + 1, by omega, by go_num, by rw [hu'.out], HS.out d HN2.symm, (below_drewN HBW.out _).setCell (p := ⟨g, j + 1, none⟩) hgw _⟩
                      case measure => simp [intOf]; omega
                  · have HM2 : M i j = false := by rw [hM2]; simp [hl']
                    obtain ⟨v, hv⟩ : ∃ v, 1 + min d (min l u) = v := ⟨_, rfl⟩
                    have HN2 : G M (i + 1) (j + 1) = v := by rw [HN.out, HM2, ← hv]; simp
                    have HV := Hd.mk hv
                    have k1 : ((p' : Int) == (q' : Int)) = false := by simp; omega
                    have k2 : ((p' : Int) != (q' : Int)) = true := by simp; omega
                    have k3 : (p' == q') = false := by simp [hl']
                    have k4 : (p' != q') = true := by simp [hl']
                    have k5 : decide (p' = q') = false := by simp [hl']
                    clear hM2 HM2 HN hv
                    go_wp2
                    go_quiet (first | (go_at_call 26; (with_reducible refine (CP.out _).mono ?_); rintro e w' ⟨rfl, rfl⟩; exact ⟨rfl, _, rfl⟩) | (go_at_call 26; (with_reducible refine (CQ.out _).mono ?_); rintro e w' ⟨rfl, rfl⟩; exact ⟨rfl, _, rfl⟩))
                    all_goals
                      go_wp2
                      go_region
                      all_goals
                        go_wp2
                        go_roundw
                        case rel =>
                          have hv := HV.out
                          rw [show (1 + if (u : Int) < if l < d then (l : Int) else (d : Int) then (u : Int) else if l < d then (l : Int) else (d : Int)) = ((v : Nat) : Int) by by_cases hlu : l < d <;> simp only [hlu, if_true, if_false] <;> split <;> omega]
                          exact ⟨j + 1, by omega, by go_num, by rw [hu'.out], HS.out v HN2.symm, (below_drewN HBW.out _).setCell (p := ⟨g, j + 1, none⟩) hgw _⟩
                        case measure => simp [intOf]; omega
            · obtain rfl : j = b.size := by omega
              have HB5 := Hd.mk (hB1.cast (cs' := (mx (b.size + 1) (fun _ => .nilIface) (rowV M (i + 1)) 0).toArray) (by congr 1; exact mx_full _ _ _ _ _ (Nat.le_refl _)))
              have HW5 := Hd.mk hbw1
              clear hB1 hbw1
              go_wp2
              go_roundw
              case rel => exact ⟨i + 1, by omega, by go_num, HB5.out, HW5.out⟩
              case measure => simp [intOf]; omega
        · obtain rfl : i = a.size := by omega
          have c0 : wr.cell? ⟨g, b.size, none⟩ = some (.int .i64 (G M a.size b.size)) := hB1.cell b.size (by simp only [List.getElem?_toArray]; rw [mx_get _ _ _ _ _ (by omega), if_neg (by omega)]; rfl)
          have f0 := hB1.free b.size
          have HW5 := Hd.mk hbw1
          clear hB1 hbw1
          go_wp2
          go_ret
          exact ⟨rfl, HW5.out⟩
end Go.Proofs.Ytenefomcbjeccaa.Kb
