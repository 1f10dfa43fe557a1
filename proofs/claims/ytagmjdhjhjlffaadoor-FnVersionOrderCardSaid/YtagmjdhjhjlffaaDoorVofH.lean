/- FnVersionOrder: the law. -/
import Derived.Test.YtagmjdhjhjlffaaDoorVofG
namespace Go.Proofs.YtagmjdhjhjlffaaDoor.Kb
open Go Go.RowKit
set_option linter.unusedVariables false
set_option linter.unusedSimpArgs false
set_option maxHeartbeats 6400000
def mix (A B : Nat → Nat) (k : Nat) : Nat → Nat := fun t => if t < k then A t else B t
theorem mix_step (A B : Nat → Nat) (k : Nat) (hk : k < 5) : (five (mix A B k)).setIfInBounds k (.int .u64 (A k)) = five (mix A B (k + 1)) := by
  have h := five_set (mix A B k) (mix A B (k + 1)) k hk (fun t _ ht => by simp only [mix]; by_cases h : t < k; rw [if_pos h, if_pos (by omega)]; rw [if_neg h, if_neg (by omega)])
  rw [show (mix A B (k + 1)) k = A k by simp [mix]] at h
  exact h
def modN (A : Nat → Nat) : Nat → Nat := fun t => if t = 0 then A 0 % 1000000 else if t = 1 then A 1 % 100 else if t = 2 then A 2 % 1000 else if t = 3 then A 3 % 100 else A 4 % 10000000000
theorem modN_fits (A : Nat → Nat) : Fits (modN A) := ⟨by simp [modN]; omega, by simp [modN]; omega, by simp [modN]; omega, by simp [modN]; omega, by simp [modN]; omega⟩
theorem five_real_zero {F : Nat → Nat} (h : isZ F = true) : ((five F).setIfInBounds 0 (.int .u64 1)).setIfInBounds 2 (.int .u64 120) = five (real F) := by
  have hz := of_decide_eq_true h
  obtain ⟨h0, h1, h2, h3, h4⟩ := hz
  simp [real, h, five, ver3, h1, h3, h4]
theorem cmpF_step (F G : Nat → Nat) (k : Nat) (hk : k < 4) : cmpF F G (4 - k) = if F k = G k then cmpF F G (4 - (k + 1)) else cmpN (F k) (G k) := by
  rw [show 4 - k = (4 - (k + 1)) + 1 by omega, cmpF, show 3 - (4 - (k + 1)) = k by omega]
theorem numbered (A : Nat → Nat) (hA : ∀ t, t < 5 → A t < 18446744073709551616) (w : World) (hP : Pow w) :
    Calls Tryd.prog 6 #[.agg #[.int .u64 (A 0), .int .u64 (A 1), .int .u64 (A 2), .int .u64 (A 3), .int .u64 (A 4)], .int .i64 5] w fun e w' => Numbered (modN A) (join (texts (modN A) 5)) w e w' :=
  scNumbers (A 0) (A 1) (A 2) (A 3) (A 4) (modN A) (modN A) 5 (by omega) (by omega) rfl rfl rfl rfl rfl (hA 0 (by omega)) (hA 1 (by omega)) (hA 2 (by omega)) (hA 3 (by omega)) (hA 4 (by omega)) (fun t h => by rw [if_pos h]) w hP
theorem cmp_last (w : World) : Calls Tryd.prog 9 #[.string ⟨#[50, 46, 48, 48, 46, 48]⟩, .string ⟨#[49, 46, 48, 48, 46, 48]⟩] w fun e w' => e = .returned (.int .i64 1) ∧ Below w.heap.size w w' := by
  have a2 : spl 4 [50, 46, 48, 48, 46, 48] = [[50], [48, 48], [48]] := by decide
  have a1 : spl 4 [49, 46, 48, 48, 46, 48] = [[49], [48, 48], [48]] := by decide
  have s2 : Spells [50, 46, 48, 48, 46, 48] (ver3 2 0 0) := ⟨by decide, by rw [a2]; decide, by
    rw [a2]; intro i hi
    have : i < 3 := hi
    rcases (by omega : i = 0 ∨ i = 1 ∨ i = 2) with rfl | rfl | rfl
    · exact ⟨(by decide : Lib.parseUintB 64 [50] = .ok 2), by simp⟩
    · exact ⟨(by decide : Lib.parseUintB 64 [48, 48] = .ok 0), by simp⟩
    · exact ⟨(by decide : Lib.parseUintB 64 [48] = .ok 0), by simp⟩, by
    rw [a2]; intro t h1 h2
    have : 3 ≤ t := h1
    simp only [ver3]; rw [if_neg (by omega), if_neg (by omega), if_neg (by omega)], by decide, by decide, by decide, by decide, by decide⟩
  have s1 : Spells [49, 46, 48, 48, 46, 48] (ver3 1 0 0) := ⟨by decide, by rw [a1]; decide, by
    rw [a1]; intro i hi
    have : i < 3 := hi
    rcases (by omega : i = 0 ∨ i = 1 ∨ i = 2) with rfl | rfl | rfl
    · exact ⟨(by decide : Lib.parseUintB 64 [49] = .ok 1), by simp⟩
    · exact ⟨(by decide : Lib.parseUintB 64 [48, 48] = .ok 0), by simp⟩
    · exact ⟨(by decide : Lib.parseUintB 64 [48] = .ok 0), by simp⟩, by
    rw [a1]; intro t h1 h2
    have : 3 ≤ t := h1
    simp only [ver3]; rw [if_neg (by omega), if_neg (by omega), if_neg (by omega)], by decide, by decide, by decide, by decide, by decide⟩
  have h := versionCompare [50, 46, 48, 48, 46, 48] [49, 46, 48, 48, 46, 48] (ver3 2 0 0) (ver3 1 0 0) s2 s1 w
  rw [show cmpF (real (ver3 2 0 0)) (real (ver3 1 0 0)) 4 = 1 by decide] at h
  exact h
set_option maxRecDepth 100000 in
theorem order_walk (A B : Nat → Nat) (hA : ∀ t, t < 5 → A t < 18446744073709551616) (hB : ∀ t, t < 5 → B t < 18446744073709551616) (m : Nat) (bm : m < 256) (w : World) (hP : Pow w) :
    Calls Tryd.prog 4 #[.agg (five A), .agg (five B), .int .u8 m] w fun e w' => e = .returned (.bool true) ∧ Below w.heap.size w w' := by
  obtain ⟨r, hr⟩ : ∃ r, m % 6 = r := ⟨_, rfl⟩
  have hr5 : r ≤ 5 := by omega
  have hmod : (m : Int) % 6 = (r : Int) := by omega
  have HA := Hd.mk hA; have HB := Hd.mk hB; have HP := Hd.mk hP
  clear hA hB hP hr bm
  have X := Hd.mk (Blk.new w (five A) 23)
  have Y := Hd.mk (Blk.new (w.alloc (.cells (five A) 23)) (five B) 23)
  have L := Hd.mk (((Below.refl w.heap.size w).alloc (Nat.le_refl _) (.cells (five A) 23)).alloc (by simp) (.cells (five B) 23))
  go_enter Tryd.func4, Tryd.ntmps4
  have hx := X.out.alloc (.cells (five B) 23)
  have hy : Blk ((w.alloc (.cells (five A) 23)).alloc (.cells (five B) 23)) (w.heap.size + 1) (five (mix A B 0)) 23 := by
    rw [five_congr (F := mix A B 0) (G := B) (fun t _ => by simp [mix])]
    simpa using Y.out
  have hl := L.out
  go_wp2
  obtain ⟨a0, ha0⟩ : ∃ a0, w.heap.size = a0 := ⟨_, rfl⟩
  obtain ⟨b0, hb0⟩ : ∃ b0, w.heap.size + 1 = b0 := ⟨_, rfl⟩
  have hab : a0 ≠ b0 := by omega
  have hba : w.heap.size ≤ b0 := by omega
  rw [hb0] at hy
  rw [hb0]
  rw [ha0] at hx
  rw [ha0]
  obtain ⟨W0, hW0⟩ : ∃ W0, W0 = (w.alloc (.cells (five A) 23)).alloc (.cells (five B) 23) := ⟨_, rfl⟩
  rw [← hW0] at hx hy hl ⊢
  have HX := Hd.mk hx; have HY := Hd.mk hy; have HL := Hd.mk hl; have HAB := Hd.mk (And.intro hab hba)
  clear hx hy hl hW0 X Y L ha0 hb0 hab hba
  go_loopw [7] (fun i W => ∃ k : Nat, k ≤ r ∧ i = .int .i64 k ∧ Blk W a0 (five A) 23 ∧ Blk W b0 (five (mix A B k)) 23 ∧ Below w.heap.size w W) (fun i _ => 5 - (intOf i).toNat)
  case atStart => exact ⟨0, by omega, rfl, HX.out, HY.out, HL.out⟩
  case round =>
    obtain ⟨k, hk, rfl, hA, hB, hb⟩ := hrel
    by_cases hlt : k < r
    · have ca := hA.cell k (five_at A k (by omega))
      have cb := hB.cell k (five_at (mix A B k) k (by omega))
      have fb := hB.free k
      have hki : (k : Int) < r := by omega
      have hk5 : (k : Int) < 5 := by omega
      have QA := Hd.mk (hA.set_ne (p := ⟨b0, k, none⟩) (Ne.symm HAB.out.1) (.int .u64 (A k)))
      have QB := Hd.mk ((hB.set k (.int .u64 (A k))).cast (mix_step A B k (by omega)))
      have QL := Hd.mk (hb.setCell (p := ⟨b0, k, none⟩) HAB.out.2 (.int .u64 (A k)))
      clear hA hB hb
      go_wp2
      go_roundw
      case rel => exact ⟨k + 1, by omega, by go_num, QA.out, QB.out, QL.out⟩
      case measure => simp [intOf]; omega
    · obtain rfl : k = r := by omega
      obtain ⟨B', hB'⟩ : ∃ B', mix A B k = B' := ⟨_, rfl⟩
      have HB' : Hd (∀ t, t < 5 → B' t < 18446744073709551616) := ⟨fun t ht => by
        rw [← hB']; simp only [mix]; split
        · exact HA.out t ht
        · exact HB.out t ht⟩
      rw [hB'] at hB
      have a0_ := hA.cell 0 (five_at A 0 (by omega)); have a1_ := hA.cell 1 (five_at A 1 (by omega)); have a2_ := hA.cell 2 (five_at A 2 (by omega)); have a3_ := hA.cell 3 (five_at A 3 (by omega)); have a4_ := hA.cell 4 (five_at A 4 (by omega))
      have QB := Hd.mk hB; have QL := Hd.mk hb
      have C1 := Hd.mk (numbered A HA.out wr (pow_below HP.out hb))
      clear hA hB hb hB' hlt
      go_wp2_with fail
      with_reducible refine C1.out.mono ?_
      intro e w1 h1
      obtain ⟨g1, rfl, hg1, hG1, hb1⟩ := h1
      have b0_ := (QB.out.below hb1 QB.out.lt).cell 0 (five_at B' 0 (by omega)); have b1_ := (QB.out.below hb1 QB.out.lt).cell 1 (five_at B' 1 (by omega)); have b2_ := (QB.out.below hb1 QB.out.lt).cell 2 (five_at B' 2 (by omega)); have b3_ := (QB.out.below hb1 QB.out.lt).cell 3 (five_at B' 3 (by omega)); have b4_ := (QB.out.below hb1 QB.out.lt).cell 4 (five_at B' 4 (by omega))
      have L1 := Hd.mk (QL.out.trans (hb1.mono QL.out.size))
      have G1 := Hd.mk hG1; have S1 := Hd.mk hg1
      have C2 := Hd.mk (numbered B' HB'.out w1 (pow_below HP.out L1.out))
      clear hG1 hb1 C1 a0_ a1_ a2_ a3_ a4_ hg1 QB
      go_wp2_with fail
      with_reducible refine C2.out.mono ?_
      intro e w2 h2
      obtain ⟨g2, rfl, hg2, hG2, hb2⟩ := h2
      have L2 := Hd.mk (L1.out.trans (hb2.mono L1.out.size))
      have G1' := Hd.mk (G1.out.below hb2 G1.out.lt)
      have G2 := Hd.mk hG2
      have HN := Hd.mk (show g1 ≠ g2 ∧ w.heap.size ≤ g1 ∧ w.heap.size ≤ g2 from by have := G1.out.lt; have := S1.out; have := QL.out.size; have := L1.out.size; omega)
      have P2 := Hd.mk (pow_below HP.out L2.out)
      have F1 := Hd.mk (modN_fits A); have F2 := Hd.mk (modN_fits B')
      obtain ⟨F, hF⟩ : ∃ F, modN A = F := ⟨_, rfl⟩
      obtain ⟨G, hG⟩ : ∃ G, modN B' = G := ⟨_, rfl⟩
      rw [hF] at F1 G1'
      rw [hG] at F2 G2
      rw [hF, hG]
      have SP1 := Hd.mk (spells_texts F 5 (by omega) (by omega) F1.out (fun t h1 h2 => by omega))
      have SP2 := Hd.mk (spells_texts G 5 (by omega) (by omega) F2.out (fun t h1 h2 => by omega))
      have Z := Hd.mk (Blk.new w2 #[.slice (some ⟨g1, 0, none⟩) 5 5, .slice (some ⟨g2, 0, none⟩) 5 5] 24)
      have CC := Hd.mk (fun W => versionCompare _ _ F G SP1.out SP2.out W)
      obtain ⟨T1, hT1⟩ : ∃ T1, S (join (texts F 5)) = T1 := ⟨_, rfl⟩
      obtain ⟨T2, hT2⟩ : ∃ T2, S (join (texts G 5)) = T2 := ⟨_, rfl⟩
      rw [hT1, hT2] at CC
      rw [hT1, hT2]
      clear hG2 hb2 C2 b0_ b1_ b2_ b3_ b4_ hg2 hF hG HB' HA HB L1 G1 QL S1 hT1 hT2 SP1 SP2
      go_wp2
      obtain ⟨z, hz⟩ : ∃ z, w2.heap.size = z := ⟨_, rfl⟩
      obtain ⟨W3, hW3⟩ : ∃ W3, W3 = w2.alloc (.cells #[.slice (some ⟨g1, 0, none⟩) 5 5, .slice (some ⟨g2, 0, none⟩) 5 5] 24) := ⟨_, rfl⟩
      have A1 := Hd.mk (G1'.out.alloc (.cells #[.slice (some ⟨g1, 0, none⟩) 5 5, .slice (some ⟨g2, 0, none⟩) 5 5] 24))
      have A2 := Hd.mk (G2.out.alloc (.cells #[.slice (some ⟨g1, 0, none⟩) 5 5, .slice (some ⟨g2, 0, none⟩) 5 5] 24))
      have A3 := Hd.mk (L2.out.alloc L2.out.size (.cells #[.slice (some ⟨g1, 0, none⟩) 5 5, .slice (some ⟨g2, 0, none⟩) 5 5] 24))
      have HZ1 := Hd.mk (show z ≠ g1 ∧ z ≠ g2 from by have := G1'.out.lt; have := G2.out.lt; omega)
      rw [← hW3] at Z A1 A2 A3 ⊢
      rw [hz] at Z ⊢
      clear hW3 hz G1' G2 L2
      go_loopw [46] (fun i W => ∃ k : Nat, k ≤ 2 ∧ i = .int .i64 k ∧ Blk W z #[.slice (some ⟨g1, 0, none⟩) 5 5, .slice (some ⟨g2, 0, none⟩) 5 5] 24 ∧ Blk W g1 (five (if 1 ≤ k then real F else F)) 22 ∧ Blk W g2 (five (if 2 ≤ k then real G else G)) 22 ∧ Below w.heap.size w W) (fun i _ => 2 - (intOf i).toNat)
      case atStart => exact ⟨0, by omega, rfl, Z.out, A1.out, A2.out, A3.out⟩
      case round =>
        obtain ⟨k, hk, rfl, hz, hA, hB, hb⟩ := hrel
        rcases (by omega : k = 0 ∨ k = 1 ∨ k = 2) with rfl | rfl | rfl
        · rw [show ((0 : Nat) : Int) = 0 from rfl]
          rw [if_neg (by omega)] at hA
          rw [if_neg (by omega)] at hB
          have cz := hz.cell 0 rfl
          have c0 := hA.cell 0 (five_at F 0 (by omega)); have c1 := hA.cell 1 (five_at F 1 (by omega)); have c2 := hA.cell 2 (five_at F 2 (by omega)); have c3 := hA.cell 3 (five_at F 3 (by omega)); have c4 := hA.cell 4 (five_at F 4 (by omega))
          have u := F1.out
          obtain ⟨f0, h0⟩ : ∃ n, F 0 = n := ⟨_, rfl⟩
          obtain ⟨f1, h1⟩ : ∃ n, F 1 = n := ⟨_, rfl⟩
          obtain ⟨f2, h2⟩ : ∃ n, F 2 = n := ⟨_, rfl⟩
          obtain ⟨f3, h3⟩ : ∃ n, F 3 = n := ⟨_, rfl⟩
          obtain ⟨f4, h4⟩ : ∃ n, F 4 = n := ⟨_, rfl⟩
          unfold Fits at u
          rw [h0, h1, h2, h3, h4] at u
          rw [h0] at c0; rw [h1] at c1; rw [h2] at c2; rw [h3] at c3; rw [h4] at c4
          obtain ⟨s1, k1⟩ : ∃ n, f0 + f1 = n := ⟨_, rfl⟩
          obtain ⟨s2, k2⟩ : ∃ n, s1 + f2 = n := ⟨_, rfl⟩
          obtain ⟨s3, k3⟩ : ∃ n, s2 + f3 = n := ⟨_, rfl⟩
          obtain ⟨s4, k4⟩ : ∃ n, s3 + f4 = n := ⟨_, rfl⟩
          have q1 : IntKind.u64.wrap ((f0 : Int) + f1) = (s1 : Int) := by rw [IntWalk.u64_in _ (by omega)]; omega
          have q2 : IntKind.u64.wrap ((s1 : Int) + f2) = (s2 : Int) := by rw [IntWalk.u64_in _ (by omega)]; omega
          have q3 : IntKind.u64.wrap ((s2 : Int) + f3) = (s3 : Int) := by rw [IntWalk.u64_in _ (by omega)]; omega
          have q4 : IntKind.u64.wrap ((s3 : Int) + f4) = (s4 : Int) := by rw [IntWalk.u64_in _ (by omega)]; omega
          have HS : Hd (s4 = F 0 + F 1 + F 2 + F 3 + F 4) := ⟨by omega⟩
          have QZ := Hd.mk hz; have QM := Hd.mk hA; have QO := Hd.mk hB; have QL := Hd.mk hb
          have fr := hA.free 0; have fr2 := hA.free 2
          clear hz hA hB hb k1 k2 k3 k4 u h0 h1 h2 h3 h4
          by_cases hs : s4 = 0
          · have HZ : Hd (isZ F = true) := ⟨isZ_true (by rw [← HS.out]; exact hs)⟩
            obtain rfl := hs
            go_wp2
            go_quiet (fail)
            have M1 := Hd.mk ((((QM.out.drewN nq).set 0 (.int .u64 1)).set 2 (.int .u64 120)).cast (five_real_zero HZ.out))
            have O1 := Hd.mk (((QO.out.drewN nq).set_ne (p := ⟨g1, 0, none⟩) HN.out.1 (.int .u64 1)).set_ne (p := ⟨g1, 2, none⟩) HN.out.1 (.int .u64 120))
            have Z1 := Hd.mk (((QZ.out.drewN nq).set_ne (p := ⟨g1, 0, none⟩) (Ne.symm HZ1.out.1) (.int .u64 1)).set_ne (p := ⟨g1, 2, none⟩) (Ne.symm HZ1.out.1) (.int .u64 120))
            have L1 := Hd.mk (((QL.out.trans ((below_drewN wr nq).mono QL.out.size)).setCell (p := ⟨g1, 0, none⟩) HN.out.2.1 (.int .u64 1)).setCell (p := ⟨g1, 2, none⟩) HN.out.2.1 (.int .u64 120))
            go_wp2
            go_roundw
            case rel => exact ⟨1, by omega, by go_num, Z1.out, by rw [if_pos (by omega)]; exact M1.out, by rw [if_neg (by omega)]; exact O1.out, L1.out⟩
            case measure => simp [intOf]
          · have HR : Hd (real F = F) := ⟨by simp [real, isZ_false (F := F) (by rw [← HS.out]; exact hs)]⟩
            have hs0 : ((s4 : Int) == 0) = false := by simp; omega
            clear hs
            go_wp2
            go_quiet (fail)
            have M1 : Hd (Blk (wr.drewN nq) g1 (five (real F)) 22) := ⟨by rw [HR.out]; exact QM.out.drewN nq⟩
            have O1 := Hd.mk (QO.out.drewN nq)
            go_wp2
            go_roundw
            case rel => exact ⟨1, by omega, by go_num, QZ.out.drewN nq, by rw [if_pos (by omega)]; exact M1.out, by rw [if_neg (by omega)]; exact O1.out, QL.out.trans ((below_drewN wr nq).mono QL.out.size)⟩
            case measure => simp [intOf]
        · rw [show ((1 : Nat) : Int) = 1 from rfl]
          rw [if_pos (by omega)] at hA
          rw [if_neg (by omega)] at hB
          have cz := hz.cell 1 rfl
          have c0 := hB.cell 0 (five_at G 0 (by omega)); have c1 := hB.cell 1 (five_at G 1 (by omega)); have c2 := hB.cell 2 (five_at G 2 (by omega)); have c3 := hB.cell 3 (five_at G 3 (by omega)); have c4 := hB.cell 4 (five_at G 4 (by omega))
          have u := F2.out
          obtain ⟨f0, h0⟩ : ∃ n, G 0 = n := ⟨_, rfl⟩
          obtain ⟨f1, h1⟩ : ∃ n, G 1 = n := ⟨_, rfl⟩
          obtain ⟨f2, h2⟩ : ∃ n, G 2 = n := ⟨_, rfl⟩
          obtain ⟨f3, h3⟩ : ∃ n, G 3 = n := ⟨_, rfl⟩
          obtain ⟨f4, h4⟩ : ∃ n, G 4 = n := ⟨_, rfl⟩
          unfold Fits at u
          rw [h0, h1, h2, h3, h4] at u
          rw [h0] at c0; rw [h1] at c1; rw [h2] at c2; rw [h3] at c3; rw [h4] at c4
          obtain ⟨s1, k1⟩ : ∃ n, f0 + f1 = n := ⟨_, rfl⟩
          obtain ⟨s2, k2⟩ : ∃ n, s1 + f2 = n := ⟨_, rfl⟩
          obtain ⟨s3, k3⟩ : ∃ n, s2 + f3 = n := ⟨_, rfl⟩
          obtain ⟨s4, k4⟩ : ∃ n, s3 + f4 = n := ⟨_, rfl⟩
          have q1 : IntKind.u64.wrap ((f0 : Int) + f1) = (s1 : Int) := by rw [IntWalk.u64_in _ (by omega)]; omega
          have q2 : IntKind.u64.wrap ((s1 : Int) + f2) = (s2 : Int) := by rw [IntWalk.u64_in _ (by omega)]; omega
          have q3 : IntKind.u64.wrap ((s2 : Int) + f3) = (s3 : Int) := by rw [IntWalk.u64_in _ (by omega)]; omega
          have q4 : IntKind.u64.wrap ((s3 : Int) + f4) = (s4 : Int) := by rw [IntWalk.u64_in _ (by omega)]; omega
          have HS : Hd (s4 = G 0 + G 1 + G 2 + G 3 + G 4) := ⟨by omega⟩
          have QZ := Hd.mk hz; have QM := Hd.mk hB; have QO := Hd.mk hA; have QL := Hd.mk hb
          have fr := hB.free 0; have fr2 := hB.free 2
          clear hz hA hB hb k1 k2 k3 k4 u h0 h1 h2 h3 h4
          by_cases hs : s4 = 0
          · have HZ : Hd (isZ G = true) := ⟨isZ_true (by rw [← HS.out]; exact hs)⟩
            obtain rfl := hs
            go_wp2
            go_quiet (fail)
            have M1 := Hd.mk ((((QM.out.drewN nq).set 0 (.int .u64 1)).set 2 (.int .u64 120)).cast (five_real_zero HZ.out))
            have O1 := Hd.mk (((QO.out.drewN nq).set_ne (p := ⟨g2, 0, none⟩) (Ne.symm HN.out.1) (.int .u64 1)).set_ne (p := ⟨g2, 2, none⟩) (Ne.symm HN.out.1) (.int .u64 120))
            have Z1 := Hd.mk (((QZ.out.drewN nq).set_ne (p := ⟨g2, 0, none⟩) (Ne.symm HZ1.out.2) (.int .u64 1)).set_ne (p := ⟨g2, 2, none⟩) (Ne.symm HZ1.out.2) (.int .u64 120))
            have L1 := Hd.mk (((QL.out.trans ((below_drewN wr nq).mono QL.out.size)).setCell (p := ⟨g2, 0, none⟩) HN.out.2.2 (.int .u64 1)).setCell (p := ⟨g2, 2, none⟩) HN.out.2.2 (.int .u64 120))
            go_wp2
            go_roundw
            case rel => exact ⟨2, by omega, by go_num, Z1.out, by rw [if_pos (by omega)]; exact O1.out, by rw [if_pos (by omega)]; exact M1.out, L1.out⟩
            case measure => simp [intOf]
          · have HR : Hd (real G = G) := ⟨by simp [real, isZ_false (F := G) (by rw [← HS.out]; exact hs)]⟩
            have hs0 : ((s4 : Int) == 0) = false := by simp; omega
            clear hs
            go_wp2
            go_quiet (fail)
            have M1 : Hd (Blk (wr.drewN nq) g2 (five (real G)) 22) := ⟨by rw [HR.out]; exact QM.out.drewN nq⟩
            have O1 := Hd.mk (QO.out.drewN nq)
            go_wp2
            go_roundw
            case rel => exact ⟨2, by omega, by go_num, QZ.out.drewN nq, by rw [if_pos (by omega)]; exact O1.out, by rw [if_pos (by omega)]; exact M1.out, QL.out.trans ((below_drewN wr nq).mono QL.out.size)⟩
            case measure => simp [intOf]
        · rw [if_pos (by omega)] at hA hB
          obtain ⟨F', hF'⟩ : ∃ F', real F = F' := ⟨_, rfl⟩
          obtain ⟨G', hG'⟩ : ∃ G', real G = G' := ⟨_, rfl⟩
          rw [hF'] at hA CC
          rw [hG'] at hB CC
          have QA := Hd.mk hA; have QB := Hd.mk hB; have QL := Hd.mk hb
          clear hz hA hB hb hF' hG'
          go_wp2
          go_loopw [14, 15] (fun v i W => ∃ k : Nat, k ≤ 4 ∧ i = .int .i64 ((k : Int) - 1) ∧ v = .int .i64 (cmpF F' G' (4 - k)) ∧ Blk W g1 (five F') 22 ∧ Blk W g2 (five G') 22 ∧ Below w.heap.size w W) (fun _ i _ => (intOf i + 1).toNat)
          case atStart => exact ⟨4, by omega, rfl, rfl, QA.out, QB.out, QL.out⟩
          case round =>
            obtain ⟨k, hk, rfl, rfl, hA, hB, hb⟩ := hrel
            cases k with
            | zero =>
              rw [show ((0 : Nat) : Int) - 1 = -1 from rfl, show 4 - 0 = 4 from rfl]
              obtain ⟨v, hv⟩ : ∃ v, cmpF F' G' 4 = v := ⟨_, rfl⟩
              rw [hv] at CC
              rw [hv]
              have QL := Hd.mk hb
              clear hA hB hb hv
              go_wp2_with fail
              with_reducible refine (CC.out _).mono ?_
              rintro e w5 ⟨rfl, hb5⟩
              have L5 := Hd.mk (QL.out.trans (hb5.mono QL.out.size))
              clear hb5
              go_wp2_with fail
              with_reducible refine (cmp_last _).mono ?_
              rintro e w6 ⟨rfl, hb6⟩
              have L6 := Hd.mk (L5.out.trans (hb6.mono L5.out.size))
              clear hb6
              go_wp2
              go_ret
              exact ⟨rfl, L6.out⟩
            | succ j =>
              rw [show ((j + 1 : Nat) : Int) - 1 = (j : Int) by omega]
              have ca := hA.cell j (five_at F' j (by omega)); have cb := hB.cell j (five_at G' j (by omega))
              have hst := cmpF_step F' G' j (by omega)
              have hw : IntKind.i64.wrap ((j : Int) - 1) = (j : Int) - 1 := IntWalk.i64_in _ (by omega)
              have hj0 : (0 : Int) ≤ j := by omega
              have hj5 : (j : Int) < 5 := by omega
              obtain ⟨x, hx⟩ : ∃ x, F' j = x := ⟨_, rfl⟩
              obtain ⟨y, hy⟩ : ∃ y, G' j = y := ⟨_, rfl⟩
              rw [hx] at ca hst; rw [hy] at cb hst
              obtain ⟨v, hv⟩ : ∃ v, cmpF F' G' (4 - (j + 1)) = v := ⟨_, rfl⟩
              rw [hv] at hst
              rw [hv]
              have QA := Hd.mk hA; have QB := Hd.mk hB; have QL := Hd.mk hb
              clear hA hB hb hv hx hy
              rcases (by omega : x < y ∨ y < x ∨ x = y) with h | h | rfl
              · have HT : Hd (cmpF F' G' (4 - j) = -1) := ⟨by rw [hst, if_neg (by omega)]; unfold cmpN; rw [if_neg (by omega), if_neg (by omega)]⟩
                have i1 : (x : Int) < y := by omega
                clear hst
                go_wp2
                go_quiet (fail)
                go_wp2
                go_roundw
                case rel => exact ⟨j, by omega, by go_num, by rw [HT.out], QA.out.drewN _, QB.out.drewN _, QL.out.trans ((below_drewN wr _).mono QL.out.size)⟩
                case measure => simp [intOf] <;> omega
              · have HT : Hd (cmpF F' G' (4 - j) = 1) := ⟨by rw [hst, if_neg (by omega)]; unfold cmpN; rw [if_neg (by omega), if_pos (by omega)]⟩
                have i2 : (y : Int) < x := by omega
                have i3 : ¬ x < y := by omega
                have d1 : decide ((x : Int) < (y : Int)) = false := by simp; omega
                have d3 : decide (x < y) = false := by simp; omega
                have d2 : decide ((y : Int) < (x : Int)) = true := by simp; omega
                have d4 : decide (y < x) = true := by simp; omega
                clear hst
                go_wp2
                go_quiet (fail)
                go_wp2
                go_quiet (fail)
                go_wp2
                go_roundw
                case rel => exact ⟨j, by omega, by go_num, by rw [HT.out], QA.out.drewN _, QB.out.drewN _, QL.out.trans ((below_drewN wr _).mono QL.out.size)⟩
                case measure => simp [intOf] <;> omega
              · have HT : Hd (cmpF F' G' (4 - j) = v) := ⟨by rw [hst, if_pos rfl]⟩
                clear hst
                go_wp2
                go_quiet (fail)
                go_wp2
                go_quiet (fail)
                go_wp2
                go_roundw
                case rel => exact ⟨j, by omega, by go_num, by rw [HT.out], QA.out.drewN _, QB.out.drewN _, QL.out.trans ((below_drewN wr _).mono QL.out.size)⟩
                case measure => simp [intOf] <;> omega
def of5 (a b c d e : Nat) : Nat → Nat := fun t => if t = 0 then a else if t = 1 then b else if t = 2 then c else if t = 3 then d else e
theorem of5_lt {a b c d e : Nat} (h0 : a < 18446744073709551616) (h1 : b < 18446744073709551616) (h2 : c < 18446744073709551616) (h3 : d < 18446744073709551616) (h4 : e < 18446744073709551616) (t : Nat) (_ : t < 5) : of5 a b c d e t < 18446744073709551616 := by
  unfold of5
  split
  · exact h0
  · split
    · exact h1
    · split
      · exact h2
      · split
        · exact h3
        · exact h4
theorem pow_of_order (w : World) (hL : laidMetH Tryd.prog YtagmjdhjhjlffaaDoor.Rows.fnVersionOrderRow.laid w) : Pow w := by
  have h : laidMet Tryd.prog YtagmjdhjhjlffaaDoor.Rows.fnVersionOrderRow.laid w := hL
  obtain ⟨ps, hv, _⟩ := h
  obtain ⟨g, t, cs, fuel, p, hg, ht, hvar, hd⟩ := Go.Lib.LaidVars_reads hv "internal/strconv.uint64pow10" YtagmjdhjhjlffaaDoor.Rows.laid_internal_strconv_uint64pow10 (by simp [YtagmjdhjhjlffaaDoor.Rows.fnVersionOrderRow])
  obtain rfl := Option.some.inj ((show Tryd.prog.globalNamed "internal/strconv.uint64pow10" = some 2 by kernel_rfl).symm.trans hg)
  obtain rfl := Option.some.inj ((show (Tryd.prog.globals[2]?).map (·.type) = some 80 by kernel_rfl).symm.trans ht)
  have e : (YtagmjdhjhjlffaaDoor.Rows.laid_internal_strconv_uint64pow10 : DataW Unit) = Go.Lib.tabData .u64 Go.Lib.pow10Tab := by kernel_rfl
  rw [e] at hd
  unfold Pow Go.Lib.TabIs
  rw [hvar, ← Go.Lib.cells_of_tab Tryd.underlying80 Tryd.underlying22 (by kernel_rfl) (by kernel_rfl) hd]
theorem FnVersionOrder (x0 x1 x2 x3 x4 y0 y1 y2 y3 y4 m : Int) (w : World) (h0 : (Lit.int .u64 x0).wf = true) (h1 : (Lit.int .u64 x1).wf = true) (h2 : (Lit.int .u64 x2).wf = true) (h3 : (Lit.int .u64 x3).wf = true) (h4 : (Lit.int .u64 x4).wf = true) (i0 : (Lit.int .u64 y0).wf = true) (i1 : (Lit.int .u64 y1).wf = true) (i2 : (Lit.int .u64 y2).wf = true) (i3 : (Lit.int .u64 y3).wf = true) (i4 : (Lit.int .u64 y4).wf = true) (hm : (Lit.int .u8 m).wf = true) (hL : laidMetH Tryd.prog YtagmjdhjhjlffaaDoor.Rows.fnVersionOrderRow.laid w) :
    Calls Tryd.prog 4 #[.agg #[.int .u64 x0, .int .u64 x1, .int .u64 x2, .int .u64 x3, .int .u64 x4], .agg #[.int .u64 y0, .int .u64 y1, .int .u64 y2, .int .u64 y3, .int .u64 y4], .int .u8 m] w fun e w' => e = .returned (.bool true) ∧ Below w.heap.size w w' := by
  obtain ⟨n0, rfl, b0⟩ := nat_u64 h0
  obtain ⟨n1, rfl, b1⟩ := nat_u64 h1
  obtain ⟨n2, rfl, b2⟩ := nat_u64 h2
  obtain ⟨n3, rfl, b3⟩ := nat_u64 h3
  obtain ⟨n4, rfl, b4⟩ := nat_u64 h4
  obtain ⟨m0, rfl, c0⟩ := nat_u64 i0
  obtain ⟨m1, rfl, c1⟩ := nat_u64 i1
  obtain ⟨m2, rfl, c2⟩ := nat_u64 i2
  obtain ⟨m3, rfl, c3⟩ := nat_u64 i3
  obtain ⟨m4, rfl, c4⟩ := nat_u64 i4
  obtain ⟨k, rfl, bk⟩ := nat_u8 hm
  exact order_walk (of5 n0 n1 n2 n3 n4) (of5 m0 m1 m2 m3 m4) (of5_lt b0 b1 b2 b3 b4) (of5_lt c0 c1 c2 c3 c4) k bk w (pow_of_order w hL)
end Go.Proofs.YtagmjdhjhjlffaaDoor.Kb
