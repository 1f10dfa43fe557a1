/- Versions: parseVersion. (Written by mkvofe.py.) -/
import Derived.Test.YtagmjdhjhjlffaaDoorVofD
namespace Go.Proofs.YtagmjdhjhjlffaaDoor.Kb
open Go Go.RowKit
open Go.ChangeMaps (setBlock)
set_option linter.unusedVariables false
set_option linter.unusedSimpArgs false
set_option maxHeartbeats 6400000
set_option maxRecDepth 100000 in
theorem parseVersion (l : List UInt8) (F : Nat → Nat) (h : Spells l F) (w : World) : Calls Tryd.prog 17 #[.string (S l)] w fun e w' => Parsed F w e w' := by
  have C1 := Hd.mk (parseVN l _ F h.len rfl h.many h.part h.rest w)
  clear h
  go_enter Tryd.func17, Tryd.ntmps17
  go_wp2_with fail
  with_reducible refine C1.out.mono ?_
  intro e w1 h1
  obtain ⟨g0, rfl, hg0, hB, hb⟩ := h1
  have C2 := Hd.mk (isZero g0 5 F w1 hB)
  have B0 := Hd.mk hB; have L0 := Hd.mk hb
  clear hB hb C1
  go_wp2_with fail
  with_reducible refine C2.out.mono ?_
  rintro e w1' ⟨rfl, rfl⟩
  clear C2
  cases hz : isZ F
  · have hre : real F = F := by simp [real, hz]
    obtain ⟨g, hg⟩ : ∃ g, g0 = g := ⟨_, rfl⟩
    obtain ⟨w2, hw2⟩ : ∃ w2, w1' = w2 := ⟨_, rfl⟩
    rw [hg] at hg0 B0 ⊢
    rw [hw2] at B0 L0 ⊢
    have B2 : Hd (Blk w2 g (five (real F)) 22) := ⟨by rw [hre]; exact B0.out⟩
    have L2 := L0
    have hgw := hg0
    clear hre hz hg hw2 B0 L0
    have C4 := Hd.mk (fun W => features W)
    go_wp2_with fail
    with_reducible refine (C4.out _).mono ?_
    intro e w3 h3
    obtain ⟨g1, g2, rfl, hM, hA, hB', hb3⟩ := h3
    obtain ⟨bm, hbm⟩ : ∃ bm, w2.heap.size = bm := ⟨_, rfl⟩
    rw [hbm] at hM ⊢
    have hrg := run_range_map (P := Tryd.prog) w3 54 22 37 bm (feats g1 g2) 2 Tryd.underlying54 hM
    have HI : Hd (Loop (real F) w g g1 g2 bm w3.heap.size #[] (w3.alloc (.mapIter (some bm) 2 #[] 2))) := ⟨⟨heap_alloc_new _ _, (heap_alloc_old _ _ (Array.getElem?_eq_some_iff.1 hM).1).trans hM, (B2.out.below hb3 B2.out.lt).alloc _, hA.alloc _, hB'.alloc _, (L2.out.trans (hb3.mono L2.out.size)).alloc (Nat.le_trans L2.out.size hb3.size) _⟩⟩
    have hr : w.heap.size ≤ w3.heap.size := Nat.le_trans L2.out.size hb3.size
    obtain ⟨r, hre⟩ : ∃ r, w3.heap.size = r := ⟨_, rfl⟩
    rw [hre] at hrg HI hr
    obtain ⟨W3, hW3⟩ : ∃ W3, W3 = w3.alloc (.mapIter (some bm) 2 #[] 2) := ⟨_, rfl⟩
    rw [← hW3] at hrg HI
    clear hM hA hB' hb3 hbm hre hW3
    go_wp2
    go_loopw [4] (fun f W => ∃ seen, Loop (real F) w g g1 g2 bm r seen W ∧ f = featS (real F) seen) (fun _ W => (leftOf (feats g1 g2) (W.iterSeen r)).size)
    case atStart => exact ⟨#[], HI.out, by simp [featS, featV, featN]⟩
    case round =>
      obtain ⟨seen, hL, rfl⟩ := hrel
      have HL := Hd.mk hL
      have law := run_next_at (P := Tryd.prog) wr 0 r bm 2 2 seen (feats g1 g2) 2 hL.it hL.map (feats_stamped g1 g2).1 (Nat.le_refl _)
      clear hL
      rcases law with ⟨h0, hrun⟩ | ⟨e, he, w5, hw5, hrun⟩
      · have hnx : ∀ ty, (Instr.next (.pointer (some ⟨r, 0, none⟩)) false ty).run Tryd.prog wr = _ := fun _ => hrun
        have HF := Hd.mk (featS_all (real F) g1 g2 seen h0)
        obtain ⟨x, hx⟩ : ∃ x : Nat, featS (real F) seen = .int .u64 x := ⟨_, rfl⟩
        rw [hx] at HF ⊢
        have HN := Hd.mk (Blk.new wr #[.slice (some ⟨g, 0, none⟩) 5 5, .int .u64 x] 45)
        clear hrun h0 hx
        go_wp2
        go_ret
        refine ⟨wr.heap.size, g, rfl, hgw, HL.out.below.size, ?_, HL.out.b.alloc _, HL.out.below.alloc HL.out.below.size _⟩
        rw [← HF.out]
        exact HN.out
      · have hN := HL.out.next (seen' := seen.push e.born) hw5 hr
        have hen := run_entry_at (P := Tryd.prog) (setBlock w5 r (.mapIter (some bm) 2 (seen.push e.born) 2)) r bm 2 seen (feats g1 g2) 2 e hN.it hN.map (mem_left he).1 (feats_stamped g1 g2).2.1
        have hsh := left_shrinks (feats g1 g2) seen e he
        obtain ⟨hin, hnot⟩ := mem_left he
        obtain ⟨W5, hW5⟩ : ∃ W5, W5 = setBlock w5 r (.mapIter (some bm) 2 (seen.push e.born) 2) := ⟨_, rfl⟩
        rw [← hW5] at hN hen hrun
        have hi0 : wr.iterSeen r = seen := by simp [World.iterSeen, HL.out.it]
        obtain ⟨b1, hb1⟩ : ∃ b1, (seen.contains 1 && has4 (real F)) = b1 := ⟨_, rfl⟩
        obtain ⟨b0, hb0⟩ : ∃ b0, (seen.contains 0 && has2 (real F)) = b0 := ⟨_, rfl⟩
        clear hW5 hw5 he
        simp only [feats, List.mem_cons, List.not_mem_nil, or_false] at hin
        rcases hin with rfl | rfl
        · have e0 : (seen.push 0).contains 0 = true := by rw [contains_push]; simp
          have e1 : (seen.push 0).contains 1 = seen.contains 1 := by rw [contains_push]; simp
          have hf : featS (real F) seen = featV false b1 := by simp only [featS]; rw [hb1, show seen.contains 0 = false from by simpa using hnot, Bool.false_and]
          have hf' : featS (real F) (seen.push 0) = featV (has2 (real F)) b1 := by simp only [featS]; rw [e0, e1, hb1, Bool.true_and]
          have C := Hd.mk (compare g g1 5 5 (real F) (ver3 2 0 0) W5 hN.b hN.b1)
          obtain ⟨z, hz⟩ : ∃ z, cmpF (real F) (ver3 2 0 0) 4 = z := ⟨_, rfl⟩
          rw [hz] at C
          have hh : has2 (real F) = decide (0 ≤ z) := by simp only [has2]; rw [hz]
          rw [hh] at hf'
          rw [hf]
          simp only at hrun hen
          have hnx : ∀ ty, (Instr.next (.pointer (some ⟨r, 0, none⟩)) false ty).run Tryd.prog wr = _ := fun _ => hrun
          have HN := Hd.mk hN; have HF := Hd.mk hf'; have HS := Hd.mk hsh; have HI0 := Hd.mk hi0
          clear hrun hN hf' hsh hi0 hf hh hz e0 e1 hnot hb0 hb1
          by_cases hz0 : 0 ≤ z
          all_goals
            have HZ := Hd.mk hz0
            cases b1
            all_goals
              first
              | rw [show featV false false = Value.int .u64 0 from rfl]
              | rw [show featV false true = Value.int .u64 4 from rfl]
              | rw [show featV true false = Value.int .u64 2 from rfl]
              go_wp2_with fail
              with_reducible refine C.out.mono ?_
              rintro e w6 ⟨rfl, n, rfl⟩
              have HN2 := Hd.mk (HN.out.drewN n)
              obtain ⟨W6, hW6⟩ : ∃ W6, W6 = W5.drewN n := ⟨_, rfl⟩
              rw [← hW6] at HN2 ⊢
              have HI6 : Hd (W6.iterSeen r = seen.push 0) := ⟨by simp [World.iterSeen, HN2.out.it]⟩
              clear hW6 hen
              go_wp2
              go_roundw
              case rel => exact ⟨_, HN2.out, by first | (rw [HF.out, decide_eq_true HZ.out]; rfl) | (rw [HF.out, decide_eq_false (Int.not_le.2 HZ.out)]; rfl)⟩
              case measure => rw [HI0.out, HI6.out]; exact HS.out
        · have e0 : (seen.push 1).contains 1 = true := by rw [contains_push]; simp
          have e1 : (seen.push 1).contains 0 = seen.contains 0 := by rw [contains_push]; simp
          have hf : featS (real F) seen = featV b0 false := by simp only [featS]; rw [hb0, show seen.contains 1 = false from by simpa using hnot, Bool.false_and]
          have hf' : featS (real F) (seen.push 1) = featV b0 (has4 (real F)) := by simp only [featS]; rw [e0, e1, hb0, Bool.true_and]
          have C := Hd.mk (compare g g2 5 5 (real F) (ver3 2 0 42) W5 hN.b hN.b2)
          obtain ⟨z, hz⟩ : ∃ z, cmpF (real F) (ver3 2 0 42) 4 = z := ⟨_, rfl⟩
          rw [hz] at C
          have hh : has4 (real F) = decide (0 ≤ z) := by simp only [has4]; rw [hz]
          rw [hh] at hf'
          rw [hf]
          simp only at hrun hen
          have hnx : ∀ ty, (Instr.next (.pointer (some ⟨r, 0, none⟩)) false ty).run Tryd.prog wr = _ := fun _ => hrun
          have HN := Hd.mk hN; have HF := Hd.mk hf'; have HS := Hd.mk hsh; have HI0 := Hd.mk hi0
          clear hrun hN hf' hsh hi0 hf hh hz e0 e1 hnot hb0 hb1
          by_cases hz0 : 0 ≤ z
          all_goals
            have HZ := Hd.mk hz0
            cases b0
            all_goals
              first
              | rw [show featV false false = Value.int .u64 0 from rfl]
              | rw [show featV false true = Value.int .u64 4 from rfl]
              | rw [show featV true false = Value.int .u64 2 from rfl]
              go_wp2_with fail
              with_reducible refine C.out.mono ?_
              rintro e w6 ⟨rfl, n, rfl⟩
              have HN2 := Hd.mk (HN.out.drewN n)
              obtain ⟨W6, hW6⟩ : ∃ W6, W6 = W5.drewN n := ⟨_, rfl⟩
              rw [← hW6] at HN2 ⊢
              have HI6 : Hd (W6.iterSeen r = seen.push 1) := ⟨by simp [World.iterSeen, HN2.out.it]⟩
              clear hW6 hen
              go_wp2
              go_roundw
              case rel => exact ⟨_, HN2.out, by first | (rw [HF.out, decide_eq_true HZ.out]; rfl) | (rw [HF.out, decide_eq_false (Int.not_le.2 HZ.out)]; rfl)⟩
              case measure => rw [HI0.out, HI6.out]; exact HS.out
  · have hre : real F = ver3 1 0 120 := by simp [real, hz]
    have C3 := Hd.mk (fun W => versionOne W)
    clear hz
    go_wp2_with fail
    with_reducible refine (C3.out _).mono ?_
    intro e w2 h2
    obtain ⟨g, rfl, hg, hB, hb⟩ := h2
    have B2 : Hd (Blk w2 g (five (real F)) 22) := ⟨by rw [hre]; exact hB⟩
    have hgw : w.heap.size ≤ g := Nat.le_trans L0.out.size hg
    have L2 := Hd.mk (L0.out.trans (hb.mono L0.out.size))
    clear hre hg hB hb C3 B0 L0 hg0
    have C4 := Hd.mk (fun W => features W)
    go_wp2_with fail
    with_reducible refine (C4.out _).mono ?_
    intro e w3 h3
    obtain ⟨g1, g2, rfl, hM, hA, hB', hb3⟩ := h3
    obtain ⟨bm, hbm⟩ : ∃ bm, w2.heap.size = bm := ⟨_, rfl⟩
    rw [hbm] at hM ⊢
    have hrg := run_range_map (P := Tryd.prog) w3 54 22 37 bm (feats g1 g2) 2 Tryd.underlying54 hM
    have HI : Hd (Loop (real F) w g g1 g2 bm w3.heap.size #[] (w3.alloc (.mapIter (some bm) 2 #[] 2))) := ⟨⟨heap_alloc_new _ _, (heap_alloc_old _ _ (Array.getElem?_eq_some_iff.1 hM).1).trans hM, (B2.out.below hb3 B2.out.lt).alloc _, hA.alloc _, hB'.alloc _, (L2.out.trans (hb3.mono L2.out.size)).alloc (Nat.le_trans L2.out.size hb3.size) _⟩⟩
    have hr : w.heap.size ≤ w3.heap.size := Nat.le_trans L2.out.size hb3.size
    obtain ⟨r, hre⟩ : ∃ r, w3.heap.size = r := ⟨_, rfl⟩
    rw [hre] at hrg HI hr
    obtain ⟨W3, hW3⟩ : ∃ W3, W3 = w3.alloc (.mapIter (some bm) 2 #[] 2) := ⟨_, rfl⟩
    rw [← hW3] at hrg HI
    clear hM hA hB' hb3 hbm hre hW3
    go_wp2
    go_loopw [4] (fun f W => ∃ seen, Loop (real F) w g g1 g2 bm r seen W ∧ f = featS (real F) seen) (fun _ W => (leftOf (feats g1 g2) (W.iterSeen r)).size)
    case atStart => exact ⟨#[], HI.out, by simp [featS, featV, featN]⟩
    case round =>
      obtain ⟨seen, hL, rfl⟩ := hrel
      have HL := Hd.mk hL
      have law := run_next_at (P := Tryd.prog) wr 0 r bm 2 2 seen (feats g1 g2) 2 hL.it hL.map (feats_stamped g1 g2).1 (Nat.le_refl _)
      clear hL
      rcases law with ⟨h0, hrun⟩ | ⟨e, he, w5, hw5, hrun⟩
      · have hnx : ∀ ty, (Instr.next (.pointer (some ⟨r, 0, none⟩)) false ty).run Tryd.prog wr = _ := fun _ => hrun
        have HF := Hd.mk (featS_all (real F) g1 g2 seen h0)
        obtain ⟨x, hx⟩ : ∃ x : Nat, featS (real F) seen = .int .u64 x := ⟨_, rfl⟩
        rw [hx] at HF ⊢
        have HN := Hd.mk (Blk.new wr #[.slice (some ⟨g, 0, none⟩) 5 5, .int .u64 x] 45)
        clear hrun h0 hx
        go_wp2
        go_ret
        refine ⟨wr.heap.size, g, rfl, hgw, HL.out.below.size, ?_, HL.out.b.alloc _, HL.out.below.alloc HL.out.below.size _⟩
        rw [← HF.out]
        exact HN.out
      · have hN := HL.out.next (seen' := seen.push e.born) hw5 hr
        have hen := run_entry_at (P := Tryd.prog) (setBlock w5 r (.mapIter (some bm) 2 (seen.push e.born) 2)) r bm 2 seen (feats g1 g2) 2 e hN.it hN.map (mem_left he).1 (feats_stamped g1 g2).2.1
        have hsh := left_shrinks (feats g1 g2) seen e he
        obtain ⟨hin, hnot⟩ := mem_left he
        obtain ⟨W5, hW5⟩ : ∃ W5, W5 = setBlock w5 r (.mapIter (some bm) 2 (seen.push e.born) 2) := ⟨_, rfl⟩
        rw [← hW5] at hN hen hrun
        have hi0 : wr.iterSeen r = seen := by simp [World.iterSeen, HL.out.it]
        obtain ⟨b1, hb1⟩ : ∃ b1, (seen.contains 1 && has4 (real F)) = b1 := ⟨_, rfl⟩
        obtain ⟨b0, hb0⟩ : ∃ b0, (seen.contains 0 && has2 (real F)) = b0 := ⟨_, rfl⟩
        clear hW5 hw5 he
        simp only [feats, List.mem_cons, List.not_mem_nil, or_false] at hin
        rcases hin with rfl | rfl
        · have e0 : (seen.push 0).contains 0 = true := by rw [contains_push]; simp
          have e1 : (seen.push 0).contains 1 = seen.contains 1 := by rw [contains_push]; simp
          have hf : featS (real F) seen = featV false b1 := by simp only [featS]; rw [hb1, show seen.contains 0 = false from by simpa using hnot, Bool.false_and]
          have hf' : featS (real F) (seen.push 0) = featV (has2 (real F)) b1 := by simp only [featS]; rw [e0, e1, hb1, Bool.true_and]
          have C := Hd.mk (compare g g1 5 5 (real F) (ver3 2 0 0) W5 hN.b hN.b1)
          obtain ⟨z, hz⟩ : ∃ z, cmpF (real F) (ver3 2 0 0) 4 = z := ⟨_, rfl⟩
          rw [hz] at C
          have hh : has2 (real F) = decide (0 ≤ z) := by simp only [has2]; rw [hz]
          rw [hh] at hf'
          rw [hf]
          simp only at hrun hen
          have hnx : ∀ ty, (Instr.next (.pointer (some ⟨r, 0, none⟩)) false ty).run Tryd.prog wr = _ := fun _ => hrun
          have HN := Hd.mk hN; have HF := Hd.mk hf'; have HS := Hd.mk hsh; have HI0 := Hd.mk hi0
          clear hrun hN hf' hsh hi0 hf hh hz e0 e1 hnot hb0 hb1
          by_cases hz0 : 0 ≤ z
          all_goals
            have HZ := Hd.mk hz0
            cases b1
            all_goals
              first
              | rw [show featV false false = Value.int .u64 0 from rfl]
              | rw [show featV false true = Value.int .u64 4 from rfl]
              | rw [show featV true false = Value.int .u64 2 from rfl]
              go_wp2_with fail
              with_reducible refine C.out.mono ?_
              rintro e w6 ⟨rfl, n, rfl⟩
              have HN2 := Hd.mk (HN.out.drewN n)
              obtain ⟨W6, hW6⟩ : ∃ W6, W6 = W5.drewN n := ⟨_, rfl⟩
              rw [← hW6] at HN2 ⊢
              have HI6 : Hd (W6.iterSeen r = seen.push 0) := ⟨by simp [World.iterSeen, HN2.out.it]⟩
              clear hW6 hen
              go_wp2
              go_roundw
              case rel => exact ⟨_, HN2.out, by first | (rw [HF.out, decide_eq_true HZ.out]; rfl) | (rw [HF.out, decide_eq_false (Int.not_le.2 HZ.out)]; rfl)⟩
              case measure => rw [HI0.out, HI6.out]; exact HS.out
        · have e0 : (seen.push 1).contains 1 = true := by rw [contains_push]; simp
          have e1 : (seen.push 1).contains 0 = seen.contains 0 := by rw [contains_push]; simp
          have hf : featS (real F) seen = featV b0 false := by simp only [featS]; rw [hb0, show seen.contains 1 = false from by simpa using hnot, Bool.false_and]
          have hf' : featS (real F) (seen.push 1) = featV b0 (has4 (real F)) := by simp only [featS]; rw [e0, e1, hb0, Bool.true_and]
          have C := Hd.mk (compare g g2 5 5 (real F) (ver3 2 0 42) W5 hN.b hN.b2)
          obtain ⟨z, hz⟩ : ∃ z, cmpF (real F) (ver3 2 0 42) 4 = z := ⟨_, rfl⟩
          rw [hz] at C
          have hh : has4 (real F) = decide (0 ≤ z) := by simp only [has4]; rw [hz]
          rw [hh] at hf'
          rw [hf]
          simp only at hrun hen
          have hnx : ∀ ty, (Instr.next (.pointer (some ⟨r, 0, none⟩)) false ty).run Tryd.prog wr = _ := fun _ => hrun
          have HN := Hd.mk hN; have HF := Hd.mk hf'; have HS := Hd.mk hsh; have HI0 := Hd.mk hi0
          clear hrun hN hf' hsh hi0 hf hh hz e0 e1 hnot hb0 hb1
          by_cases hz0 : 0 ≤ z
          all_goals
            have HZ := Hd.mk hz0
            cases b0
            all_goals
              first
              | rw [show featV false false = Value.int .u64 0 from rfl]
              | rw [show featV false true = Value.int .u64 4 from rfl]
              | rw [show featV true false = Value.int .u64 2 from rfl]
              go_wp2_with fail
              with_reducible refine C.out.mono ?_
              rintro e w6 ⟨rfl, n, rfl⟩
              have HN2 := Hd.mk (HN.out.drewN n)
              obtain ⟨W6, hW6⟩ : ∃ W6, W6 = W5.drewN n := ⟨_, rfl⟩
              rw [← hW6] at HN2 ⊢
              have HI6 : Hd (W6.iterSeen r = seen.push 1) := ⟨by simp [World.iterSeen, HN2.out.it]⟩
              clear hW6 hen
              go_wp2
              go_roundw
              case rel => exact ⟨_, HN2.out, by first | (rw [HF.out, decide_eq_true HZ.out]; rfl) | (rw [HF.out, decide_eq_false (Int.not_le.2 HZ.out)]; rfl)⟩
              case measure => rw [HI0.out, HI6.out]; exact HS.out
end Go.Proofs.YtagmjdhjhjlffaaDoor.Kb
