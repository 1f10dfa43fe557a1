/- Versions: zzSplitN. -/
import Derived.Test.YtagmjdhjhjlffaaDoorVerC
namespace Go.Proofs.YtagmjdhjhjlffaaDoor.Kb
open Go Go.RowKit
set_option linter.unusedVariables false
set_option linter.unusedSimpArgs false
set_option maxHeartbeats 6400000
def strs (l : List (List UInt8)) : List Value := l.map fun x => .string (S x)
theorem strs_snoc (l : List (List UInt8)) (x : List UInt8) : strs (l ++ [x]) = strs l ++ [.string (S x)] := by simp [strs]
/-- An own row of texts. -/
def Parts (l : List (List UInt8)) (w : World) (e : Ending) (w' : World) : Prop := ∃ v, e = .returned v ∧ w'.ownsRow w.heap.size 9 1 v l.length (strs l) ∧ Below w.heap.size w w'
theorem split_pt {l : List UInt8} (h : 46 ∈ l) : ∃ a r, l = a ++ 46 :: r ∧ (∀ c ∈ a, c ≠ 46) ∧ ∀ k, spl (k + 1) l = a :: spl k r := by
  induction l with
  | nil => simp at h
  | cons x t ih =>
    by_cases hx : x = 46
    · subst hx
      exact ⟨[], t, rfl, by simp, fun k => by simp [spl]⟩
    · have ht : 46 ∈ t := by
        rcases List.mem_cons.1 h with h | h
        · exact absurd h.symm hx
        · exact h
      obtain ⟨a, r, e, h1, h2⟩ := ih ht
      have h3 : ∀ c ∈ x :: a, c ≠ 46 := fun c hc => by
        rcases List.mem_cons.1 hc with rfl | hc
        · exact hx
        · exact h1 c hc
      refine ⟨x :: a, r, by rw [e]; rfl, h3, fun k => ?_⟩
      have hp := take_pt (r := r) h3
      rw [spl, if_pos h, e, show x :: (a ++ 46 :: r) = (x :: a) ++ 46 :: r from rfl, hp.1, hp.2]
      rfl
theorem spl_no {l : List UInt8} (h : 46 ∉ l) (k : Nat) : spl k l = [l] := by cases k <;> simp [spl, h]
set_option maxRecDepth 100000 in
theorem splitN (l : List UInt8) (hl : l.length ≤ 1000) (w : World) : Calls Tryd.prog 20 #[.string (S l), .int .i64 5] w fun e w' => Parts (spl 4 l) w e w' := by
  obtain ⟨i0, hi⟩ := info_of (P := Tryd.prog) (t := 9) (z := .string ⟨#[]⟩) (s := 1) (n := 16) (by kernel_rfl)
  have I := Hd.mk hi
  clear hi
  have HB0 := Hd.mk (Below.refl w.heap.size w)
  have HO0 : Hd (w.ownsRow w.heap.size 9 1 (.slice none 0 0) 0 (strs [])) := ⟨⟨rfl, .inl ⟨rfl, rfl⟩⟩⟩
  go_enter Tryd.func20, Tryd.ntmps20
  go_wp2
  go_loopw [0, 5] (fun x v wq => ∃ (d : List (List UInt8)) (r : List UInt8), d.length ≤ 4 ∧ r.length ≤ 1000 ∧ x = .string (S r) ∧ wq.ownsRow w.heap.size 9 1 v d.length (strs d) ∧ Below w.heap.size w wq ∧ spl 4 l = d ++ spl (4 - d.length) r) (fun _ v _ => 4 - lenOf v)
  case atStart => exact ⟨[], l, by simp, hl, rfl, HO0.out, HB0.out, rfl⟩
  case round =>
    obtain ⟨d, r, hd, hr, rfl, hown, hbw, hspl⟩ := hrel
    obtain ⟨j, hj⟩ : ∃ j, d.length = j := ⟨_, rfl⟩
    rw [hj] at hd hown hspl
    obtain ⟨A, c, rfl, hc1, hc2⟩ := own_slice hown
    have HJ := Hd.mk hj
    by_cases hlt : j < 4
    · have hji : (j : Int) < 4 := by omega
      by_cases hm : 46 ∈ r
      · obtain ⟨a, b, rfl, ha, hs⟩ := split_pt hm
        have C := Hd.mk (cut_at a b ha hr wr)
        have hb : b.length ≤ 1000 := by simp at hr; omega
        have HS : Hd (spl 4 l = (d ++ [a]) ++ spl (4 - (j + 1)) b) := ⟨by rw [hspl, show 4 - j = (4 - (j + 1)) + 1 by omega, hs]; simp⟩
        have HO := Hd.mk hown; have HBW := Hd.mk hbw
        clear hown hbw hspl hs ha hm hj hr
        go_wp2_with fail
        with_reducible refine C.out.mono ?_
        rintro e w1 ⟨rfl, hb1⟩
        have HB1 := Hd.mk ((HBW.out.trans (hb1.mono HBW.out.size)).alloc (Nat.le_trans HBW.out.size hb1.size) (.cells #[.string (S a)] 9))
        have HO1 := Hd.mk ((own_below HO.out hb1).alloc (.cells #[.string (S a)] 9))
        clear hb1 C
        go_wp2_with (at_builtin; refine wpList_append_one rfl (.tmp 22) (.tmp 24) 46 rfl Tryd.underlying46 I.out.1 I.out.2.1 I.out.2.2.1 I.out.2.2.2 rfl rfl HO1.out (by simp [Act.eval, Act.put]) (Blk.new w1 #[.string (S a)] 9) rfl (by unfold maxLen; omega) (by omega) HB1.out.size ?_)
        intro v2 w2 own2 g2
        have HO3 := Hd.mk own2
        have HB3 := Hd.mk (below_grown_own HB1.out HO1.out HB1.out.size (Nat.le_refl _) g2)
        clear own2 g2
        obtain ⟨A2, c2, rfl, _⟩ := own_slice HO3.out
        go_wp2
        go_roundw
        case rel =>
          refine ⟨d ++ [a], b, by simp [HJ.out]; omega, hb, rfl, ?_, HB3.out, ?_⟩
          · rw [strs_snoc]
            simpa [HJ.out] using HO3.out
          · rw [HS.out]
            simp [HJ.out]
        case measure => simp [lenOf]; omega
      · have C := Hd.mk (cut_no r (fun c hc he => hm (by rw [← he]; exact hc)) hr wr)
        have HS : Hd (spl 4 l = d ++ [r]) := ⟨by rw [hspl, spl_no hm]⟩
        have HO1 := Hd.mk (hown.alloc (.cells #[.string (S r)] 9)); have HB1 := Hd.mk (hbw.alloc hbw.size (.cells #[.string (S r)] 9))
        clear hown hbw hspl hm hj hr
        go_wp2_with fail
        with_reducible refine C.out.mono ?_
        rintro e w1 ⟨rfl, rfl⟩
        clear C
        go_wp2_with (at_builtin; refine wpList_append_one rfl (.tmp 27) (.tmp 29) 46 rfl Tryd.underlying46 I.out.1 I.out.2.1 I.out.2.2.1 I.out.2.2.2 rfl rfl HO1.out (by simp [Act.eval, Act.put]) (Blk.new w1 #[.string (S r)] 9) rfl (by unfold maxLen; omega) (by omega) HB1.out.size ?_)
        intro v2 w2 own2 g2
        have HO3 := Hd.mk own2
        have HB3 := Hd.mk (below_grown_own HB1.out HO1.out HB1.out.size (Nat.le_refl _) g2)
        clear own2 g2
        go_wp2
        go_ret
        refine ⟨v2, rfl, ?_, HB3.out⟩
        rw [HS.out, strs_snoc]
        simpa [HJ.out] using HO3.out
    · have hji : ¬ (j : Int) < 4 := by omega
      obtain rfl : j = 4 := by omega
      have HS : Hd (spl 4 l = d ++ [r]) := ⟨by rw [hspl]; rfl⟩
      have HO1 := Hd.mk (hown.alloc (.cells #[.string (S r)] 9)); have HB1 := Hd.mk (hbw.alloc hbw.size (.cells #[.string (S r)] 9))
      clear hown hbw hspl hj hr
      go_wp2_with (at_builtin; refine wpList_append_one rfl (.tmp 27) (.tmp 29) 46 rfl Tryd.underlying46 I.out.1 I.out.2.1 I.out.2.2.1 I.out.2.2.2 rfl rfl HO1.out (by simp [Act.eval, Act.put]) (Blk.new wr #[.string (S r)] 9) rfl (by unfold maxLen; omega) (by omega) HB1.out.size ?_)
      intro v2 w2 own2 g2
      have HO3 := Hd.mk own2
      have HB3 := Hd.mk (below_grown_own HB1.out HO1.out HB1.out.size (Nat.le_refl _) g2)
      clear own2 g2
      go_wp2
      go_ret
      refine ⟨v2, rfl, ?_, HB3.out⟩
      rw [HS.out, strs_snoc]
      simpa [HJ.out] using HO3.out
end Go.Proofs.YtagmjdhjhjlffaaDoor.Kb
