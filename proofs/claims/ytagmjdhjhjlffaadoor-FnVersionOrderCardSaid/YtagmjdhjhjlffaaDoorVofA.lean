/- Versions: compareUint64, compare, isZero. -/
import Derived.Test.YtagmjdhjhjlffaaDoorVerH
namespace Go.Proofs.YtagmjdhjhjlffaaDoor.Kb
open Go Go.RowKit
set_option linter.unusedVariables false
set_option linter.unusedSimpArgs false
set_option maxHeartbeats 6400000
def cmpN (u v : Nat) : Int := if u = v then 0 else if v < u then 1 else -1
/-- What compare says from number k on. -/
def cmpF (F G : Nat → Nat) : Nat → Int
  | 0 => 0
  | n + 1 => if F (3 - n) = G (3 - n) then cmpF F G n else cmpN (F (3 - n)) (G (3 - n))
set_option maxRecDepth 100000 in
theorem compareU (u v : Nat) (w : World) : Calls Tryd.prog 32 #[.int .u64 u, .int .u64 v] w fun e w' => e = .returned (.int .i64 (cmpN u v)) ∧ w' = w := by
  rcases (by omega : u = v ∨ (u ≠ v ∧ v < u) ∨ (u ≠ v ∧ ¬ v < u)) with rfl | ⟨h1, h2⟩ | ⟨h1, h2⟩
  · go_enter Tryd.func32, Tryd.ntmps32
    go_wp2
    go_ret
    exact ⟨by simp [cmpN], rfl⟩
  · have e : ((u : Int) == v) = false := by simp; omega
    have g : (v : Int) < u := by omega
    have H : cmpN u v = 1 := by unfold cmpN; rw [if_neg h1, if_pos h2]
    rw [H]
    clear h1 h2 H
    go_enter Tryd.func32, Tryd.ntmps32
    go_wp2
    go_ret
    exact ⟨rfl, rfl⟩
  · have e : ((u : Int) == v) = false := by simp; omega
    have g : ¬ (v : Int) < u := by omega
    have H : cmpN u v = -1 := by unfold cmpN; rw [if_neg h1, if_neg h2]
    rw [H]
    clear h1 h2 H
    go_enter Tryd.func32, Tryd.ntmps32
    go_wp2
    go_ret
    exact ⟨rfl, rfl⟩
def isZ (F : Nat → Nat) : Bool := decide (F 0 = 0 ∧ F 1 = 0 ∧ F 2 = 0 ∧ F 3 = 0 ∧ F 4 = 0)
set_option maxRecDepth 100000 in
theorem isZero (g c : Nat) (F : Nat → Nat) (w : World) (hB : Blk w g (five F) 22) : Calls Tryd.prog 24 #[.slice (some ⟨g, 0, none⟩) 5 c] w fun e w' => e = .returned (.bool (isZ F)) ∧ w' = w := by
  have HB := Hd.mk hB
  clear hB
  go_enter Tryd.func24, Tryd.ntmps24
  go_wp2
  go_loop [7] (fun i => ∃ k : Nat, k ≤ 5 ∧ i = .int .i64 k ∧ ∀ t, t < k → F t = 0) (fun i => 5 - (intOf i).toNat)
  case atStart => exact ⟨0, by omega, rfl, fun t ht => by omega⟩
  case round =>
    obtain ⟨k, hk, rfl, hz⟩ := hrel
    have HZ := Hd.mk hz
    clear hz
    by_cases hlt : k < 5
    · have c0 := HB.out.cell k (five_at F k hlt)
      by_cases h0 : F k = 0
      · rw [h0] at c0
        have HN : Hd (∀ t, t < k + 1 → F t = 0) := ⟨fun t ht => by
          by_cases e : t = k
          · rw [e]; exact h0
          · exact HZ.out t (by omega)⟩
        clear h0
        go_wp2
        go_round
        case rel => exact ⟨k + 1, by omega, by go_num, HN.out⟩
        case measure => simp [intOf]; omega
      · obtain ⟨x, hx⟩ : ∃ x, F k = x := ⟨_, rfl⟩
        have HX : Hd (isZ F = false) := ⟨by
          unfold isZ
          rw [decide_eq_false_iff_not]
          rintro ⟨a0, a1, a2, a3, a4⟩
          rcases (by omega : k = 0 ∨ k = 1 ∨ k = 2 ∨ k = 3 ∨ k = 4) with rfl | rfl | rfl | rfl | rfl <;> omega⟩
        rw [hx] at c0 h0
        have e : ((x : Int) != 0) = true := by simp; omega
        clear hx h0
        go_wp2
        go_ret
        exact ⟨by rw [HX.out]; rfl, rfl⟩
    · obtain rfl : k = 5 := by omega
      have HX : Hd (isZ F = true) := ⟨by
        unfold isZ
        rw [decide_eq_true_iff]
        exact ⟨HZ.out 0 (by omega), HZ.out 1 (by omega), HZ.out 2 (by omega), HZ.out 3 (by omega), HZ.out 4 (by omega)⟩⟩
      go_wp2
      go_ret
      exact ⟨by rw [HX.out]; rfl, rfl⟩
theorem drewN_add (w : World) (n m : Nat) : (w.drewN n).drewN m = w.drewN (n + m) := by simp [World.drewN, Nat.add_assoc]
set_option maxRecDepth 100000 in
theorem compare (g h c c' : Nat) (F G : Nat → Nat) (w : World) (hB : Blk w g (five F) 22) (hH : Blk w h (five G) 22) : Calls Tryd.prog 27 #[.slice (some ⟨g, 0, none⟩) 5 c, .slice (some ⟨h, 0, none⟩) 5 c'] w fun e w' => e = .returned (.int .i64 (cmpF F G 4)) ∧ ∃ n, w' = w.drewN n := by
  have HB := Hd.mk hB; have HH := Hd.mk hH
  clear hB hH
  go_enter Tryd.func27, Tryd.ntmps27
  go_wp2
  go_loopw [5] (fun i W => ∃ k : Nat, k ≤ 4 ∧ i = .int .i64 k ∧ cmpF F G 4 = cmpF F G (4 - k) ∧ ∃ n, W = w.drewN n) (fun i _ => 4 - (intOf i).toNat)
  case atStart => exact ⟨0, by omega, rfl, rfl, 0, rfl⟩
  case round =>
    obtain ⟨k, hk, rfl, hc, n, hw⟩ := hrel
    have HC := Hd.mk hc; have HW := Hd.mk hw
    have hB := HB.out.drewN n; have hH := HH.out.drewN n
    rw [← hw] at hB hH
    clear hw
    by_cases hlt : k < 4
    · have c0 := hB.cell k (five_at F k (by omega))
      have c1 := hH.cell k (five_at G k (by omega))
      have hst : cmpF F G (4 - k) = if F k = G k then cmpF F G (4 - (k + 1)) else cmpN (F k) (G k) := by
        rw [show 4 - k = (4 - (k + 1)) + 1 by omega, cmpF, show 3 - (4 - (k + 1)) = k by omega]
      have hki : (k : Int) < 5 := by omega
      obtain ⟨x, hx⟩ : ∃ x, F k = x := ⟨_, rfl⟩
      obtain ⟨y, hy⟩ : ∃ y, G k = y := ⟨_, rfl⟩
      rw [hx] at c0 hst; rw [hy] at c1 hst
      have C := Hd.mk (fun W => compareU x y W)
      obtain ⟨z, hz⟩ : ∃ z, cmpN x y = z := ⟨_, rfl⟩
      rw [hz] at C hst
      clear hc hB hH hx hy
      by_cases he : x = y
      · have HN : Hd (cmpF F G 4 = cmpF F G (4 - (k + 1))) := ⟨by rw [HC.out, hst, if_pos he]⟩
        obtain rfl : z = 0 := by rw [← hz, he]; simp [cmpN]
        clear hst he hz
        go_wp2
        go_quiet (((with_reducible refine (C.out _).mono ?_); rintro e w0 ⟨rfl, rfl⟩; exact ⟨rfl, _, rfl⟩))
        go_wp2
        go_roundw
        case rel => exact ⟨k + 1, by omega, by go_num, HN.out, _, by rw [HW.out]; exact drewN_add w _ _⟩
        case measure => simp [intOf]; omega
      · have HN : Hd (cmpF F G 4 = z) := ⟨by rw [HC.out, hst, if_neg he]⟩
        have e : (z != 0) = true := by rw [← hz]; unfold cmpN; rw [if_neg he]; split <;> decide
        clear hst he hz
        go_wp2
        go_quiet (((with_reducible refine (C.out _).mono ?_); rintro e w0 ⟨rfl, rfl⟩; exact ⟨rfl, _, rfl⟩))
        go_wp2
        go_ret
        exact ⟨by rw [HN.out]; rfl, _, by rw [HW.out]; exact drewN_add w _ _⟩
    · obtain rfl : k = 4 := by omega
      clear hc hB hH
      go_wp2
      go_ret
      exact ⟨by rw [HC.out]; rfl, n, HW.out⟩
end Go.Proofs.YtagmjdhjhjlffaaDoor.Kb
