/- FnCesuFirst: cesu8.DecodeRune above U+FFFF; the door. -/
import Derived.Test.YtmgckcngedpgoaaDoorFirstG
namespace Go.Proofs.YtmgckcngedpgoaaDoor.Kb
open Go Go.RowKit
set_option linter.unusedVariables false
set_option linter.unusedSimpArgs false
set_option maxHeartbeats 2000000
set_option maxRecDepth 100000 in
theorem ce_dec_high (g off n c : Nat) (xs rest : List Int) (r : Int) (w : World) (hr : Rd w [] (some ⟨g, off, none⟩) n xs) (hnc : n ≤ c) (hxs : xs = encC r ++ rest) (h0 : 65536 ≤ r) (h1 : r ≤ 1114111) :
    Calls Tryd.prog 68 #[.slice (some ⟨g, off, none⟩) n c] w fun e w' => RuneAt r 6 w e w' := by
  obtain ⟨bh, bl, x0, x1, x2, y0, y1, y2, hl⟩ := high_bytes r rest xs h0 h1 hxs
  have hn : 6 ≤ n := by rw [← hr.len]; exact hl
  have C1 := Hd.mk (isSur g off n c xs w hr 237 _ (by omega) x0 x1 true (by simp; omega))
  have C2 := Hd.mk (decChk g off n c xs w hr (hiS r) (by omega) (by omega) (by omega) x0 x1 x2)
  have C3 := Hd.mk (fun k => decSur g (off + 3) (n - 3) (c - 3) (xs.drop 3) (w.drewN k) (hr.drop3.below ((Below.refl _ _).trans ⟨rfl, rfl, rfl, Nat.le_refl _, fun _ _ => rfl⟩)) (loS r) (by omega) (by omega) (by omega) y0 y1 y2)
  have C4 := Hd.mk (fun w => utf16_dec r w h0 h1)
  have HBD := Hd.mk (fun k => (show Below w.heap.size w (w.drewN k) from ⟨rfl, rfl, rfl, Nat.le_refl _, fun _ _ => rfl⟩))
  obtain ⟨h, hh⟩ : ∃ h, hiS r = h := ⟨_, rfl⟩
  obtain ⟨l, hll⟩ : ∃ l, loS r = l := ⟨_, rfl⟩
  rw [hh] at C2
  simp only [hll] at C3
  simp only [hh, hll] at C4
  have l3 : (3 : Int) ≤ n := by omega
  have l4 : ¬ c = 3 := by omega
  clear hr hxs bh bl x0 x1 x2 y0 y1 y2 hl h0 h1 hh hll
  go_enter Tryd.func68, Tryd.ntmps68
  go_wp2_with fail
  with_reducible refine C1.out.mono ?_
  rintro e w1 ⟨rfl, rfl⟩
  go_wp2_with fail
  with_reducible refine C2.out.mono ?_
  rintro e w2 ⟨rfl, k, rfl⟩
  go_wp2_with fail
  with_reducible refine (C3.out k).mono ?_
  rintro e w3 ⟨rfl, rfl⟩
  go_wp2_with fail
  with_reducible refine (C4.out _).mono ?_
  rintro e w4 ⟨rfl, rfl⟩
  clear C1 C2 C3 C4
  go_wp2
  go_ret2
  exact ⟨rfl, HBD.out k⟩
end Go.Proofs.YtmgckcngedpgoaaDoor.Kb
