/- FnCesuFirst: cesu8.DecodeRune and FullRune of a character above U+FFFF. -/
import Derived.Test.YtmgckcngedpgoaaDoorFirstF
namespace Go.Proofs.YtmgckcngedpgoaaDoor.Kb
open Go Go.RowKit
set_option linter.unusedVariables false
set_option linter.unusedSimpArgs false
set_option maxHeartbeats 2000000
theorem add_mk (g off k : Nat) : (⟨g, off, none⟩ : Addr).add k = ⟨g, off + k, none⟩ := by
  unfold Addr.add
  split
  · rename_i h; subst h; rfl
  · rfl
theorem Rd.drop3 {w : World} {g off n : Nat} {xs : List Int} (h : Rd w [] (some ⟨g, off, none⟩) n xs) : Rd w [] (some ⟨g, off + 3, none⟩) (n - 3) (xs.drop 3) := by
  have hl := h.len; have hs := h.small
  refine ⟨by simp; omega, by omega, fun j hj => ?_⟩
  simp at hj
  obtain ⟨ad, h1, h2, h3, h4⟩ := h.at_ (3 + j) (by omega)
  cases h1
  rw [add_mk] at h2
  exact ⟨_, rfl, by rw [add_mk, show off + 3 + j = off + (3 + j) by omega]; simpa using h2, h3, h4⟩
/-- The six bytes. -/
theorem high_bytes (r : Int) (rest xs : List Int) (h0 : 65536 ≤ r) (h1 : r ≤ 1114111) (hxs : xs = encC r ++ rest) :
    (55296 ≤ hiS r ∧ hiS r ≤ 56319) ∧ (56320 ≤ loS r ∧ loS r ≤ 57343) ∧ xs[0]? = some 237 ∧ xs[1]? = some (128 + hiS r / 64 % 64) ∧ xs[2]? = some (128 + hiS r % 64) ∧
      (xs.drop 3)[0]? = some 237 ∧ (xs.drop 3)[1]? = some (128 + loS r / 64 % 64) ∧ (xs.drop 3)[2]? = some (128 + loS r % 64) ∧ 6 ≤ xs.length := by
  have bh : 55296 ≤ hiS r ∧ hiS r ≤ 56319 := by unfold hiS; omega
  have bl : 56320 ≤ loS r ∧ loS r ≤ 57343 := by unfold loS; omega
  have e1 : 224 + hiS r / 4096 = 237 := by omega
  have e2 : 224 + loS r / 4096 = 237 := by omega
  subst hxs
  rw [encC_6 r h0]
  simp [three, e1, e2]
  omega
set_option maxRecDepth 100000 in
theorem ce_full_high (g off n c : Nat) (xs rest : List Int) (r : Int) (w : World) (hr : Rd w [] (some ⟨g, off, none⟩) n xs) (hnc : n ≤ c) (hxs : xs = encC r ++ rest) (h0 : 65536 ≤ r) (h1 : r ≤ 1114111) :
    Calls Tryd.prog 115 #[.slice (some ⟨g, off, none⟩) n c] w fun e w' => e = .returned (.bool true) ∧ w' = w := by
  obtain ⟨bh, bl, x0, x1, x2, y0, y1, y2, hl⟩ := high_bytes r rest xs h0 h1 hxs
  have hn : 6 ≤ n := by rw [← hr.len]; exact hl
  have C1 := Hd.mk (isSur g off n c xs w hr 237 _ (by omega) x0 x1 true (by simp; omega))
  have C2 := Hd.mk (isSur g (off + 3) (n - 3) (c - 3) (xs.drop 3) w hr.drop3 237 _ (by omega) y0 y1 true (by simp; omega))
  have l3 : (3 : Int) ≤ n := by omega
  have l4 : ¬ c = 3 := by omega
  clear hr hxs bh bl x0 x1 x2 y0 y1 y2 hl h0 h1
  go_enter Tryd.func115, Tryd.ntmps115
  go_wp2_with fail
  with_reducible refine C1.out.mono ?_
  rintro e w1 ⟨rfl, rfl⟩
  go_wp2_with fail
  with_reducible refine C2.out.mono ?_
  rintro e w1 ⟨rfl, rfl⟩
  clear C1 C2
  go_wp2
  go_ret
  exact ⟨rfl, rfl⟩
end Go.Proofs.YtmgckcngedpgoaaDoor.Kb
