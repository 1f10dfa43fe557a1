/- FnCesuFirst: the first character of bytes in CESU-8. -/
import Derived.Test.YtmgckcngedpgoaaDoorCruneB
import Derived.Test.YtmgckcngedpgoaaDoorLoc
import Derived.Test.YtmgckcngedpgoaaDoorShelf
import Derived.Test.YtmgckcngedpgoaaDoorUtf
namespace Go.Proofs.YtmgckcngedpgoaaDoor.Kb
open Go Go.RowKit
set_option linter.unusedVariables false
set_option linter.unusedSimpArgs false
set_option maxHeartbeats 2000000
/-- The first bytes of a slice. -/
theorem Rd.byte {w : World} {S : List Nat} {A : Addr} {n : Nat} {xs : List Int} (h : Rd w S (some A) n xs) (j : Nat) (x : Int) (hx : xs[j]? = some x) : w.cell? (A.add j) = some (.int .u8 x) ∧ j < n := by
  obtain ⟨hj, rfl⟩ := List.getElem?_eq_some_iff.1 hx
  obtain ⟨ad, h1, h2, _⟩ := h.at_ j hj
  cases h1
  exact ⟨h2, by rw [← h.len]; exact hj⟩
theorem Rd.at0 {w : World} {S : List Nat} {g off n : Nat} {xs : List Int} (h : Rd w S (some ⟨g, off, none⟩) n xs) {x : Int} (hx : xs[0]? = some x) : w.cell? ⟨g, off, none⟩ = some (.int .u8 x) := by
  have := (h.byte 0 x hx).1
  simpa [Addr.add] using this
theorem Rd.atk {w : World} {S : List Nat} {g off n : Nat} {xs : List Int} (h : Rd w S (some ⟨g, off, none⟩) n xs) (k : Nat) (x : Int) (hk : 0 < k) (hx : xs[k]? = some x) : w.cell? ⟨g, off + k, none⟩ = some (.int .u8 x) := by
  have := (h.byte k x hx).1
  have e : (⟨g, off, none⟩ : Addr).add k = ⟨g, off + k, none⟩ := by
    unfold Addr.add
    split
    · omega
    · rfl
  rwa [e] at this
set_option maxRecDepth 100000 in
theorem isSur_short (A : Option Addr) (n c : Nat) (w : World) (h : n < 3) :
    Calls Tryd.prog 76 #[.slice A n c] w fun e w' => e = .returned (.bool false) ∧ w' = w := by
  have h' : (n : Int) < 3 := by omega
  go_enter Tryd.func76, Tryd.ntmps76
  go_wp2
  go_ret
  exact ⟨rfl, rfl⟩
set_option maxRecDepth 100000 in
theorem isSur (g off n c : Nat) (xs : List Int) (w : World) (hr : Rd w [] (some ⟨g, off, none⟩) n xs) (p0 p1 : Int) (h3 : 3 ≤ n) (h0 : xs[0]? = some p0) (h1 : xs[1]? = some p1) (b : Bool) (hb : decide (p0 = 237 ∧ 160 ≤ p1 ∧ p1 ≤ 191) = b) :
    Calls Tryd.prog 76 #[.slice (some ⟨g, off, none⟩) n c] w fun e w' => e = .returned (.bool b) ∧ w' = w := by
  have c0 := hr.at0 h0
  have c1 := hr.atk 1 p1 (by decide) h1
  have h' : ¬ (n : Int) < 3 := by omega
  have l0 : (0 : Int) < n := by omega
  have l1 : (1 : Int) < n := by omega
  clear hr h0 h1
  by_cases k0 : p0 = 237
  · by_cases k1 : p1 < 160
    · obtain rfl : b = false := by rw [← hb]; simp; omega
      clear hb
      go_enter Tryd.func76, Tryd.ntmps76
      go_wp2
      go_ret
      exact ⟨rfl, rfl⟩
    · by_cases k2 : 191 < p1
      · obtain rfl : b = false := by rw [← hb]; simp; omega
        clear hb
        go_enter Tryd.func76, Tryd.ntmps76
        go_wp2
        go_ret
        exact ⟨rfl, rfl⟩
      · obtain rfl : b = true := by rw [← hb]; simp; omega
        clear hb
        go_enter Tryd.func76, Tryd.ntmps76
        go_wp2
        go_ret
        exact ⟨rfl, rfl⟩
  · obtain rfl : b = false := by rw [← hb]; simp; omega
    have k0' : (p0 == 237) = false := by simpa using k0
    have k0b : (p0 != 237) = true := by simpa using k0
    clear hb
    go_enter Tryd.func76, Tryd.ntmps76
    go_wp2
    go_ret
    exact ⟨rfl, rfl⟩
end Go.Proofs.YtmgckcngedpgoaaDoor.Kb
