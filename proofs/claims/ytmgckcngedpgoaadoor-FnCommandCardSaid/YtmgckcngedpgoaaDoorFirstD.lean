/- FnCesuFirst: utf8.FullRune of a character below U+10000 and what follows. -/
import Derived.Test.YtmgckcngedpgoaaDoorFirstC
namespace Go.Proofs.YtmgckcngedpgoaaDoor.Kb
open Go Go.RowKit
set_option linter.unusedVariables false
set_option linter.unusedSimpArgs false
set_option maxHeartbeats 2000000
theorem and7 : ∀ y : Fin 240, (y.1 < 128 → bits .and .u8 ((Go.Lib.firstT y.1 : Nat) : Int) 7 = 0) ∧ (194 ≤ y.1 → y.1 < 224 → bits .and .u8 ((Go.Lib.firstT y.1 : Nat) : Int) 7 = 2) ∧ (224 ≤ y.1 → bits .and .u8 ((Go.Lib.firstT y.1 : Nat) : Int) 7 = 3) := by decide +kernel
set_option maxRecDepth 100000 in
theorem utf8_full (g off n c : Nat) (p k : Nat) (w : World) (h0 : w.cell? ⟨g, off, none⟩ = some (.int .u8 p)) (hp : p < 256) (hT : Go.Lib.Utf8Tabs 3 4 w) (hk : bits .and .u8 ((Go.Lib.firstT p : Nat) : Int) 7 = (k : Int)) (hk7 : k ≤ 7) (hkn : k ≤ n) (hn : 0 < n) :
    Calls Tryd.prog 120 #[.slice (some ⟨g, off, none⟩) n c] w fun e w' => e = .returned (.bool true) ∧ w' = w := by
  have t0 := hT.1 p hp
  have l0 : (0 : Int) < n := by omega
  have l1 : ¬ (n : Int) = 0 := by omega
  have l2 : (k : Int) ≤ n := by omega
  have lp : (p : Int) < 256 := by omega
  have hw : wrap64 (k : Int) = k := by unfold wrap64; omega
  obtain ⟨f, hf⟩ : ∃ f, ((Go.Lib.firstT p : Nat) : Int) = f := ⟨_, rfl⟩
  rw [hf] at t0 hk
  clear hT hf
  go_enter Tryd.func120, Tryd.ntmps120
  go_wp2
  go_ret
  exact ⟨rfl, rfl⟩
end Go.Proofs.YtmgckcngedpgoaaDoor.Kb
