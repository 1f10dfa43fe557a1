/- FnCesuFirst: surrogates, read. -/
import Derived.Test.YtmgckcngedpgoaaDoorFirst
import Derived.BigQuiet
import Derived.Deep.QuietTactic
namespace Go.Proofs.YtmgckcngedpgoaaDoor.Kb
open Go Go.RowKit
set_option linter.unusedVariables false
set_option linter.unusedSimpArgs false
set_option maxHeartbeats 2000000
theorem or_a : ∀ y : Fin 64, bits .or .i32 53248 (((y.1 * 64 : Nat)) : Int) = 53248 + ((y.1 * 64 : Nat) : Int) := by decide +kernel
theorem or_b (x y : Int) (h0 : 0 ≤ x) (h1 : x < 65536) (hm : x % 64 = 0) (hy0 : 0 ≤ y) (hy : y < 64) : bits .or .i32 x y = x + y :=
  bits_join .i32 31 (by decide) (fun n h0 h1 => by simp [IntKind.wrap, IntKind.bits, IntKind.signed]; omega) 6 x y h0 (by simpa using hm) (by simp; omega) hy0 (by simpa using hy) (by simp; omega)
set_option maxRecDepth 100000 in
theorem decSur (g off n c : Nat) (xs : List Int) (w : World) (hr : Rd w [] (some ⟨g, off, none⟩) n xs) (x : Int) (hx0 : 55296 ≤ x) (hx1 : x ≤ 57343) (h3 : 3 ≤ n) (h0 : xs[0]? = some 237) (h1 : xs[1]? = some (128 + x / 64 % 64)) (h2 : xs[2]? = some (128 + x % 64)) :
    Calls Tryd.prog 79 #[.slice (some ⟨g, off, none⟩) n c] w fun e w' => e = .returned (.tuple #[.int .i32 x, .bool true]) ∧ w' = w := by
  have c0 := hr.at0 h0
  have c1 := hr.atk 1 _ (by decide) h1
  have c2 := hr.atk 2 _ (by decide) h2
  have h' : ¬ (n : Int) < 3 := by omega
  have l0 : (0 : Int) < n := by omega
  have l1 : (1 : Int) < n := by omega
  have l2 : (2 : Int) < n := by omega
  obtain ⟨p, hp⟩ : ∃ p, 128 + x / 64 % 64 = p := ⟨_, rfl⟩
  obtain ⟨q, hq⟩ : ∃ q, 128 + x % 64 = q := ⟨_, rfl⟩
  rw [hp] at c1; rw [hq] at c2
  have k1 : ¬ p < 160 := by omega
  have k2 : ¬ 191 < p := by omega
  have a0 : bits .and .u8 237 15 = 13 := by decide +kernel
  have a1 : bits .and .u8 p 63 = x / 64 % 64 := by have := and63' p; rw [show p % 256 = p by omega] at this; rw [this]; omega
  have a2 : bits .and .u8 q 63 = x % 64 := by have := and63' q; rw [show q % 256 = q by omega] at this; rw [this]; omega
  clear hr h0 h1 h2 hp hq
  go_enter Tryd.func79, Tryd.ntmps79
  go_wp2
  go_ret2
  refine ⟨?_, rfl⟩
  rw [show (53248 + x / 64 % 64 * 64 + x % 64 : Int) = x by omega]
  rfl
set_option maxRecDepth 100000 in
theorem decChk (g off n c : Nat) (xs : List Int) (w : World) (hr : Rd w [] (some ⟨g, off, none⟩) n xs) (x : Int) (hx0 : 55296 ≤ x) (hx1 : x ≤ 57343) (h3 : 3 ≤ n) (h0 : xs[0]? = some 237) (h1 : xs[1]? = some (128 + x / 64 % 64)) (h2 : xs[2]? = some (128 + x % 64)) :
    Calls Tryd.prog 78 #[.slice (some ⟨g, off, none⟩) n c] w fun e w' => e = .returned (.int .i32 x) ∧ ∃ k, w' = w.drewN k := by
  have c0 := hr.at0 h0
  have c1 := hr.atk 1 _ (by decide) h1
  have c2 := hr.atk 2 _ (by decide) h2
  have l0 : (0 : Int) < n := by omega
  have l1 : (1 : Int) < n := by omega
  have l2 : (2 : Int) < n := by omega
  obtain ⟨p, hp⟩ : ∃ p, 128 + x / 64 % 64 = p := ⟨_, rfl⟩
  obtain ⟨q, hq⟩ : ∃ q, 128 + x % 64 = q := ⟨_, rfl⟩
  rw [hp] at c1; rw [hq] at c2
  have a0 : bits .and .u8 237 15 = 13 := by decide +kernel
  have a1 : bits .and .u8 p 63 = x / 64 % 64 := by have := and63' p; rw [show p % 256 = p by omega] at this; rw [this]; omega
  have a2 : bits .and .u8 q 63 = x % 64 := by have := and63' q; rw [show q % 256 = q by omega] at this; rw [this]; omega
  clear hr h0 h1 h2 hp hq
  go_enter Tryd.func78, Tryd.ntmps78
  go_wp2
  go_quiet (fail)
  go_wp2
  go_ret
  refine ⟨?_, _, rfl⟩
  rw [show (53248 + x / 64 % 64 * 64 + x % 64 : Int) = x by omega]
  rfl
set_option maxRecDepth 100000 in
theorem utf16_dec (r : Int) (w : World) (h0 : 65536 ≤ r) (h1 : r ≤ 1114111) :
    Calls Tryd.prog 80 #[.int .i32 (hiS r), .int .i32 (loS r)] w fun e w' => e = .returned (.int .i32 r) ∧ w' = w := by
  have bh : 55296 ≤ hiS r ∧ hiS r < 56320 := by unfold hiS; omega
  have bl : 56320 ≤ loS r ∧ loS r < 57344 := by unfold loS; omega
  have e : (hiS r - 55296) * 1024 + (loS r - 56320) + 65536 = r := by unfold hiS loS; omega
  generalize hiS r = h at *
  generalize loS r = l at *
  obtain ⟨b0, b1⟩ := bh; obtain ⟨b2, b3⟩ := bl
  have a1 : bits .or .i32 ((h - 55296) * 1024) (l - 56320) = (h - 55296) * 1024 + (l - 56320) :=
    bits_join .i32 31 (by decide) (fun n h0 h1 => by simp [IntKind.wrap, IntKind.bits, IntKind.signed]; omega) 10 _ _ (by omega) (by simp) (by simp; omega) (by omega) (by simp; omega) (by simp; omega)
  have E := Hd.mk e
  clear e
  go_enter Tryd.func80, Tryd.ntmps80
  go_wp2
  go_ret
  refine ⟨?_, rfl⟩
  have e := E.out
  simp [e]
end Go.Proofs.YtmgckcngedpgoaaDoor.Kb
