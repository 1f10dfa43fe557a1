/- FnCesuFirst: cesu8.DecodeRune and FullRune of a character and what follows. -/
import Derived.Test.YtmgckcngedpgoaaDoorFirstD
namespace Go.Proofs.YtmgckcngedpgoaaDoor.Kb
open Go Go.RowKit
set_option linter.unusedVariables false
set_option linter.unusedSimpArgs false
set_option maxHeartbeats 2000000
/-- The first byte, and whether a surrogate begins. -/
theorem first_low (r : Int) (rest : List Int) (h0 : 0 ≤ r) (h1 : r < 65536) (hs : ¬ (55296 ≤ r ∧ r ≤ 57343)) :
    ∃ p : Nat, p < 240 ∧ (encC r ++ rest)[0]? = some (p : Int) ∧ bits .and .u8 ((Go.Lib.firstT p : Nat) : Int) 7 ≤ (encC r).length ∧ 0 ≤ bits .and .u8 ((Go.Lib.firstT p : Nat) : Int) 7 ∧ bits .and .u8 ((Go.Lib.firstT p : Nat) : Int) 7 ≤ 7 ∧
      ∀ p1, (encC r ++ rest)[1]? = some p1 → decide ((p : Int) = 237 ∧ 160 ≤ p1 ∧ p1 ≤ 191) = false := by
  by_cases c1 : r < 128
  · have a := (and7 ⟨r.toNat, by omega⟩).1 (by simp; omega)
    refine ⟨r.toNat, by omega, ?_, ?_, ?_, ?_, ?_⟩
    · rw [encC_1 r c1]; simp; omega
    · rw [a, encC_1 r c1]; simp
    · rw [a]; decide
    · rw [a]; decide
    · intro p1 _; simp; omega
  · by_cases c2 : r < 2048
    · have e : ((192 + r.toNat / 64 : Nat) : Int) = 192 + r / 64 := by omega
      have a := (and7 ⟨192 + r.toNat / 64, by omega⟩).2.1 (by simp; omega) (by simp; omega)
      refine ⟨192 + r.toNat / 64, by omega, ?_, ?_, ?_, ?_, ?_⟩
      · rw [encC_2 r (by omega) c2]; simp [e] <;> omega
      · rw [a, encC_2 r (by omega) c2]; simp
      · rw [a]; decide
      · rw [a]; decide
      · intro p1 _; simp; omega
    · have e : ((224 + r.toNat / 4096 : Nat) : Int) = 224 + r / 4096 := by omega
      have a := (and7 ⟨224 + r.toNat / 4096, by omega⟩).2.2 (by simp)
      refine ⟨224 + r.toNat / 4096, by omega, ?_, ?_, ?_, ?_, ?_⟩
      · rw [encC_3 r (by omega) h1 hs]; simp [three]; omega
      · rw [a, encC_3 r (by omega) h1 hs]; simp [three]
      · rw [a]; decide
      · rw [a]; decide
      · intro p1 hp1
        rw [encC_3 r (by omega) h1 hs] at hp1
        simp [three] at hp1
        simp
        omega
set_option maxRecDepth 100000 in
theorem ce_full_low (g off n c : Nat) (xs rest : List Int) (r : Int) (w : World) (hr : Rd w [] (some ⟨g, off, none⟩) n xs) (hxs : xs = encC r ++ rest) (hT : Go.Lib.Utf8Tabs 3 4 w) (h0 : 0 ≤ r) (h1 : r < 65536) (hs : ¬ (55296 ≤ r ∧ r ≤ 57343)) :
    Calls Tryd.prog 115 #[.slice (some ⟨g, off, none⟩) n c] w fun e w' => e = .returned (.bool true) ∧ w' = w := by
  obtain ⟨p, p1, p2, p3, p4, p5, p6⟩ := first_low r rest h0 h1 hs
  have hl : 0 < (encC r).length := by rw [encC, if_pos h1]; exact (encU_len r).2
  have hn : (encC r).length ≤ n := by rw [← hr.len, hxs]; simp
  rw [← hxs] at p2 p6
  have C1 : Hd (Calls Tryd.prog 76 #[.slice (some ⟨g, off, none⟩) n c] w fun e w' => e = .returned (.bool false) ∧ w' = w) := by
    by_cases h3 : n < 3
    · exact ⟨isSur_short _ n c w h3⟩
    · have hx1 : 1 < xs.length := by rw [hr.len]; omega
      have hp1 := List.getElem?_eq_getElem hx1
      exact ⟨isSur g off n c xs w hr p _ (by omega) p2 hp1 false (p6 _ hp1)⟩
  have C2 := Hd.mk (utf8_full g off n c p (bits .and .u8 ((Go.Lib.firstT p : Nat) : Int) 7).toNat w (hr.at0 p2) (by omega) hT (by omega) (by omega) (by omega) (by omega))
  clear hr hxs hT p1 p2 p3 p4 p5 p6 hl hn h0 h1 hs
  go_enter Tryd.func115, Tryd.ntmps115
  go_wp2_with fail
  with_reducible refine C1.out.mono ?_
  rintro e w1 ⟨rfl, rfl⟩
  go_wp2_with fail
  with_reducible refine C2.out.mono ?_
  rintro e w1 ⟨rfl, rfl⟩
  clear C1 C2
  go_wp2
  go_ret
  exact ⟨rfl, rfl⟩
end Go.Proofs.YtmgckcngedpgoaaDoor.Kb
