/- Versions: versionNumberOne, and the two versions of the features. -/
import Derived.Test.YtagmjdhjhjlffaaDoorVofA
namespace Go.Proofs.YtagmjdhjhjlffaaDoor.Kb
open Go Go.RowKit
set_option linter.unusedVariables false
set_option linter.unusedSimpArgs false
set_option maxHeartbeats 6400000
/-- A version of three numbers. -/
def ver3 (a b c : Nat) : Nat → Nat := fun t => if t = 0 then a else if t = 1 then b else if t = 2 then c else 0
theorem ver3_parse (a b c : Nat) (l p q r : List UInt8) (hs : spl 4 l = [p, q, r]) (hl : l.length ≤ 1000) (hp : Lib.parseUintB 64 p = .ok a) (hq : Lib.parseUintB 64 q = .ok b) (hr : Lib.parseUintB 64 r = .ok c) (lp : p.length ≤ 1000) (lq : q.length ≤ 1000) (lr : r.length ≤ 1000) (w : World) :
    Calls Tryd.prog 15 #[.string (S l)] w fun e w' => Nums (ver3 a b c) w e w' :=
  parseVN l [p, q, r] (ver3 a b c) hl hs (by simp) (fun i h => by
    have : i < 3 := h
    rcases (by omega : i = 0 ∨ i = 1 ∨ i = 2) with rfl | rfl | rfl
    · exact ⟨hp, lp⟩
    · exact ⟨hq, lq⟩
    · exact ⟨hr, lr⟩) (fun t h1 h2 => by
    have : 3 ≤ t := h1
    simp only [ver3]
    rw [if_neg (by omega), if_neg (by omega), if_neg (by omega)]) w
theorem ver1_0_120 (w : World) : Calls Tryd.prog 15 #[.string ⟨#[49, 46, 48, 48, 46, 49, 50, 48]⟩] w fun e w' => Nums (ver3 1 0 120) w e w' :=
  ver3_parse 1 0 120 [49, 46, 48, 48, 46, 49, 50, 48] [49] [48, 48] [49, 50, 48] (by decide) (by decide) (by decide) (by decide) (by decide) (by decide) (by decide) (by decide) w
theorem ver2_0_0 (w : World) : Calls Tryd.prog 15 #[.string ⟨#[50, 46, 48, 48, 46, 48, 48, 48]⟩] w fun e w' => Nums (ver3 2 0 0) w e w' :=
  ver3_parse 2 0 0 [50, 46, 48, 48, 46, 48, 48, 48] [50] [48, 48] [48, 48, 48] (by decide) (by decide) (by decide) (by decide) (by decide) (by decide) (by decide) (by decide) w
theorem ver2_0_42 (w : World) : Calls Tryd.prog 15 #[.string ⟨#[50, 46, 48, 48, 46, 48, 52, 50]⟩] w fun e w' => Nums (ver3 2 0 42) w e w' :=
  ver3_parse 2 0 42 [50, 46, 48, 48, 46, 48, 52, 50] [50] [48, 48] [48, 52, 50] (by decide) (by decide) (by decide) (by decide) (by decide) (by decide) (by decide) (by decide) w
set_option maxRecDepth 100000 in
theorem versionOne (w : World) : Calls Tryd.prog 25 #[] w fun e w' => Nums (ver3 1 0 120) w e w' := by
  have C := Hd.mk (ver1_0_120 w)
  go_enter Tryd.func25, Tryd.ntmps25
  go_wp2_with fail
  with_reducible refine C.out.mono ?_
  intro e w1 h1
  obtain ⟨g, rfl, hg, hB, hb⟩ := h1
  have HB := Hd.mk hB; have HL := Hd.mk hb
  clear hB hb C
  go_wp2
  go_ret
  exact ⟨g, rfl, hg, HB.out, HL.out⟩
end Go.Proofs.YtagmjdhjhjlffaaDoor.Kb
