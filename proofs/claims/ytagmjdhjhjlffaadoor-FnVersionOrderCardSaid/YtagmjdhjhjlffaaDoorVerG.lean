/- Versions: ZzVersionNumber, VersionNumbers. -/
import Derived.Test.YtagmjdhjhjlffaaDoorVerF
namespace Go.Proofs.YtagmjdhjhjlffaaDoor.Kb
open Go Go.RowKit
set_option linter.unusedVariables false
set_option linter.unusedSimpArgs false
set_option maxHeartbeats 6400000
/-- A text that spells the numbers F, and fits. -/
structure Spells (l : List UInt8) (F : Nat → Nat) : Prop where
  len : l.length ≤ 1000
  many : (spl 4 l).length ≤ 5
  part : ∀ i (h : i < (spl 4 l).length), Lib.parseUintB 64 (spl 4 l)[i] = .ok (F i) ∧ (spl 4 l)[i].length ≤ 1000
  rest : ∀ t, (spl 4 l).length ≤ t → t < 5 → F t = 0
  fits : Fits F
def Ver (F : Nat → Nat) (w : World) (e : Ending) (w' : World) : Prop := ∃ g, e = .returned (.tuple #[.slice (some ⟨g, 0, none⟩) 5 5, .string (S (vtext F))]) ∧ w.heap.size ≤ g ∧ Blk w' g (five F) 22 ∧ Below w.heap.size w w'
set_option maxRecDepth 100000 in
theorem zzVersion (l : List UInt8) (F : Nat → Nat) (h : Spells l F) (w : World) (hP : Pow w) : Calls Tryd.prog 11 #[.string (S l)] w fun e w' => Ver F w e w' := by
  have C := Hd.mk (parseVN l _ F h.len rfl h.many h.part h.rest w)
  have HF := Hd.mk h.fits; have HP := Hd.mk hP
  clear h hP
  go_enter Tryd.func11, Tryd.ntmps11
  go_wp2_with fail
  with_reducible refine C.out.mono ?_
  intro e w1 h1
  obtain ⟨g, rfl, hg, hB, hb⟩ := h1
  have C2 := Hd.mk (vnString g 5 F HF.out w1 hB (pow_below HP.out hb) (by omega) (by decide))
  have HB := Hd.mk hB; have HBe := Hd.mk hb
  clear hB hb C
  go_wp2_with fail
  with_reducible refine C2.out.mono ?_
  rintro e w2 ⟨rfl, hb2⟩
  have HB2 := Hd.mk (HB.out.below hb2 HB.out.lt); have HBe2 := Hd.mk (HBe.out.trans (hb2.mono HBe.out.size))
  clear hb2 C2
  go_wp2
  exact bodyPost_ret (v := .tuple #[.slice (some ⟨g, 0, none⟩) 5 5, .string (S (vtext F))]) (by simp [results, Tryd.results11, go_sem]) rfl ⟨g, rfl, hg, HB2.out, HBe2.out⟩
set_option maxRecDepth 100000 in
theorem versionNumbers (l : List UInt8) (F : Nat → Nat) (h : Spells l F) (w : World) (hP : Pow w) : Calls Tryd.prog 7 #[.string (S l)] w fun e w' => Ver F w e w' := by
  have C := Hd.mk (zzVersion l F h w hP)
  clear h hP
  go_enter Tryd.func7, Tryd.ntmps7
  go_wp2_with fail
  with_reducible refine C.out.mono ?_
  intro e w1 h1
  obtain ⟨g, rfl, hg, hB, hb⟩ := h1
  have HB := Hd.mk hB; have HBe := Hd.mk hb
  clear hB hb C
  go_wp2
  exact bodyPost_ret (v := .tuple #[.slice (some ⟨g, 0, none⟩) 5 5, .string (S (vtext F))]) (by simp [results, Tryd.results7, go_sem]) rfl ⟨g, rfl, hg, HB.out, HBe.out⟩
end Go.Proofs.YtagmjdhjhjlffaaDoor.Kb
