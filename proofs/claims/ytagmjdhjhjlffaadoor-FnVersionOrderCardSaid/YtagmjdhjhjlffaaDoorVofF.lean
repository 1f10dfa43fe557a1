/- Versions: (*Version).String, (*Version).compare, ZzVersion, ZzCompare, VersionOf, VersionCompare. -/
import Derived.Test.YtagmjdhjhjlffaaDoorVofE
namespace Go.Proofs.YtagmjdhjhjlffaaDoor.Kb
open Go Go.RowKit
set_option linter.unusedVariables false
set_option linter.unusedSimpArgs false
set_option maxHeartbeats 6400000
theorem fits_real {F : Nat → Nat} (h : Fits F) : Fits (real F) := by
  unfold real
  split
  · exact ⟨by decide, by decide, by decide, by decide, by decide⟩
  · exact h
set_option maxRecDepth 100000 in
theorem verString (b g : Nat) (F : Nat → Nat) (hF : Fits F) (v : Value) (w : World) (hV : Blk w b #[.slice (some ⟨g, 0, none⟩) 5 5, v] 45) (hB : Blk w g (five F) 22) (hP : Pow w) :
    Calls Tryd.prog 19 #[.pointer (some ⟨b, 0, none⟩)] w fun e w' => Says (vtext F) w e w' := by
  have C := Hd.mk (vnString g 5 F hF w hB hP (by omega) (by decide))
  have c0 := hV.cell 0 rfl
  clear hV hB hP hF
  go_enter Tryd.func19, Tryd.ntmps19
  go_wp2_with fail
  with_reducible refine C.out.mono ?_
  rintro e w1 ⟨rfl, hb⟩
  have HB := Hd.mk hb
  clear hb C
  go_wp2
  go_ret
  exact ⟨rfl, HB.out⟩
set_option maxRecDepth 100000 in
theorem verCompare (b g b' g' : Nat) (F G : Nat → Nat) (v v' : Value) (w : World) (hV : Blk w b #[.slice (some ⟨g, 0, none⟩) 5 5, v] 45) (hV' : Blk w b' #[.slice (some ⟨g', 0, none⟩) 5 5, v'] 45) (hB : Blk w g (five F) 22) (hB' : Blk w g' (five G) 22) :
    Calls Tryd.prog 18 #[.pointer (some ⟨b, 0, none⟩), .pointer (some ⟨b', 0, none⟩)] w fun e w' => e = .returned (.int .i64 (cmpF F G 4)) ∧ Below w.heap.size w w' := by
  have C : Hd (∀ n, Calls Tryd.prog 27 #[.slice (some ⟨g, 0, none⟩) 5 5, .slice (some ⟨g', 0, none⟩) 5 5] (w.drewN n) fun e w' => e = .returned (.int .i64 (cmpF F G 4)) ∧ ∃ m, w' = (w.drewN n).drewN m) := ⟨fun n => compare g g' 5 5 F G (w.drewN n) (hB.drewN n) (hB'.drewN n)⟩
  have c0 := hV.cell 0 rfl; have c1 := hV'.cell 0 rfl
  clear hV hV' hB hB'
  go_enter Tryd.func18, Tryd.ntmps18
  go_wp2
  go_quiet (exact Calls.quiet_of (C.out _))
  go_wp2
  go_ret
  exact ⟨rfl, below_drewN w _⟩
/-- Numbers, text and features. -/
def VerF (F : Nat → Nat) (w : World) (e : Ending) (w' : World) : Prop := ∃ g, e = .returned (.tuple #[.slice (some ⟨g, 0, none⟩) 5 5, .string (S (vtext (real F))), featV (has2 (real F)) (has4 (real F))]) ∧ w.heap.size ≤ g ∧ Blk w' g (five (real F)) 22 ∧ Below w.heap.size w w'
/-- A version's block and its numbers, and what the calls leave. -/
def Held2 (b g : Nat) (F : Nat → Nat) (v : Value) (w W : World) : Prop := Blk W b #[.slice (some ⟨g, 0, none⟩) 5 5, v] 45 ∧ Blk W g (five F) 22 ∧ Below w.heap.size w W ∧ Pow W
theorem held2_cells {b g : Nat} {F : Nat → Nat} {v : Value} {w W : World} (h : Held2 b g F v w W) : W.cell? ⟨b, 0, none⟩ = some (.slice (some ⟨g, 0, none⟩) 5 5) ∧ W.cell? ⟨b, 1, none⟩ = some v ∧ Held2 b g F v w W := ⟨h.1.cell 0 rfl, h.1.cell 1 rfl, h⟩
theorem Held2.on {b g : Nat} {F : Nat → Nat} {v : Value} {w W W' : World} (h : Held2 b g F v w W) (hb : Below W.heap.size W W') : Held2 b g F v w W' :=
  ⟨h.1.below hb h.1.lt, h.2.1.below hb h.2.1.lt, h.2.2.1.trans (hb.mono h.2.2.1.size), pow_below h.2.2.2 hb⟩
theorem held2_keep {b g : Nat} {F : Nat → Nat} {v : Value} {w W W' : World} (h : W.cell? ⟨b, 0, none⟩ = some (.slice (some ⟨g, 0, none⟩) 5 5) ∧ W.cell? ⟨b, 1, none⟩ = some v ∧ Held2 b g F v w W) (hb : Below W.heap.size W W') : W'.cell? ⟨b, 0, none⟩ = some (.slice (some ⟨g, 0, none⟩) 5 5) ∧ W'.cell? ⟨b, 1, none⟩ = some v ∧ Held2 b g F v w W' := held2_cells (h.2.2.on hb)
theorem held2_call {b g : Nat} {F : Nat → Nat} {v : Value} {w W : World} (hF : Fits F) (h : W.cell? ⟨b, 0, none⟩ = some (.slice (some ⟨g, 0, none⟩) 5 5) ∧ W.cell? ⟨b, 1, none⟩ = some v ∧ Held2 b g F v w W) : Calls Tryd.prog 19 #[.pointer (some ⟨b, 0, none⟩)] W fun e w' => e = .returned (.string (S (vtext F))) ∧ Below W.heap.size W w' := verString b g F hF v W h.2.2.1 h.2.2.2.1 h.2.2.2.2.2
set_option maxRecDepth 100000 in
theorem zzVersion3 (l : List UInt8) (F : Nat → Nat) (h : Spells l F) (w : World) (hP : Pow w) : Calls Tryd.prog 14 #[.string (S l)] w fun e w' => VerF F w e w' := by
  have C := Hd.mk (parseVersion l F h w)
  have HF := Hd.mk (fits_real h.fits); have HP := Hd.mk hP
  clear h hP
  go_enter Tryd.func14, Tryd.ntmps14
  go_wp2_with fail
  with_reducible refine C.out.mono ?_
  intro e w1 h1
  obtain ⟨b, g, rfl, hg, hb0, hV, hB, hb⟩ := h1
  have HS : Hd (Held2 b g (real F) (featV (has2 (real F)) (has4 (real F))) w w1.drew) := ⟨hV.drew, hB.drew, hb.trans ((Below.refl _ _).drew.mono hb.size), pow_below (pow_below HP.out hb) (Below.refl _ _).drew⟩
  have S0 := held2_cells HS.out
  obtain ⟨x, hx⟩ : ∃ x : Nat, featV (has2 (real F)) (has4 (real F)) = .int .u64 x := ⟨_, rfl⟩
  rw [hx] at S0 HS
  obtain ⟨T, hT⟩ : ∃ T, S (vtext (real F)) = T := ⟨_, rfl⟩
  have V : Hd (∀ W, W.cell? ⟨b, 0, none⟩ = some (.slice (some ⟨g, 0, none⟩) 5 5) ∧ W.cell? ⟨b, 1, none⟩ = some (.int .u64 x) ∧ Held2 b g (real F) (.int .u64 x) w W → Calls Tryd.prog 19 #[.pointer (some ⟨b, 0, none⟩)] W fun e w' => e = .returned (.string T) ∧ Below W.heap.size W w') := ⟨fun W h => by rw [← hT]; exact held2_call HF.out h⟩
  have HX := Hd.mk (And.intro hx (And.intro hT hg))
  clear hx hT hg hV hB hb C HF HS
  go_wp2_with fail
  go_region_held3 (fun W => W.cell? ⟨b, 0, none⟩ = some (.slice (some ⟨g, 0, none⟩) 5 5) ∧ W.cell? ⟨b, 1, none⟩ = some (.int .u64 x) ∧ Held2 b g (real F) (.int .u64 x) w W)
    (first | assumption | exact held2_keep (by assumption) (by assumption))
    (first
      | (go_at_call 19; with_reducible refine (V.out _ (by assumption)).mono ?_; rintro e w2 ⟨rfl, hb⟩))
  rename_i hh
  have HH := Hd.mk hh.2.2
  clear hh hb S0
  go_wp2
  refine bodyPost_ret (v := .tuple #[.slice (some ⟨g, 0, none⟩) 5 5, .string T, .int .u64 x]) (by simp [results, Tryd.results14, go_sem]) rfl ⟨g, ?_, HX.out.2.2, HH.out.2.1, HH.out.2.2.1⟩
  rw [HX.out.1, HX.out.2.1]
set_option maxRecDepth 100000 in
theorem versionOf (l : List UInt8) (F : Nat → Nat) (h : Spells l F) (w : World) (hP : Pow w) : Calls Tryd.prog 10 #[.string (S l)] w fun e w' => VerF F w e w' := by
  have C := Hd.mk (zzVersion3 l F h w hP)
  clear h hP
  go_enter Tryd.func10, Tryd.ntmps10
  go_wp2_with fail
  with_reducible refine C.out.mono ?_
  intro e w1 h1
  obtain ⟨g, rfl, hg, hB, hb⟩ := h1
  have HB := Hd.mk hB; have HBe := Hd.mk hb
  obtain ⟨x, hx⟩ : ∃ x, featV (has2 (real F)) (has4 (real F)) = x := ⟨_, rfl⟩
  have HX := Hd.mk hx
  rw [hx]
  clear hB hb C hx
  go_wp2
  exact bodyPost_ret (v := .tuple #[.slice (some ⟨g, 0, none⟩) 5 5, .string (S (vtext (real F))), x]) (by simp [results, Tryd.results10, go_sem]) rfl ⟨g, by rw [HX.out], hg, HB.out, HBe.out⟩
set_option maxRecDepth 100000 in
theorem zzCompare (l m : List UInt8) (F G : Nat → Nat) (hl : Spells l F) (hm : Spells m G) (w : World) : Calls Tryd.prog 13 #[.string (S l), .string (S m)] w fun e w' => e = .returned (.int .i64 (cmpF (real F) (real G) 4)) ∧ Below w.heap.size w w' := by
  have C := Hd.mk (parseVersion l F hl w)
  have C2 := Hd.mk (fun W => parseVersion m G hm W)
  clear hl hm
  go_enter Tryd.func13, Tryd.ntmps13
  go_wp2_with fail
  with_reducible refine C.out.mono ?_
  intro e w1 h1
  obtain ⟨b, g, rfl, hg, hb0, hV, hB, hb⟩ := h1
  have HV := Hd.mk hV; have HB := Hd.mk hB; have HL := Hd.mk hb
  clear hV hB hb C
  go_wp2_with fail
  with_reducible refine (C2.out _).mono ?_
  intro e w2 h2
  obtain ⟨b', g', rfl, hb0', hg', hV', hB', hb'⟩ := h2
  have C3 := Hd.mk (verCompare b g b' g' (real F) (real G) _ _ w2 (HV.out.below hb' HV.out.lt) hV' (HB.out.below hb' HB.out.lt) hB')
  have HL2 := Hd.mk (HL.out.trans (hb'.mono HL.out.size))
  clear hV' hB' hb' C2
  go_wp2_with fail
  with_reducible refine C3.out.mono ?_
  rintro e w3 ⟨rfl, hb3⟩
  have HL3 := Hd.mk (HL2.out.trans (hb3.mono HL2.out.size))
  clear hb3 C3
  go_wp2
  go_ret
  exact ⟨rfl, HL3.out⟩
set_option maxRecDepth 100000 in
theorem versionCompare (l m : List UInt8) (F G : Nat → Nat) (hl : Spells l F) (hm : Spells m G) (w : World) : Calls Tryd.prog 9 #[.string (S l), .string (S m)] w fun e w' => e = .returned (.int .i64 (cmpF (real F) (real G) 4)) ∧ Below w.heap.size w w' := by
  have C := Hd.mk (zzCompare l m F G hl hm w)
  clear hl hm
  go_enter Tryd.func9, Tryd.ntmps9
  go_wp2_with fail
  with_reducible refine C.out.mono ?_
  rintro e w1 ⟨rfl, hb⟩
  have HB := Hd.mk hb
  clear hb C
  go_wp2
  go_ret
  exact ⟨rfl, HB.out⟩
end Go.Proofs.YtagmjdhjhjlffaaDoor.Kb
