/- FnCesuFirst: cesu8.DecodeRune. -/
import Derived.Test.YtmgckcngedpgoaaDoorFirstE
namespace Go.Proofs.YtmgckcngedpgoaaDoor.Kb
open Go Go.RowKit
set_option linter.unusedVariables false
set_option linter.unusedSimpArgs false
set_option maxHeartbeats 2000000
/-- What DecodeRune answers. -/
def RuneAt (r : Int) (k : Nat) (w : World) (e : Ending) (w' : World) : Prop := e = .returned (.tuple #[.int .i32 r, .int .i64 k]) ∧ Below w.heap.size w w'
set_option maxRecDepth 100000 in
theorem ce_dec_low (g off n c : Nat) (xs rest : List Int) (r : Int) (w : World) (hr : Rd w [] (some ⟨g, off, none⟩) n xs) (hxs : xs = encC r ++ rest) (hby : ∀ x ∈ xs, 0 ≤ x ∧ x < 256) (hT : Go.Lib.Utf8Tabs 3 4 w) (h0 : 0 ≤ r) (h1 : r < 65536) (hs : ¬ (55296 ≤ r ∧ r ≤ 57343)) :
    Calls Tryd.prog 68 #[.slice (some ⟨g, off, none⟩) n c] w fun e w' => RuneAt r (encC r).length w e w' := by
  have C2 := Hd.mk (utf8_dec g off n c xs rest r w hr hxs hby hT h0 h1 hs)
  obtain ⟨p, p1, p2, p3, p4, p5, p6⟩ := first_low r rest h0 h1 hs
  rw [← hxs] at p2 p6
  have C1 : Hd (Calls Tryd.prog 76 #[.slice (some ⟨g, off, none⟩) n c] w fun e w' => e = .returned (.bool false) ∧ w' = w) := by
    by_cases h3 : n < 3
    · exact ⟨isSur_short _ n c w h3⟩
    · have hx1 : 1 < xs.length := by rw [hr.len]; omega
      have hp1 := List.getElem?_eq_getElem hx1
      exact ⟨isSur g off n c xs w hr p _ (by omega) p2 hp1 false (p6 _ hp1)⟩
  obtain ⟨k, hk⟩ : ∃ k, (encC r).length = k := ⟨_, rfl⟩
  rw [hk] at C2 ⊢
  clear hr hxs hT p1 p2 p3 p4 p5 p6 h0 h1 hs hby hk
  go_enter Tryd.func68, Tryd.ntmps68
  go_wp2_with fail
  with_reducible refine C1.out.mono ?_
  rintro e w1 ⟨rfl, rfl⟩
  go_wp2_with fail
  with_reducible refine C2.out.mono ?_
  rintro e w2 ⟨rfl, hb⟩
  have HB := Hd.mk hb
  clear C1 C2 hb
  go_wp2
  go_ret2
  exact ⟨rfl, HB.out⟩
end Go.Proofs.YtmgckcngedpgoaaDoor.Kb
