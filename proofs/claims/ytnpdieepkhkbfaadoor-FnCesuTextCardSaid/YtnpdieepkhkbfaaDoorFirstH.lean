/- FnCesuFirst: cesu8.DecodeRune above U+FFFF; the door. -/
import Derived.Test.YtnpdieepkhkbfaaDoorFirstG
namespace Go.Proofs.YtnpdieepkhkbfaaDoor.Kb
open Go Go.RowKit
set_option linter.unusedVariables false
set_option linter.unusedSimpArgs false
set_option maxHeartbeats 2000000
set_option maxRecDepth 100000 in
theorem ce_dec_high (g off n c : Nat) (xs rest : List Int) (r : Int) (w : World) (hr : Rd w [] (some ⟨g, off, none⟩) n xs) (hnc : n ≤ c) (hxs : xs = encC r ++ rest) (h0 : 65536 ≤ r) (h1 : r ≤ 1114111) :
    Calls Tryd.prog 15 #[.slice (some ⟨g, off, none⟩) n c] w fun e w' => RuneAt r 6 w e w' := by
  obtain ⟨bh, bl, x0, x1, x2, y0, y1, y2, hl⟩ := high_bytes r rest xs h0 h1 hxs
  have hn : 6 ≤ n := by rw [← hr.len]; exact hl
  have C1 := Hd.mk (isSur g off n c xs w hr 237 _ (by omega) x0 x1 true (by simp; omega))
  have C2 := Hd.mk (decChk g off n c xs w hr (hiS r) (by omega) (by omega) (by omega) x0 x1 x2)
  have C3 := Hd.mk (fun k => decSur g (off + 3) (n - 3) (c - 3) (xs.drop 3) (w.drewN k) (hr.drop3.below ((Below.refl _ _).trans ⟨rfl, rfl, rfl, Nat.le_refl _, fun _ _ => rfl⟩)) (loS r) (by omega) (by omega) (by omega) y0 y1 y2)
  have C4 := Hd.mk (fun w => utf16_dec r w h0 h1)
  have HBD := Hd.mk (fun k => (show Below w.heap.size w (w.drewN k) from ⟨rfl, rfl, rfl, Nat.le_refl _, fun _ _ => rfl⟩))
  obtain ⟨h, hh⟩ : ∃ h, hiS r = h := ⟨_, rfl⟩
  obtain ⟨l, hll⟩ : ∃ l, loS r = l := ⟨_, rfl⟩
  rw [hh] at C2
  simp only [hll] at C3
  simp only [hh, hll] at C4
  have l3 : (3 : Int) ≤ n := by omega
  have l4 : ¬ c = 3 := by omega
  clear hr hxs bh bl x0 x1 x2 y0 y1 y2 hl h0 h1 hh hll
  go_enter Tryd.func15, Tryd.ntmps15
  go_wp2_with fail
  with_reducible refine C1.out.mono ?_
  rintro e w1 ⟨rfl, rfl⟩
  go_wp2_with fail
  with_reducible refine C2.out.mono ?_
  rintro e w2 ⟨rfl, k, rfl⟩
  go_wp2_with fail
  with_reducible refine (C3.out k).mono ?_
  rintro e w3 ⟨rfl, rfl⟩
  go_wp2_with fail
  with_reducible refine (C4.out _).mono ?_
  rintro e w4 ⟨rfl, rfl⟩
  clear C1 C2 C3 C4
  go_wp2
  go_ret2
  exact ⟨rfl, HBD.out k⟩
/-- What Cesu8DecodeRune answers. -/
def FirstOut (r : Int) (k : Nat) (w : World) (e : Ending) (w' : World) : Prop := e = .returned (.tuple #[.int .i32 r, .int .i64 k, .bool true]) ∧ Below w.heap.size w w'
set_option maxRecDepth 100000 in
theorem ce_first (g off n c : Nat) (xs rest : List Int) (r : Int) (w : World) (hr : Rd w [] (some ⟨g, off, none⟩) n xs) (hnc : n ≤ c) (hxs : xs = encC r ++ rest) (hby : ∀ x ∈ xs, 0 ≤ x ∧ x < 256) (hT : Go.Lib.Utf8Tabs 0 1 w) (hg : 2 ≤ w.heap.size) (h0 : 0 ≤ r) (h1 : r ≤ 1114111) (hs : ¬ (55296 ≤ r ∧ r ≤ 57343)) :
    Calls Tryd.prog 7 #[.slice (some ⟨g, off, none⟩) n c] w fun e w' => FirstOut r (encC r).length w e w' := by
  have C1 : Hd (Calls Tryd.prog 15 #[.slice (some ⟨g, off, none⟩) n c] w fun e w' => RuneAt r (encC r).length w e w') := by
    by_cases h : r < 65536
    · exact ⟨ce_dec_low g off n c xs rest r w hr hxs hby hT h0 h hs⟩
    · have e : (encC r).length = 6 := by rw [encC_6 r (by omega)]; simp [three]
      rw [e]
      exact ⟨ce_dec_high g off n c xs rest r w hr hnc hxs (by omega) h1⟩
  have C2 : Hd (∀ w', Below w.heap.size w w' → Calls Tryd.prog 16 #[.slice (some ⟨g, off, none⟩) n c] w' fun e w'' => e = .returned (.bool true) ∧ w'' = w') := ⟨fun w' hb => by
    by_cases h : r < 65536
    · exact ce_full_low g off n c xs rest r w' (hr.below hb) hxs ⟨fun k hk => by rw [World.cell?_of_block (w := w) (hb.block 0 (by omega))]; exact hT.1 k hk, fun i hi => ⟨(World.cell?_of_block (w := w) (a := ⟨1, 2 * i, none⟩) (hb.block 1 (by omega))).trans (hT.2 i hi).1, (World.cell?_of_block (w := w) (a := ⟨1, 2 * i + 1, none⟩) (hb.block 1 (by omega))).trans (hT.2 i hi).2⟩⟩ h0 h hs
    · exact ce_full_high g off n c xs rest r w' (hr.below hb) hnc hxs (by omega) h1⟩
  obtain ⟨k, hk⟩ : ∃ k, (encC r).length = k := ⟨_, rfl⟩
  rw [hk] at C1 ⊢
  clear hr hxs hby hT h0 h1 hs hk
  go_enter Tryd.func7, Tryd.ntmps7
  go_wp2_with fail
  with_reducible refine C1.out.mono ?_
  rintro e w1 ⟨rfl, hb⟩
  have C3 := Hd.mk (C2.out w1 hb); have HB := Hd.mk hb
  clear C1 C2 hb
  go_wp2_with fail
  with_reducible refine C3.out.mono ?_
  rintro e w2 ⟨rfl, rfl⟩
  clear C3
  go_wp2
  go_ret3
  exact ⟨rfl, HB.out⟩
end Go.Proofs.YtnpdieepkhkbfaaDoor.Kb
