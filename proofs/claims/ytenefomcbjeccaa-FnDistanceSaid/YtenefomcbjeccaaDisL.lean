/- FnDistance: levenshtein.Distance, EditDistance, the law. -/
import Derived.Test.YtenefomcbjeccaaDisS
namespace Go.Proofs.Ytenefomcbjeccaa.Kb
open Go Go.RowKit
set_option linter.unusedVariables false
set_option linter.unusedSimpArgs false
set_option maxHeartbeats 4000000
set_option maxRecDepth 100000 in
theorem distance2 (a b : ByteArray) (sens : Bool) (w : World) (ha : a.size ≤ 100) (hb : b.size ≤ 100) (aa : Asc a) (ab : Asc b) :
    Calls Try.prog 25 #[.string a, .string b, .bool sens] w fun e w' => DistOut (G (MS sens a b) a.size b.size) w e w' := by
  cases sens with
  | true =>
    have C := Hd.mk (dist a b w ha hb aa ab)
    have e : MS true a b = fun i j => decide (at_ a i = at_ b j) := by funext i j; simp [MS]
    rw [e]
    clear aa ab e
    go_enter Try.func25, Try.ntmps25
    go_wp2_with fail
    with_reducible refine C.out.mono ?_
    rintro e w1 ⟨rfl, hb1⟩
    have HB := Hd.mk hb1
    clear hb1 C
    go_wp2
    go_ret
    exact ⟨rfl, HB.out⟩
  | false =>
    have C := Hd.mk (zzLower a w (by omega))
    have C2 := Hd.mk (fun w => zzLower b w (by omega))
    have AA := Hd.mk aa; have AB := Hd.mk ab
    clear aa ab
    go_enter Try.func25, Try.ntmps25
    go_wp2_with fail
    with_reducible refine C.out.mono ?_
    rintro e w1 ⟨A, rfl, hA1, hA2, hb1⟩
    have HB := Hd.mk hb1; have HA1 := Hd.mk hA1; have HA2 := Hd.mk hA2
    clear hb1 hA1 hA2 C
    go_wp2_with fail
    with_reducible refine (C2.out _).mono ?_
    rintro e w2 ⟨B, rfl, hB1, hB2, hb2⟩
    have lwb : ∀ x, x < 128 → lw x < 128 := by intro x hx; unfold lw; split <;> omega
    have hA1 := HA1.out
    have C3 := Hd.mk (dist A B w2 (by omega) (by omega) (fun k => by rw [HA2.out]; exact lwb _ (AA.out k)) (fun k => by rw [hB2]; exact lwb _ (AB.out k)))
    have e : MS false a b = fun i j => decide (at_ A i = at_ B j) := by funext i j; simp [MS, HA2.out, hB2]
    rw [hA1, hB1, ← e] at C3
    have HB2 := Hd.mk (HB.out.trans (hb2.mono HB.out.size))
    clear hb2 hB1 hB2 e hA1 C2
    go_wp2_with fail
    with_reducible refine C3.out.mono ?_
    rintro e w3 ⟨rfl, hb3⟩
    have HB3 := Hd.mk (HB2.out.trans (hb3.mono HB2.out.size))
    clear hb3 C3
    go_wp2
    go_ret
    exact ⟨rfl, HB3.out⟩
/-- What EditDistance answers. -/
def EditOut (n : Nat) (w : World) (e : Ending) (w' : World) : Prop := e = .returned (.tuple #[.int .i64 n, .int .i64 0]) ∧ Below w.heap.size w w'
set_option maxRecDepth 100000 in
theorem edit (a b : ByteArray) (sens : Bool) (w : World) (ha : a.size ≤ 100) (hb : b.size ≤ 100) (aa : Asc a) (ab : Asc b) :
    Calls Try.prog 12 #[.string a, .string b, .bool sens] w fun e w' => EditOut (G (MS sens a b) a.size b.size) w e w' := by
  have C := Hd.mk (distance2 a b sens w ha hb aa ab)
  have C1 := Hd.mk (fun w => isAscii a w (by omega) aa)
  have C2 := Hd.mk (fun w => isAscii b w (by omega) ab)
  obtain ⟨n, hn⟩ : ∃ n, G (MS sens a b) a.size b.size = n := ⟨_, rfl⟩
  rw [hn] at C ⊢
  have ha' : ¬ (1000 : Int) < a.size := by omega
  have hb' : ¬ (1000 : Int) < b.size := by omega
  clear aa ab hn
  cases sens with
  | true =>
    go_enter Try.func12, Try.ntmps12
    go_wp2_with fail
    with_reducible refine C.out.mono ?_
    rintro e w1 ⟨rfl, hb1⟩
    have HB := Hd.mk hb1
    clear hb1 C
    go_wp2
    go_ret2
    exact ⟨rfl, HB.out⟩
  | false =>
    go_enter Try.func12, Try.ntmps12
    go_wp2_with fail
    with_reducible refine (C1.out _).mono ?_
    rintro e w1 ⟨rfl, rfl⟩
    go_wp2_with fail
    with_reducible refine (C2.out _).mono ?_
    rintro e w1 ⟨rfl, rfl⟩
    go_wp2_with fail
    with_reducible refine C.out.mono ?_
    rintro e w1 ⟨rfl, hb1⟩
    have HB := Hd.mk hb1
    clear hb1 C
    go_wp2
    go_ret2
    exact ⟨rfl, HB.out⟩
theorem asc_one (x : UInt8) (h : x.toNat < 128) : Asc ⟨#[x]⟩ := by
  intro k
  match k with
  | 0 => exact h
  | k + 1 => rw [at_out _ _ (by simp [ByteArray.size])]; decide
theorem one_G : G (MS true ⟨#[97]⟩ ⟨#[98]⟩) (ByteArray.size ⟨#[97]⟩) (ByteArray.size ⟨#[98]⟩) = 1 := by decide +kernel
set_option maxRecDepth 100000 in
theorem FnDistance (a b : ByteArray) (sens : Bool) (w : World) (ha : a.size ≤ 140737488351232) (hb : b.size ≤ 140737488351232) :
    Calls Try.prog 5 #[.string a, .string b, .bool sens] w fun e w' => e = .returned (.bool true) ∧ Below w.heap.size w w' := by
  by_cases h1 : 2147483647 < a.size
  · have h1' : (2147483647 : Int) < a.size := by omega
    go_enter Try.func5, Try.ntmps5
    go_wp2
    go_ret
    exact ⟨rfl, Below.refl _ _⟩
  have h1' : ¬ (2147483647 : Int) < a.size := by omega
  by_cases h2 : 2147483647 < b.size
  · have h2' : (2147483647 : Int) < b.size := by omega
    go_enter Try.func5, Try.ntmps5
    go_wp2
    go_ret
    exact ⟨rfl, Below.refl _ _⟩
  have h2' : ¬ (2147483647 : Int) < b.size := by omega
  have C1 := Hd.mk (heAscii a w (by omega))
  have C2 := Hd.mk (fun w => heAscii b w (by omega))
  go_enter Try.func5, Try.ntmps5
  go_wp2_with fail
  with_reducible refine C1.out.mono ?_
  rintro e w1 ⟨s, rfl, hs1, hs2, hb1⟩
  have HB1 := Hd.mk hb1; have HS := Hd.mk hs2
  clear hb1 hs2 C1
  go_wp2_with fail
  with_reducible refine (C2.out _).mono ?_
  rintro e w2 ⟨t, rfl, ht1, ht2, hb2⟩
  have HB2 := Hd.mk (HB1.out.trans (hb2.mono HB1.out.size)); have HT := Hd.mk ht2
  clear hb2 ht2 C2 HB1
  have cut : ∀ s : ByteArray, Asc s → 40 < s.size → Asc (s.extract 0 40) ∧ (s.extract 0 40).size = 40 := fun s h1 h2 => ⟨fun k => Nat.lt_of_le_of_lt (at_extract s 40 k (by omega)).2 (h1 k), (at_extract s 40 0 (by omega)).1⟩
  have CUT := Hd.mk cut
  clear cut
  have L1 : Hd (s.size ≤ 100) := ⟨hs1⟩; have L2 : Hd (t.size ≤ 100) := ⟨ht1⟩
  clear hs1 ht1
  by_cases k1 : (40 : Int) < s.size <;> by_cases k2 : (40 : Int) < t.size
  all_goals
    go_wp2
    go_region
  · have fX : Asc (s.extract 0 40) ∧ (s.extract 0 40).size ≤ 100 := (by have h := CUT.out s HS.out (by omega); exact ⟨h.1, by rw [h.2]; decide⟩)
    have fY : Asc (t.extract 0 40) ∧ (t.extract 0 40).size ≤ 100 := (by have h := CUT.out t HT.out (by omega); exact ⟨h.1, by rw [h.2]; decide⟩)
    have C3 := Hd.mk (edit (s.extract 0 40) (t.extract 0 40) sens w2.drew fX.2 fY.2 fX.1 fY.1)
    have C4 := Hd.mk (fun w => edit ⟨#[97]⟩ ⟨#[98]⟩ true w (by decide) (by decide) (asc_one 97 (by decide)) (asc_one 98 (by decide)))
    have C5 := Hd.mk (fun w => heDist (s.extract 0 40) (t.extract 0 40) sens w fX.2 fY.2)
    simp only [one_G] at C4
    generalize hn : G (MS sens (s.extract 0 40) (t.extract 0 40)) (ByteArray.size (s.extract 0 40)) (ByteArray.size (t.extract 0 40)) = n at C3 C5
    clear hn fX fY
    go_wp2_with fail
    with_reducible refine C3.out.mono ?_
    rintro e w3 ⟨rfl, hb3⟩
    have HB3 := Hd.mk (HB2.out.drew.trans (hb3.mono HB2.out.drew.size))
    clear hb3 C3
    go_wp2_with fail
    with_reducible refine (C4.out _).mono ?_
    rintro e w4 ⟨rfl, hb4⟩
    have HB4 := Hd.mk (HB3.out.trans (hb4.mono HB3.out.size))
    clear hb4 C4
    go_wp2_with fail
    with_reducible refine (C5.out _).mono ?_
    rintro e w5 ⟨rfl, hb5⟩
    have HB5 := Hd.mk (HB4.out.trans (hb5.mono HB4.out.size))
    clear hb5 C5
    go_wp2
    go_ret
    exact ⟨by simp, HB5.out⟩
  · have fX : Asc (s.extract 0 40) ∧ (s.extract 0 40).size ≤ 100 := (by have h := CUT.out s HS.out (by omega); exact ⟨h.1, by rw [h.2]; decide⟩)
    have fY : Asc (t) ∧ (t).size ≤ 100 := ⟨HT.out, L2.out⟩
    have C3 := Hd.mk (edit (s.extract 0 40) (t) sens w2.drew fX.2 fY.2 fX.1 fY.1)
    have C4 := Hd.mk (fun w => edit ⟨#[97]⟩ ⟨#[98]⟩ true w (by decide) (by decide) (asc_one 97 (by decide)) (asc_one 98 (by decide)))
    have C5 := Hd.mk (fun w => heDist (s.extract 0 40) (t) sens w fX.2 fY.2)
    simp only [one_G] at C4
    generalize hn : G (MS sens (s.extract 0 40) (t)) (ByteArray.size (s.extract 0 40)) (ByteArray.size (t)) = n at C3 C5
    clear hn fX fY
    go_wp2_with fail
    with_reducible refine C3.out.mono ?_
    rintro e w3 ⟨rfl, hb3⟩
    have HB3 := Hd.mk (HB2.out.drew.trans (hb3.mono HB2.out.drew.size))
    clear hb3 C3
    go_wp2_with fail
    with_reducible refine (C4.out _).mono ?_
    rintro e w4 ⟨rfl, hb4⟩
    have HB4 := Hd.mk (HB3.out.trans (hb4.mono HB3.out.size))
    clear hb4 C4
    go_wp2_with fail
    with_reducible refine (C5.out _).mono ?_
    rintro e w5 ⟨rfl, hb5⟩
    have HB5 := Hd.mk (HB4.out.trans (hb5.mono HB4.out.size))
    clear hb5 C5
    go_wp2
    go_ret
    exact ⟨by simp, HB5.out⟩
  · have fX : Asc (s) ∧ (s).size ≤ 100 := ⟨HS.out, L1.out⟩
    have fY : Asc (t.extract 0 40) ∧ (t.extract 0 40).size ≤ 100 := (by have h := CUT.out t HT.out (by omega); exact ⟨h.1, by rw [h.2]; decide⟩)
    have C3 := Hd.mk (edit (s) (t.extract 0 40) sens w2.drew fX.2 fY.2 fX.1 fY.1)
    have C4 := Hd.mk (fun w => edit ⟨#[97]⟩ ⟨#[98]⟩ true w (by decide) (by decide) (asc_one 97 (by decide)) (asc_one 98 (by decide)))
    have C5 := Hd.mk (fun w => heDist (s) (t.extract 0 40) sens w fX.2 fY.2)
    simp only [one_G] at C4
    generalize hn : G (MS sens (s) (t.extract 0 40)) (ByteArray.size (s)) (ByteArray.size (t.extract 0 40)) = n at C3 C5
    clear hn fX fY
    go_wp2_with fail
    with_reducible refine C3.out.mono ?_
    rintro e w3 ⟨rfl, hb3⟩
    have HB3 := Hd.mk (HB2.out.drew.trans (hb3.mono HB2.out.drew.size))
    clear hb3 C3
    go_wp2_with fail
    with_reducible refine (C4.out _).mono ?_
    rintro e w4 ⟨rfl, hb4⟩
    have HB4 := Hd.mk (HB3.out.trans (hb4.mono HB3.out.size))
    clear hb4 C4
    go_wp2_with fail
    with_reducible refine (C5.out _).mono ?_
    rintro e w5 ⟨rfl, hb5⟩
    have HB5 := Hd.mk (HB4.out.trans (hb5.mono HB4.out.size))
    clear hb5 C5
    go_wp2
    go_ret
    exact ⟨by simp, HB5.out⟩
  · have fX : Asc (s) ∧ (s).size ≤ 100 := ⟨HS.out, L1.out⟩
    have fY : Asc (t) ∧ (t).size ≤ 100 := ⟨HT.out, L2.out⟩
    have C3 := Hd.mk (edit (s) (t) sens w2.drew fX.2 fY.2 fX.1 fY.1)
    have C4 := Hd.mk (fun w => edit ⟨#[97]⟩ ⟨#[98]⟩ true w (by decide) (by decide) (asc_one 97 (by decide)) (asc_one 98 (by decide)))
    have C5 := Hd.mk (fun w => heDist (s) (t) sens w fX.2 fY.2)
    simp only [one_G] at C4
    generalize hn : G (MS sens (s) (t)) (ByteArray.size (s)) (ByteArray.size (t)) = n at C3 C5
    clear hn fX fY
    go_wp2_with fail
    with_reducible refine C3.out.mono ?_
    rintro e w3 ⟨rfl, hb3⟩
    have HB3 := Hd.mk (HB2.out.drew.trans (hb3.mono HB2.out.drew.size))
    clear hb3 C3
    go_wp2_with fail
    with_reducible refine (C4.out _).mono ?_
    rintro e w4 ⟨rfl, hb4⟩
    have HB4 := Hd.mk (HB3.out.trans (hb4.mono HB3.out.size))
    clear hb4 C4
    go_wp2_with fail
    with_reducible refine (C5.out _).mono ?_
    rintro e w5 ⟨rfl, hb5⟩
    have HB5 := Hd.mk (HB4.out.trans (hb5.mono HB4.out.size))
    clear hb5 C5
    go_wp2
    go_ret
    exact ⟨by simp, HB5.out⟩
end Go.Proofs.Ytenefomcbjeccaa.Kb
