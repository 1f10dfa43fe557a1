/- FnIdentifier: which identifiers are simple; ASCII. -/
import Derived.Test.YtanmgmiddmndjaaDoorDisP
import Derived.Test.YtanmgmiddmndjaaDoorStep
namespace Go.Proofs.YtanmgmiddmndjaaDoor.Kb
open Go Go.RowKit
set_option linter.unusedVariables false
set_option linter.unusedSimpArgs false
set_option maxHeartbeats 4000000
/-- May byte x stand at place k of a simple identifier? -/
def okAt (k x : Nat) : Bool := decide ((65 ≤ x ∧ x ≤ 90) ∨ x = 95 ∨ (0 < k ∧ ((48 ≤ x ∧ x ≤ 57) ∨ x = 36 ∨ x = 35)))
def simpB (s : ByteArray) : Bool := (List.range s.size).all fun k => okAt k (at_ s k)
theorem simp_full (s : ByteArray) (h : ∀ j, j < s.size → okAt j (at_ s j) = true) : simpB s = true := by
  unfold simpB
  rw [List.all_eq_true]
  intro j hj
  exact h j (List.mem_range.1 hj)
theorem simp_bad (s : ByteArray) (k : Nat) (hk : k < s.size) (h : okAt k (at_ s k) = false) : simpB s = false := by
  unfold simpB
  rw [Bool.eq_false_iff]
  intro ha
  rw [List.all_eq_true] at ha
  have := ha k (List.mem_range.2 hk)
  rw [h] at this
  cases this
theorem okAt_cases (k x : Nat) : (okAt k x = true ∧ ((65 ≤ x ∧ x ≤ 90) ∨ x = 95 ∨ (0 < k ∧ 48 ≤ x ∧ x ≤ 57) ∨ (0 < k ∧ x = 36) ∨ (0 < k ∧ x = 35))) ∨
    (okAt k x = false ∧ (x < 35 ∨ (36 < x ∧ x < 48) ∨ (57 < x ∧ x < 65) ∨ (90 < x ∧ x < 95) ∨ 95 < x ∨ (k ≤ 0 ∧ x = 35) ∨ (k ≤ 0 ∧ x = 36) ∨ (k ≤ 0 ∧ 48 ≤ x ∧ x ≤ 57))) := by
  unfold okAt
  by_cases h : (65 ≤ x ∧ x ≤ 90) ∨ x = 95 ∨ (0 < k ∧ ((48 ≤ x ∧ x ≤ 57) ∨ x = 36 ∨ x = 35))
  · exact .inl ⟨by simpa using h, by omega⟩
  · exact .inr ⟨by simpa using h, by omega⟩
theorem ok_next {s : ByteArray} {k : Nat} (h : ∀ j, j < k → okAt j (at_ s j) = true) (hk : okAt k (at_ s k) = true) : ∀ j, j < k + 1 → okAt j (at_ s j) = true := fun j hj => by
  by_cases e : j = k
  · rw [e]; exact hk
  · exact h j (by omega)
set_option maxRecDepth 100000 in
theorem scSimple (s : ByteArray) (w : World) (hs : s.size ≤ 1000) : Calls Tryd.prog 5 #[.string s] w fun e w' => e = .returned (.bool (simpB s)) ∧ w' = w := by
  go_enter Tryd.func5, Tryd.ntmps5
  go_wp2
  go_loop [3] (fun i => ∃ k : Nat, k ≤ s.size ∧ i = .int .i64 k ∧ ∀ j, j < k → okAt j (at_ s j) = true) (fun i => s.size - (intOf i).toNat)
  case atStart => exact ⟨0, Nat.zero_le _, rfl, fun j hj => by omega⟩
  case round =>
    obtain ⟨k, hk, rfl, hgood⟩ := hrel
    by_cases hlt : k < s.size
    · have hg := at_get s k hlt
      obtain ⟨x, hxx⟩ : ∃ x, (s[k]'hlt).toNat = x := ⟨_, rfl⟩
      rw [hxx] at hg
      rcases okAt_cases k x with ⟨ok, hc⟩ | ⟨ok, hc⟩
      · have HN := Hd.mk (ok_next hgood (by rw [← hg]; exact ok))
        clear ok hgood hg
        rcases hc with hA | rfl | hA | ⟨hA, rfl⟩ | ⟨hA, rfl⟩
        all_goals
          try have e95 : ((x : Int) == 95) = false := by simp; omega
          try have e36 : ((x : Int) == 36) = false := by simp; omega
          try have e35 : ((x : Int) == 35) = false := by simp; omega
          go_wp2
          go_round
          case rel => exact ⟨k + 1, by omega, by go_num, HN.out⟩
          case measure => simp [intOf]; omega
      · have HB := Hd.mk (simp_bad s k hlt (by rw [← hg]; exact ok))
        clear ok hgood hg
        rcases hc with hA | hA | hA | hA | hA | ⟨hA, rfl⟩ | ⟨hA, rfl⟩ | hA
        all_goals
          try have e95 : ((x : Int) == 95) = false := by simp; omega
          try have e36 : ((x : Int) == 36) = false := by simp; omega
          try have e35 : ((x : Int) == 35) = false := by simp; omega
          rcases (by omega : ¬ (0 : Int) < k ∨ (0 : Int) < k) with hk0 | hk0
          all_goals
            first
            | omega
            | (go_wp2
               go_ret
               exact ⟨by rw [HB.out]; rfl, rfl⟩)
    · obtain rfl : k = s.size := by omega
      have HB := Hd.mk (simp_full s hgood)
      clear hgood
      go_wp2
      go_ret
      exact ⟨by rw [HB.out]; rfl, rfl⟩
set_option maxRecDepth 100000 in
theorem isAscii (s : ByteArray) (w : World) (hs : s.size ≤ 1000) (ha : Asc s) : Calls Tryd.prog 7 #[.string s] w fun e w' => e = .returned (.bool true) ∧ w' = w := by
  have HA := Hd.mk ha
  clear ha
  go_enter Tryd.func7, Tryd.ntmps7
  go_wp2
  go_loop [3] (fun i => ∃ k : Nat, k ≤ s.size ∧ i = .int .i64 k) (fun i => s.size - (intOf i).toNat)
  case atStart => exact ⟨0, Nat.zero_le _, rfl⟩
  case round =>
    obtain ⟨k, hk, rfl⟩ := hrel
    by_cases hlt : k < s.size
    · have hg := at_get s k hlt
      have hx := HA.out k
      rw [← hg] at hx
      obtain ⟨x, hxx⟩ : ∃ x, (s[k]'hlt).toNat = x := ⟨_, rfl⟩
      rw [hxx] at hx hg
      have hx2 : ¬ (128 : Int) ≤ x := by omega
      clear hg
      go_wp2
      go_round
      case rel => exact ⟨k + 1, by omega, by go_num⟩
      case measure => simp [intOf]; omega
    · obtain rfl : k = s.size := by omega
      go_wp2
      go_ret
      exact ⟨rfl, rfl⟩
def SimpOut (b : Bool) (w : World) (e : Ending) (w' : World) : Prop := e = .returned (.bool b) ∧ Below w.heap.size w w'
set_option maxRecDepth 100000 in
theorem isSimple (s : ByteArray) (w : World) (hs : s.size ≤ 1000) (ha : Asc s) : Calls Tryd.prog 10 #[.string s] w fun e w' => SimpOut (simpB s) w e w' := by
  have HA := Hd.mk ha
  clear ha
  go_enter Tryd.func10, Tryd.ntmps10
  go_wp2
  obtain ⟨ia, hia⟩ : ∃ ia, w.heap.size = ia := ⟨_, rfl⟩
  have hi0 := World.iter_heap w s 0
  have hb0 : Below w.heap.size w (w.iter s 0) := (Below.refl _ _).alloc (Nat.le_refl _) (.stringIter s 0)
  rw [hia] at hi0
  have HI := Hd.mk hi0; have HB0 := Hd.mk hb0
  have hle : w.heap.size ≤ ia := by omega
  rw [hia]
  obtain ⟨W, hW⟩ : ∃ W, W = w.iter s 0 := ⟨_, rfl⟩
  rw [← hW] at HI HB0 ⊢
  clear hi0 hb0 hW hia
  go_loopw [3] (fun _ wq => ∃ i : Nat, i ≤ s.size ∧ wq.heap[ia]? = some (.stringIter s i) ∧ (∀ j, j < i → okAt j (at_ s j) = true) ∧ Below w.heap.size w wq) (fun _ w' => s.size - w'.iterPos ia)
  case atStart => exact ⟨0, Nat.zero_le _, HI.out, fun j hj => by omega, HB0.out⟩
  case round =>
    obtain ⟨k, hk, hI, hgood, hbw⟩ := hrel
    by_cases hlt : k < s.size
    · have hx : (s[k]'hlt).toNat < 128 := by rw [at_get]; exact HA.out k
      have hnx : ∀ ty, (Instr.next (.pointer (some ⟨ia, 0, none⟩)) true ty).run Tryd.prog wr = _ := fun ty => Go.Lib.run_next_ascii_at wr ia s k ty hI hlt hx
      have PI : Hd (wr.iterPos ia = k) := ⟨iterPos_of hI⟩
      have hI1 := Go.Lib.iterAt_heap wr ia s k (k + 1) hI
      have hbw1 := Go.Lib.below_iterAt hbw (k := ia) hle s (k + 1)
      obtain ⟨W1, hW1⟩ : ∃ W1, wr.iterAt ia s (k + 1) = W1 := ⟨_, rfl⟩
      rw [hW1] at hI1 hbw1
      simp only [hW1] at hnx
      have PI1 : Hd (W1.iterPos ia = k + 1) := ⟨iterPos_of hI1⟩
      have HI1 := Hd.mk hI1; have HB1 := Hd.mk hbw1
      have hg := at_get s k hlt
      obtain ⟨x, hxx⟩ : ∃ x, (s[k]'hlt).toNat = x := ⟨_, rfl⟩
      rw [hxx] at hg hx
      simp only [hxx] at hnx
      rcases okAt_cases k x with ⟨ok, hc⟩ | ⟨ok, hc⟩
      · have HN := Hd.mk (ok_next hgood (by rw [← hg]; exact ok))
        clear ok hgood hg hxx hI hbw hI1 hbw1 hW1
        rcases hc with hA | rfl | hA | ⟨hA, rfl⟩ | ⟨hA, rfl⟩
        all_goals
          try have e95 : ((x : Int) == 95) = false := by simp; omega
          try have e36 : ((x : Int) == 36) = false := by simp; omega
          try have e35 : ((x : Int) == 35) = false := by simp; omega
          try have k0 : ((k : Int) != 0) = true := by simp; omega
          go_wp2
          go_roundw
          case rel => exact ⟨k + 1, by omega, HI1.out, HN.out, HB1.out⟩
          case measure => rw [PI.out, PI1.out]; omega
      · have HB := Hd.mk (simp_bad s k hlt (by rw [← hg]; exact ok))
        clear ok hgood hg hxx hI hbw hI1 hbw1 hW1
        rcases hc with hA | hA | hA | hA | hA | ⟨hA, rfl⟩ | ⟨hA, rfl⟩ | hA
        all_goals
          try have e95 : ((x : Int) == 95) = false := by simp; omega
          try have e36 : ((x : Int) == 36) = false := by simp; omega
          try have e35 : ((x : Int) == 35) = false := by simp; omega
          rcases (by omega : ¬ (0 : Int) < k ∨ (0 : Int) < k) with hk0 | hk0
          all_goals
            first
            | omega
            | (first
               | have k0 : ((k : Int) != 0) = true := by simp; omega
               | have k0 : ((k : Int) != 0) = false := by simp; omega
               go_wp2
               go_ret
               exact ⟨by rw [HB.out]; rfl, HB1.out⟩)
    · obtain rfl : k = s.size := by omega
      have hnx : ∀ ty, (Instr.next (.pointer (some ⟨ia, 0, none⟩)) true ty).run Tryd.prog wr = _ := fun ty => Go.Lib.run_next_end_at wr ia s s.size ty hI (by omega)
      have HB := Hd.mk (simp_full s hgood)
      have HB1 := Hd.mk hbw
      clear hgood hI hbw
      go_wp2
      go_ret
      exact ⟨by rw [HB.out]; rfl, HB1.out⟩
end Go.Proofs.YtanmgmiddmndjaaDoor.Kb
