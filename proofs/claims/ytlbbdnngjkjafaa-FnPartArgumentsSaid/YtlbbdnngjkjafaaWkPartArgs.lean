/- The walk of the law FnPartArguments: the call returns true, and nothing that was there is written. -/
import Derived.Test.YtlbbdnngjkjafaaPFnPartFlagsx0
namespace Go.Proofs.Ytlbbdnngjkjafaa.Wk
open Go.RowKit Go.Proofs.YtlbbdnngjkjafaaW.PrintWords Go.Proofs.YtlbbdnngjkjafaaW.PrintLast Go.Proofs.YtlbbdnngjkjafaaW.PrintMore
set_option linter.unusedVariables false
set_option linter.unusedSimpArgs false
set_option maxHeartbeats 1000000
theorem bset {B b o : Nat} {s : Option Nat} {a w : World} (h : Below B a w) (hp : B ≤ b) (u : Value) : Below B a (w.setCell ⟨b, o, s⟩ u) := Below.setCell h hp u
theorem p70 (b : Nat) (c d r : Int) (w : World) (h2 : w.cell? ⟨b, 2, none⟩ = some (.int .i16 c)) (h3 : w.cell? ⟨b, 3, none⟩ = some (.int .i32 d)) (hr : r = if c = -1 then wrap64 d else wrap64 c) :
    Calls Try.prog 70 #[.pointer (some ⟨b, 0, none⟩)] w fun e w' => e = .returned (.int .i64 r) ∧ w = w' := by
  by_cases e : c = -1
  · subst e
    rw [if_pos rfl] at hr
    go_enter Try.func70, Try.ntmps70
    go_wp2
    go_ret
    exact ⟨by simp [hr], rfl⟩
  · rw [if_neg e] at hr
    go_enter Try.func70, Try.ntmps70
    go_wp2
    go_ret
    exact ⟨by simp [hr], rfl⟩
theorem p69 (b : Nat) (n c d c0 d0 : Int) (B : Nat) (w : World) (hB : B ≤ b) (h2 : w.cell? ⟨b, 2, none⟩ = some (.int .i16 c0)) (h3 : w.cell? ⟨b, 3, none⟩ = some (.int .i32 d0)) (f2 : w.frozen? ⟨b, 2, none⟩ = false) (f3 : w.frozen? ⟨b, 3, none⟩ = false)
    (h : (n ≤ 32767 ∧ c = IntKind.i16.wrap n ∧ d = 0) ∨ (32767 < n ∧ n ≤ 2147483647 ∧ c = -1 ∧ d = n)) :
    Calls Try.prog 69 #[.pointer (some ⟨b, 0, none⟩), .int .i64 n] w fun e w' => e = .returned .nilIface ∧ Below B w w' ∧ w'.cell? ⟨b, 2, none⟩ = some (.int .i16 c) ∧ w'.cell? ⟨b, 3, none⟩ = some (.int .i32 d) := by
  rcases h with ⟨hn, rfl, rfl⟩ | ⟨hn, hn2, rfl, rfl⟩
  · go_enter Try.func69, Try.ntmps69
    go_wp2
    go_ret
    refine ⟨rfl, ?_, ?_, ?_⟩
    · with_reducible refine bset (bset (Below.refl _ _) hB _) hB _
    · simp [go_sem, h2, h3, f2, f3]
    · simp [go_sem, h2, h3, f2, f3]
  · go_enter Try.func69, Try.ntmps69
    go_wp2
    go_ret
    refine ⟨rfl, ?_, ?_, ?_⟩
    · with_reducible refine bset (bset (Below.refl _ _) hB _) hB _
    · simp [go_sem, h2, h3, f2, f3]
    · simp [go_sem, h2, h3, f2, f3]
/-- ZzPartArguments. -/
theorem p41 (n c d r : Int) (w : World) (h : (n ≤ 32767 ∧ c = IntKind.i16.wrap n ∧ d = 0) ∨ (32767 < n ∧ n ≤ 2147483647 ∧ c = -1 ∧ d = n)) (hc : wrap64 c = c) (hd : wrap64 d = d) (hr : r = if c = -1 then wrap64 d else wrap64 c) :
    Calls Try.prog 41 #[.int .i64 n] w fun e w' => e = .returned (.tuple #[.int .i64 c, .int .i64 d, .int .i64 r, .nilIface]) ∧ Below w.heap.size w w' := by
  have HH := Aside0.mk h; have HR := Aside0.mk hr
  clear h hr
  go_enter Try.func41, Try.ntmps41
  go_wp2_with fail
  with_reducible refine (p69 w.heap.size n c d 0 0 w.heap.size _ (Nat.le_refl _) ?_ ?_ ?_ ?_ HH.out).mono ?_
  · simp [go_sem]
  · simp [go_sem]
  · simp [go_sem]
  · simp [go_sem]
  rintro e w1 ⟨rfl, hb, h2, h3⟩
  have HB := Aside0.mk hb
  clear hb
  have q70 : ∀ m : Nat, Calls Try.prog 70 #[.pointer (some ⟨w.heap.size, 0, none⟩)] (w1.drewN m) fun e w'' => e = .returned (.int .i64 r) ∧ ∃ k, w'' = w1.drewN k := fun m =>
    (p70 w.heap.size c d r (w1.drewN m) (by simpa [go_sem] using h2) (by simpa [go_sem] using h3) HR.out).mono fun _ _ ⟨he, hm⟩ => ⟨he, m, hm.symm⟩
  go_wp2
  go_quiet ((go_at_call 70; exact q70 _))
  go_wp2
  exact bodyPost_ret (v := .tuple #[.int .i64 c, .int .i64 d, .int .i64 r, .nilIface]) (by simp [results, Try.results41, go_sem, hc, hd]) rfl ⟨rfl, pw_below_drewN ((below_alloc (Below.refl _ _) _).trans HB.out) _⟩
/-- The numbers of a part. -/
def cnt (n : Int) : Int := if n ≤ 32767 then n else -1
def big (n : Int) : Int := if n ≤ 32767 then 0 else n
theorem p22 (n : Int) (h0 : 0 ≤ n) (h1 : n ≤ 2147483647) (w : World) : Calls Try.prog 22 #[.int .i64 n] w fun e w' => e = .returned (.tuple #[.int .i64 (cnt n), .int .i64 (big n), .int .i64 n, .int .i64 0]) ∧ Below w.heap.size w w' := by
  have hw : ∀ x : Int, -1 ≤ x → x ≤ 2147483647 → wrap64 x = x := by intro x _ _; unfold wrap64; omega
  have c0 : -1 ≤ cnt n ∧ cnt n ≤ 32767 := by unfold cnt; split <;> omega
  have d0 : 0 ≤ big n ∧ big n ≤ 2147483647 := by unfold big; split <;> omega
  have H41 := p41 n (cnt n) (big n) n
  have h41 := fun w => H41 w (by
    unfold cnt big
    by_cases c : n ≤ 32767
    · left; rw [if_pos c, if_pos c]; refine ⟨c, ?_, rfl⟩; simp [IntKind.wrap, IntKind.bits, IntKind.signed]; omega
    · right; rw [if_neg c, if_neg c]; exact ⟨by omega, h1, rfl, rfl⟩) (hw _ c0.1 (by omega)) (hw _ (by omega) d0.2) (by
    rw [hw _ c0.1 (by omega), hw _ (by omega) d0.2]
    unfold cnt big
    split <;> split <;> omega)
  have A := Aside0.mk h41
  clear H41 h41 hw c0 d0
  generalize cnt n = c at *
  generalize big n = d at *
  go_enter Try.func22, Try.ntmps22
  go_wp2_with fail
  with_reducible refine (A.out _).mono ?_
  rintro e w1 ⟨rfl, hb⟩
  have HB := Aside0.mk hb
  clear hb A
  go_wp2
  exact bodyPost_ret (v := .tuple #[.int .i64 c, .int .i64 d, .int .i64 n, .int .i64 0]) (by simp [results, Try.results22, go_sem]) rfl ⟨rfl, HB.out⟩
theorem law_ns (a : Int) (h0 : -2147483648 ≤ a) (h1 : a ≤ 2147483647) (h : a < 0) (hs : (-a - 1) ≤ 32767) (w : World) : Calls Try.prog 9 #[.int .i32 a] w fun e w' => e = .returned (.bool true) ∧ Below w.heap.size w w' := by
  have A := Aside0.mk (p22 (-a - 1) (by omega) (by omega))
  rw [show cnt (-a - 1) = (-a - 1) by unfold cnt; exact if_pos (by omega), show big (-a - 1) = 0 by unfold big; exact if_pos (by omega)] at A
  have A1 : Aside0 (∀ w, Calls Try.prog 22 #[.int .i64 1] w fun e w' => e = .returned (.tuple #[.int .i64 1, .int .i64 0, .int .i64 1, .int .i64 0]) ∧ Below w.heap.size w w') := ⟨p22 1 (by decide) (by decide)⟩
  have hw : wrap64 (-a - 1) = (-a - 1) := by unfold wrap64; omega
  have e1 : IntKind.i32.wrap (a + 1) = a + 1 := by rw [IntKind.wrap_i32]; omega
  have e2 : IntKind.i32.wrap (-(a + 1)) = -a - 1 := by rw [IntKind.wrap_i32]; omega
  go_enter Try.func9, Try.ntmps9
  go_wp2_with fail
  with_reducible refine (A.out _).mono ?_
  rintro e w1 ⟨rfl, hb⟩
  have HB := Aside0.mk hb
  clear hb
  go_wp2_with fail
  with_reducible refine (A1.out _).mono ?_
  rintro e w2 ⟨rfl, hb⟩
  have HB2 := Aside0.mk (below_then HB.out HB.out.size hb)
  clear hb HB
  go_wp2
  go_ret
  exact ⟨by simp, HB2.out⟩
theorem law_nb (a : Int) (h0 : -2147483648 ≤ a) (h1 : a ≤ 2147483647) (h : a < 0) (hs : (-a - 1) > 32767) (w : World) : Calls Try.prog 9 #[.int .i32 a] w fun e w' => e = .returned (.bool true) ∧ Below w.heap.size w w' := by
  have A := Aside0.mk (p22 (-a - 1) (by omega) (by omega))
  rw [show cnt (-a - 1) = -1 by unfold cnt; exact if_neg (by omega), show big (-a - 1) = (-a - 1) by unfold big; exact if_neg (by omega)] at A
  have A1 : Aside0 (∀ w, Calls Try.prog 22 #[.int .i64 1] w fun e w' => e = .returned (.tuple #[.int .i64 1, .int .i64 0, .int .i64 1, .int .i64 0]) ∧ Below w.heap.size w w') := ⟨p22 1 (by decide) (by decide)⟩
  have hw : wrap64 (-a - 1) = (-a - 1) := by unfold wrap64; omega
  have e1 : IntKind.i32.wrap (a + 1) = a + 1 := by rw [IntKind.wrap_i32]; omega
  have e2 : IntKind.i32.wrap (-(a + 1)) = -a - 1 := by rw [IntKind.wrap_i32]; omega
  go_enter Try.func9, Try.ntmps9
  go_wp2_with fail
  with_reducible refine (A.out _).mono ?_
  rintro e w1 ⟨rfl, hb⟩
  have HB := Aside0.mk hb
  clear hb
  go_wp2_with fail
  with_reducible refine (A1.out _).mono ?_
  rintro e w2 ⟨rfl, hb⟩
  have HB2 := Aside0.mk (below_then HB.out HB.out.size hb)
  clear hb HB
  go_wp2
  go_ret
  exact ⟨by simp, HB2.out⟩
theorem law_ps (a : Int) (h0 : -2147483648 ≤ a) (h1 : a ≤ 2147483647) (h : 0 ≤ a) (hs : a ≤ 32767) (w : World) : Calls Try.prog 9 #[.int .i32 a] w fun e w' => e = .returned (.bool true) ∧ Below w.heap.size w w' := by
  have A := Aside0.mk (p22 a (by omega) (by omega))
  rw [show cnt a = a by unfold cnt; exact if_pos (by omega), show big a = 0 by unfold big; exact if_pos (by omega)] at A
  have A1 : Aside0 (∀ w, Calls Try.prog 22 #[.int .i64 1] w fun e w' => e = .returned (.tuple #[.int .i64 1, .int .i64 0, .int .i64 1, .int .i64 0]) ∧ Below w.heap.size w w') := ⟨p22 1 (by decide) (by decide)⟩
  have hw : wrap64 a = a := by unfold wrap64; omega
  go_enter Try.func9, Try.ntmps9
  go_wp2_with fail
  with_reducible refine (A.out _).mono ?_
  rintro e w1 ⟨rfl, hb⟩
  have HB := Aside0.mk hb
  clear hb
  go_wp2_with fail
  with_reducible refine (A1.out _).mono ?_
  rintro e w2 ⟨rfl, hb⟩
  have HB2 := Aside0.mk (below_then HB.out HB.out.size hb)
  clear hb HB
  go_wp2
  go_ret
  exact ⟨by simp, HB2.out⟩
theorem law_pb (a : Int) (h0 : -2147483648 ≤ a) (h1 : a ≤ 2147483647) (h : 0 ≤ a) (hs : a > 32767) (w : World) : Calls Try.prog 9 #[.int .i32 a] w fun e w' => e = .returned (.bool true) ∧ Below w.heap.size w w' := by
  have A := Aside0.mk (p22 a (by omega) (by omega))
  rw [show cnt a = -1 by unfold cnt; exact if_neg (by omega), show big a = a by unfold big; exact if_neg (by omega)] at A
  have A1 : Aside0 (∀ w, Calls Try.prog 22 #[.int .i64 1] w fun e w' => e = .returned (.tuple #[.int .i64 1, .int .i64 0, .int .i64 1, .int .i64 0]) ∧ Below w.heap.size w w') := ⟨p22 1 (by decide) (by decide)⟩
  have hw : wrap64 a = a := by unfold wrap64; omega
  go_enter Try.func9, Try.ntmps9
  go_wp2_with fail
  with_reducible refine (A.out _).mono ?_
  rintro e w1 ⟨rfl, hb⟩
  have HB := Aside0.mk hb
  clear hb
  go_wp2_with fail
  with_reducible refine (A1.out _).mono ?_
  rintro e w2 ⟨rfl, hb⟩
  have HB2 := Aside0.mk (below_then HB.out HB.out.size hb)
  clear hb HB
  go_wp2
  go_ret
  exact ⟨by simp, HB2.out⟩
theorem FnPartArguments (a : Int) (w : World) (h0 : -2147483648 ≤ a) (h1 : a ≤ 2147483647) : Calls Try.prog 9 #[.int .i32 a] w fun e w' => e = .returned (.bool true) ∧ Below w.heap.size w w' := by
  by_cases h : a < 0
  · by_cases c : -a - 1 ≤ 32767
    · exact law_ns a h0 h1 h c w
    · exact law_nb a h0 h1 h (by omega) w
  · by_cases c : a ≤ 32767
    · exact law_ps a h0 h1 (by omega) c w
    · exact law_pb a h0 h1 (by omega) (by omega) w
end Go.Proofs.Ytlbbdnngjkjafaa.Wk
