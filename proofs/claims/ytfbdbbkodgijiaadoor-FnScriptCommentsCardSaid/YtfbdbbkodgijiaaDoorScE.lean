/- Statements of a text: one scan that finds none; ScanFunc; ScanStep. -/
import Derived.Test.YtfbdbbkodgijiaaDoorScD
namespace Go.Proofs.YtfbdbbkodgijiaaDoor.Kb
open Go Go.RowKit
set_option linter.unusedVariables false
set_option linter.unusedSimpArgs false
set_option maxHeartbeats 4000000
def Nothing (w : World) (s sep : Nat) (com : Bool) (e : Ending) (w' : World) : Prop := e = .returned (.tuple #[.int .i64 0, .slice none 0 0, .nilIface]) ∧ Idle s sep com w' ∧ Bel w.heap.size [s] w w'
set_option maxRecDepth 100000 in
theorem scan_empty {w : World} {s sep c : Nat} {com : Bool} {A : Option Addr} (I : Idle s sep com w) :
    Calls Tryd.prog 16 #[.pointer (some ⟨s, 0, none⟩), .slice A 0 c, .bool true] w fun e w' => Nothing w s sep com e w' := by
  have HI := Hd.mk I
  clear I
  go_enter Tryd.func16, Tryd.ntmps16
  go_wp2
  go_ret3
  exact ⟨rfl, HI.out, Bel.refl _ _ _⟩
set_option maxRecDepth 100000 in
theorem scan_none {w : World} {s sep g off c : Nat} {com eof : Bool} {A : Option Addr} {l : List Nat} (hl : l.length ≤ 50000) (hL : Left sep l) (hn0 : l ≠ []) (I : Idle s sep com w)
    (ha : A = some ⟨g, off, none⟩) (hd : DataAt w g off l) (hc : l.length ≤ c ∧ c ≤ maxLen) (hg : g < w.heap.size ∧ g ≠ s) :
    Calls Tryd.prog 16 #[.pointer (some ⟨s, 0, none⟩), .slice A l.length c, .bool eof] w fun e w' => Nothing w s sep com e w' := by
  obtain ⟨A', n', c', eof', v, hv, B⟩ := I
  have CI := Hd.mk (scInit (A := A) (n := l.length) (c := c) (eof := eof) B hv)
  have CS := Hd.mk (scan1_none hL (by omega) (sc_begin (eof := eof) B (fun _ => ha) hd hc hg))
  obtain ⟨W, hW⟩ : ∃ W, W = (((w.setCell ⟨s, 2, none⟩ (.slice A l.length c)).setCell ⟨s, 3, none⟩ (.bool eof)).setCell ⟨s, 4, none⟩ (.slice none 0 0)) := ⟨_, rfl⟩
  rw [← hW] at CI CS
  have hlp : 0 < l.length := List.length_pos_iff.2 hn0
  obtain ⟨n, hn⟩ : ∃ n, l.length = n := ⟨_, rfl⟩
  rw [hn] at CI hlp ⊢
  have hz : (((n : Int)) == 0) = false := by simp; omega
  have hz0 : ¬ n = 0 := by omega
  clear hv B hd hc hg ha hL hW hn hn0 hl hlp
  have KE := Hd.mk (fun W => isEnd_yes W)
  unfold endE at CS KE
  cases eof
  all_goals
    go_enter Tryd.func16, Tryd.ntmps16
    go_wp2_with fail
    with_reducible refine CI.out.mono ?_
    rintro e w1 ⟨rfl, rfl⟩
    clear CI
    go_wp2_with fail
    with_reducible refine CS.out.mono ?_
    rintro e w2 ⟨rfl, ys, tk, hS2⟩
    have HS2 := Hd.mk hS2
    clear hS2 CS
    go_wp2_with fail
    with_reducible refine (KE.out _).mono ?_
    rintro e w3 ⟨rfl, o, rfl⟩
    clear KE
    go_wp2
    go_ret3
    refine ⟨rfl, ?_, HS2.out.idle.2.alloc HS2.out.idle.2.size o⟩
    obtain ⟨A1, n1, c1, e1, v1, hv1, B1⟩ := HS2.out.idle.1
    exact ⟨A1, n1, c1, e1, v1, hv1, B1.alloc o⟩
set_option maxRecDepth 100000 in
theorem scanFunc (sep : Nat) (com : Bool) (w : World) : Calls Tryd.prog 14 #[.int .i32 sep, .bool com] w fun e w' => e = .returned (.func (.func 16) #[.pointer (some ⟨w.heap.size, 0, none⟩)] #[]) ∧ w' = w.alloc (.cells #[.int .i32 sep, .bool com, .slice none 0 0, .bool false, .slice none 0 0] 42) := by
  have hmf : ∀ (fn : Fn) (first cap : Array Value) (w : World), (Instr.makeFunc fn first cap).run Tryd.prog w = .ok (.func fn first cap) w := fun _ _ _ _ => rfl
  go_enter Tryd.func14, Tryd.ntmps14
  go_wp2
  go_ret
  exact ⟨rfl, rfl⟩
theorem own_data {w : World} {b n : Nat} {v : Value} {xs : List Nat} (h : w.ownsRow b 5 1 v n (bc (nb xs))) (h0 : xs ≠ []) : ∃ g c, v = .slice (some ⟨g, 0, none⟩) n c ∧ n ≤ c ∧ c ≤ maxLen ∧ b ≤ g ∧ g < w.heap.size ∧ DataAt w g 0 xs ∧ n = xs.length := by
  have hl : n = xs.length := by have := h.1; simp [nb] at this; omega
  have hp : 0 < xs.length := List.length_pos_iff.2 h0
  obtain ⟨g, c, hv, hnc, _, _, hb⟩ := own_at h 0 (by simp [nb]; omega)
  obtain ⟨A2, c2, hv2, _, hm⟩ := own_slice h
  rw [hv] at hv2
  simp only [Value.slice.injEq] at hv2
  obtain ⟨rfl, _, rfl⟩ := hv2
  refine ⟨g, c, hv, hnc, hm, hb, ?_, ?_, hl⟩
  · exact (h.lt g (by rw [hv]; rfl)).2
  · intro j hj
    obtain ⟨g', c', hv', _, hc', _, _⟩ := own_at h j (by simp [nb]; omega)
    rw [hv] at hv'
    simp only [Value.slice.injEq, Option.some.injEq, Addr.mk.injEq] at hv'
    obtain ⟨⟨rfl, _⟩, _, _⟩ := hv'
    rw [Nat.zero_add, hc']
    simp [nb]
end Go.Proofs.YtfbdbbkodgijiaaDoor.Kb
