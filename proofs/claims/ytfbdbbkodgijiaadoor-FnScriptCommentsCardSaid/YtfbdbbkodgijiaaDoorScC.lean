/- Statements of a text: the scanner: comments. -/
import Derived.Test.YtfbdbbkodgijiaaDoorScB
import Derived.Deep.RegionLaw
namespace Go.Proofs.YtfbdbbkodgijiaaDoor.Kb
open Go Go.RowKit
set_option linter.unusedVariables false
set_option linter.unusedSimpArgs false
set_option maxHeartbeats 4000000
set_option maxRecDepth 100000 in
theorem indexByte {w : World} {g off c : Nat} {l r : List Nat} (hl : ∀ x ∈ l, x ≠ 10) (hb : l.length ≤ 400000) (hc : (l ++ 10 :: r).length ≤ c) (D : DataAt w g off (l ++ 10 :: r)) :
    Calls Tryd.prog 27 #[.slice (some ⟨g, off, none⟩) (l ++ 10 :: r).length c, .int .u8 10] w fun e w' => e = .returned (.int .i64 l.length) ∧ w' = w := by
  have HD : Hd (∀ k, k < l.length → ∃ x : Nat, w.cell? ⟨g, off + k, none⟩ = some (.int .u8 x) ∧ ((x : Int) == 10) = false) := ⟨fun k hk => by
    refine ⟨l[k], ?_, by have := hl l[k] (List.getElem_mem hk); simp; omega⟩
    have := D k (by simp; omega)
    rwa [List.getElem_append_left hk] at this⟩
  have HE : Hd (w.cell? ⟨g, off + l.length, none⟩ = some (.int .u8 10)) := ⟨by
    have := D l.length (by simp)
    rw [List.getElem_append_right (Nat.le_refl _)] at this
    simpa using this⟩
  obtain ⟨n, hn⟩ : ∃ n, (l ++ 10 :: r).length = n := ⟨_, rfl⟩
  obtain ⟨m, hm⟩ : ∃ m, l.length = m := ⟨_, rfl⟩
  have hmn : m < n := by rw [← hn, ← hm]; simp <;> omega
  rw [hn] at hc ⊢
  rw [hm] at HD HE hb ⊢
  clear D hl hn hm
  go_enter Tryd.func27, Tryd.ntmps27
  go_wp2
  go_loop [8] (fun i => ∃ k : Nat, k ≤ m ∧ i = .int .i64 k) (fun i => n - (intOf i).toNat)
  case atStart => exact ⟨0, by omega, rfl⟩
  case round =>
    obtain ⟨k, hk, rfl⟩ := hrel
    have hkn : (k : Int) < n := by omega
    by_cases hlt : k < m
    · obtain ⟨x, hx, hx10⟩ := HD.out k hlt
      go_wp2
      go_round
      case rel => exact ⟨k + 1, by omega, by go_num⟩
      case measure => simp [intOf]; omega
    · obtain rfl : k = m := by omega
      have he := HE.out
      go_wp2
      go_ret
      exact ⟨rfl, rfl⟩
theorem DataAt.rd {w : World} {g off : Nat} {xs ys : List Nat} (D : DataAt w g off (xs ++ ys)) (hg : g < w.heap.size) (hs : xs.length ≤ 1000000) : Rd w [] (some ⟨g, off, none⟩) xs.length (nb xs) := by
  refine ⟨nb_len xs, by omega, fun j hj => ⟨_, rfl, ?_, hg, by simp⟩⟩
  have hj' : j < xs.length := by simpa [nb] using hj
  have := D j (by simp; omega)
  rw [List.getElem_append_left hj'] at this
  have e : (⟨g, off, none⟩ : Addr).add j = ⟨g, off + j, none⟩ := by
    unfold Addr.add
    split
    · rename_i h0; subst h0; rfl
    · rfl
  rw [e]
  simpa [nb] using this
set_option maxRecDepth 100000 in
theorem appendLine {w0 w : World} {s sep g off c : Nat} {A : Option Addr} {v : Value} {com eof : Bool} {l r tok : List Nat} {x : Nat} (hx : x ≠ 13) (hl : l.length + tok.length ≤ 400000) (S : Sc w0 s sep com eof g off A c ((l ++ [x]) ++ r) v tok w) :
    Calls Tryd.prog 28 #[.pointer (some ⟨s, 0, none⟩), .slice (some ⟨g, off, none⟩) (l ++ [x]).length c] w fun e w' => e = .returned (.tuple #[]) ∧ ∃ v', Sc w0 s sep com eof g off A c ((l ++ [x]) ++ r) v' (tok ++ (l ++ [x])) w' := by
  obtain ⟨i0, hi, hz0, hz1, hz2⟩ := info_of infoB
  have I := Hd.mk (And.intro hi (And.intro hz0 (And.intro hz1 hz2)))
  have hA := S.addr (by simp)
  subst hA
  have c2 : w.cell? ⟨s, 2, none⟩ = some (.slice (some ⟨g, off, none⟩) ((l ++ [x]) ++ r).length c) := S.blk.cell 2 rfl
  have c4 : w.cell? ⟨s, 4, none⟩ = some v := S.blk.cell 4 rfl
  have f4 := S.blk.free 4
  have hgs : g < w.heap.size := Nat.lt_of_lt_of_le S.gl.1 S.bel.size
  have R0 := Hd.mk ((S.data.rd hgs (by simp; omega)).below (Below.refl _ _).drew)
  have hlast : w.cell? ⟨g, off + l.length, none⟩ = some (.int .u8 x) := by
    have := S.data l.length (by simp <;> omega)
    simpa using this
  have hx13 : ((x : Int) == 13) = false := by simp; omega
  have HS := Hd.mk S
  have hcap := S.cap.1
  have O := Hd.mk S.own
  have hle : w0.heap.size ≤ w.heap.size := S.bel.size
  obtain ⟨A0, cv, hv, _, _⟩ := own_slice S.own
  obtain ⟨N, hN⟩ : ∃ N, ((l ++ [x]) ++ r).length = N := ⟨_, rfl⟩
  obtain ⟨k, hk⟩ : ∃ k, l.length = k := ⟨_, rfl⟩
  have hk1 : (l ++ [x]).length = k + 1 := by simp [hk]
  obtain ⟨n0, hn0⟩ : ∃ n, tok.length = n := ⟨_, rfl⟩
  rw [hN] at c2 hcap
  rw [hk] at hlast
  rw [hk1] at R0 ⊢
  rw [hn0] at O hv
  have h0k : (0 : Int) ≤ (k : Int) + 1 := by omega
  have hkN : k + 1 ≤ N := by rw [← hN]; simp [hk]
  have hb : k + n0 ≤ 400000 := by omega
  have hsub : IntKind.i64.wrap ((k : Int) + 1 - 1) = (k : Int) := by rw [IntWalk.i64_in _ (by omega)]; omega
  have hz : (((k : Int) + 1) == 0) = false := by simp; omega
  have hc1 : ((k : Int) + 1) ≤ c := by omega
  have hN1 := Hd.mk hN
  have hn1 := Hd.mk hn0; have HK := Hd.mk hk
  subst hv
  clear S hl hx hgs hi hz0 hz1 hz2 hN hk hk1 hn0
  go_enter Tryd.func28, Tryd.ntmps28
  go_wp2
  go_region_law (first | (refine step_append_rd rfl (.tmp 21) (.tmp 27) 24 rfl w0.heap.size 5 i0 (.int .u8 0) Tryd.underlying24 I.out.1 I.out.2.1 I.out.2.2.1 I.out.2.2.2 rfl (.slice A0 n0 cv) n0 (bc (nb tok)) (by simp [Act.eval, Act.put]) O.out (some ⟨g, off, none⟩) (k + 1) c (nb (l ++ [x])) (by simp [Act.eval, Act.put]) R0.out (by omega) (by simpa using hle) ?_; intro v2 w2 own2 G2; obtain ⟨A2, c2', rfl, _, _⟩ := own_slice own2; have hs : (Value.slice A0 n0 cv).ownBlock ≠ some s := (fun e => by have := (O.out.lt s e).1; have := HS.out.sl; omega); have f4 := (HS.out.blk.drew.grown G2 hs).free 4; have c4' : w2.cell? ⟨s, 4, none⟩ = some (.slice A0 n0 cv) := (HS.out.blk.drew.grown G2 hs).cell 4 rfl; have HO2 := Hd.mk own2; have HG2 := Hd.mk G2; clear own2 G2 hs))
  all_goals
    go_end0
    have e1 : (tok ++ (l ++ [x])).length = n0 + (k + 1) := by have := hn1.out; have := HK.out; simp; omega
    have own3 : w2.ownsRow w0.heap.size 5 1 (.slice A2 (n0 + (k + 1)) c2') (tok ++ (l ++ [x])).length (bc (nb (tok ++ (l ++ [x])))) := by
      rw [e1, nb_append, show bc (nb tok ++ nb (l ++ [x])) = bc (nb tok) ++ bc (nb (l ++ [x])) by simp [bc]]
      exact HO2.out
    exact ⟨rfl, _, HS.out.drew.grow HG2.out own3⟩
theorem Sc.data_block {w0 w w' : World} {s sep g off off' c c' : Nat} {com eof com' eof' : Bool} {A A' : Option Addr} {xs ys tok tok' : List Nat} {v v' : Value} (S : Sc w0 s sep com eof g off A c xs v tok w) (S' : Sc w0 s sep com' eof' g off' A' c' ys v' tok' w') : w.heap[g]? = w'.heap[g]? := by
  rw [S.bel.block g S.gl.1 (by simp [S.gl.2]), S'.bel.block g S.gl.1 (by simp [S.gl.2])]
/-- No comment begins here. -/
def NoCm (eof : Bool) (b : List Nat) : Prop := (b.length = 1 ∧ eof = true) ∨ (∃ x y r, b = x :: y :: r ∧ ¬ (x = 45 ∧ y = 45))
set_option maxRecDepth 100000 in
theorem comment_no {w0 w : World} {s sep g : Nat} {com eof : Bool} {b tok : List Nat} (hb : NoCm eof b) (S : ScE w0 s sep com eof g b tok w) :
    Calls Tryd.prog 21 #[.pointer (some ⟨s, 0, none⟩)] w fun e w' => e = .returned (.tuple #[.bool false, .nilIface]) ∧ w' = w := by
  obtain ⟨off, A, c, v, S⟩ := S
  have c2 : w.cell? ⟨s, 2, none⟩ = some (.slice A b.length c) := S.blk.cell 2 rfl
  have c3 : w.cell? ⟨s, 3, none⟩ = some (.bool eof) := S.blk.cell 3 rfl
  rcases hb with ⟨h1, rfl⟩ | ⟨x, y, r, rfl, hxy⟩
  · rw [h1] at c2
    clear S
    go_enter Tryd.func21, Tryd.ntmps21
    go_wp2
    go_ret2
    exact ⟨rfl, rfl⟩
  · have hA := S.addr (by simp)
    subst hA
    have d0 : w.cell? ⟨g, off, none⟩ = some (.int .u8 x) := S.data.head
    have d1 : w.cell? ⟨g, off + 1, none⟩ = some (.int .u8 y) := S.data.tail.head
    have c2 : w.cell? ⟨s, 2, none⟩ = some (.slice (some ⟨g, off, none⟩) (r.length + 2) c) := S.blk.cell 2 rfl
    have hn : ¬ ((r.length : Int) + 2 < 2) := by omega
    have hn1 : (1 : Int) < (r.length : Int) + 2 := by omega
    clear S
    rcases (by omega : x ≠ 45 ∨ (x = 45 ∧ y ≠ 45)) with h | ⟨rfl, h⟩
    · have e : ((x : Int) != 45) = true := by simp; omega
      go_enter Tryd.func21, Tryd.ntmps21
      go_wp2
      go_ret2
      exact ⟨rfl, rfl⟩
    · have e : ((y : Int) != 45) = true := by simp; omega
      go_enter Tryd.func21, Tryd.ntmps21
      go_wp2
      go_ret2
      exact ⟨rfl, rfl⟩
set_option maxRecDepth 100000 in
theorem comment_short {w0 w : World} {s sep g x : Nat} {com : Bool} {tok : List Nat} (S : ScE w0 s sep com false g [x] tok w) :
    Calls Tryd.prog 21 #[.pointer (some ⟨s, 0, none⟩)] w fun e w' => e = .returned (.tuple #[.bool false, endE]) ∧ w' = w := by
  obtain ⟨off, A, c, v, S⟩ := S
  have c2 : w.cell? ⟨s, 2, none⟩ = some (.slice A 1 c) := S.blk.cell 2 rfl
  have c3 : w.cell? ⟨s, 3, none⟩ = some (.bool false) := S.blk.cell 3 rfl
  clear S
  go_enter Tryd.func21, Tryd.ntmps21
  go_wp2
  go_ret2
  exact ⟨rfl, rfl⟩
set_option maxRecDepth 100000 in
theorem comment_yes {w0 w : World} {s sep g : Nat} {com eof : Bool} {line l tok : List Nat} (hl : ∀ x ∈ line, x ≠ 10 ∧ x ≠ 13 ∧ x < 128) (hb : line.length + tok.length ≤ 300000) (S : ScE w0 s sep com eof g (45 :: 45 :: (line ++ 10 :: l)) tok w) :
    Calls Tryd.prog 21 #[.pointer (some ⟨s, 0, none⟩)] w fun e w' => e = .returned (.tuple #[.bool true, .nilIface]) ∧ ScE w0 s sep com eof g l (tok ++ if com then 45 :: 45 :: line else []) w' := by
  obtain ⟨off, A, c, v, S⟩ := S
  have hA := S.addr (by simp)
  subst hA
  obtain ⟨N, hN⟩ : ∃ N, (45 :: 45 :: (line ++ 10 :: l)).length = N := ⟨_, rfl⟩
  obtain ⟨n, hn⟩ : ∃ n, line.length = n := ⟨_, rfl⟩
  have hNn : n + 3 ≤ N := by rw [← hN, ← hn]; simp
  have hNl : N = n + 3 + l.length := by rw [← hN, ← hn]; simp; omega
  have d0 : w.cell? ⟨g, off, none⟩ = some (.int .u8 45) := S.data.head
  have d1 : w.cell? ⟨g, off + 1, none⟩ = some (.int .u8 45) := S.data.tail.head
  have c1 : w.cell? ⟨s, 1, none⟩ = some (.bool com) := S.blk.cell 1 rfl
  have c2 : w.cell? ⟨s, 2, none⟩ = some (.slice (some ⟨g, off, none⟩) N c) := by rw [← hN]; exact S.blk.cell 2 rfl
  have f2 := S.blk.free 2
  have hcap := S.cap
  rw [hN] at hcap
  unfold maxLen at hcap
  have C := indexByte (w := w) (g := g) (off := off) (c := c) (l := 45 :: 45 :: line) (r := 10 :: l |>.tail) (by intro x hx; rcases List.mem_cons.1 hx with h | hx; omega; rcases List.mem_cons.1 hx with h | h; omega; exact (hl x h).1) (by simp; omega) S.cap.1 S.data
  rw [show ((45 :: 45 :: line) ++ 10 :: (10 :: l).tail).length = N from hN, show (45 :: 45 :: line).length = n + 2 by simp [hn]] at C
  have HC := Hd.mk C
  have HS := Hd.mk S
  obtain ⟨m, hm⟩ : ∃ m, n + 3 = m := ⟨_, rfl⟩
  obtain ⟨k, hk⟩ : ∃ k, n + 2 = k := ⟨_, rfl⟩
  rw [hk] at HC
  have hw1 : IntKind.i64.wrap ((k : Int) + 1) = (m : Int) := by rw [IntWalk.i64_in _ (by omega)]; omega
  have hN2 : ¬ ((N : Int) < 2) := by omega
  have h1N : (1 : Int) < N := by omega
  have h0N : (0 : Int) < N := by omega
  have hge : (0 : Int) ≤ (k : Int) := by omega
  have hc2 : (k : Int) ≤ c := by omega
  have hc3 : (m : Int) ≤ c := by omega
  have hc4 : (m : Int) ≤ N := by omega
  have hc5 : (N : Int) ≤ c := by omega
  have hc6 : (c : Int) ≤ 9223372036854775807 := by omega
  have hm0 : (0 : Int) ≤ (m : Int) := by omega
  have HL := Hd.mk hl
  have HD : Hd (DataAt w g (off + m) l) := ⟨by
    have := DataAt.drop (a := 45 :: 45 :: (line ++ [10])) (b := l) (off := off) (by simpa using S.data)
    rw [show (45 :: 45 :: (line ++ [10])).length = m by simp [hn]; omega] at this
    exact this⟩
  have HLN : Hd (N - m = l.length) := ⟨by omega⟩
  have HCL : Hd (l.length ≤ c - m ∧ c - m ≤ maxLen) := ⟨by have := S.cap.2; omega⟩
  have HCZ : Hd (c = m → l = []) := ⟨fun h => List.eq_nil_of_length_eq_zero (by omega)⟩
  have HK : Hd ((45 :: 45 :: line).length = k) := ⟨by simp; omega⟩
  have HNL := Hd.mk hN
  clear C S hl hN hn hcap hNl hNn hm hk
  cases com
  · by_cases hcc : c = m
    · have HZ := Hd.mk (HCZ.out hcc)
      subst hcc
      clear HCZ
      go_enter Tryd.func21, Tryd.ntmps21
      go_wp2_with fail
      with_reducible refine HC.out.mono ?_
      rintro e w1 ⟨rfl, rfl⟩
      go_wp2
      go_ret2
      refine ⟨rfl, ?_⟩
      have := HS.out.put off (some ⟨g, off, none⟩) 0 l (by rw [HZ.out]; simp) (by rw [HZ.out]; exact DataAt.nil _ _ _) (by rw [HZ.out]; simp [maxLen])
      have hN0 : N - c = 0 := by rw [HLN.out, HZ.out]; rfl
      rw [HZ.out] at this ⊢
      rw [hN0]
      try simp only [List.append_nil, Bool.false_eq_true, if_false, if_true]
      exact ⟨_, _, _, _, this⟩
    · go_enter Tryd.func21, Tryd.ntmps21
      go_wp2_with fail
      with_reducible refine HC.out.mono ?_
      rintro e w1 ⟨rfl, rfl⟩
      go_wp2
      go_ret2
      refine ⟨rfl, ?_⟩
      have := HS.out.put (off + m) (some ⟨g, off + m, none⟩) (c - m) l (fun _ => rfl) HD.out HCL.out
      try simp only [List.append_nil, Bool.false_eq_true, if_false, if_true]
      rw [← HLN.out] at this
      exact ⟨_, _, _, _, this⟩
  · obtain ⟨l0, x0, he, hx0⟩ : ∃ l0 x0, 45 :: 45 :: line = l0 ++ [x0] ∧ x0 ≠ 13 := by
      refine ⟨(45 :: 45 :: line).dropLast, (45 :: 45 :: line).getLast (by simp), (List.dropLast_concat_getLast (by simp)).symm, ?_⟩
      have := List.getLast_mem (l := 45 :: 45 :: line) (by simp)
      rcases List.mem_cons.1 this with h | h
      · omega
      · rcases List.mem_cons.1 h with h | h
        · omega
        · exact (HL.out _ h).2.1
    have hS' : Sc w0 s sep true eof g off (some ⟨g, off, none⟩) c ((l0 ++ [x0]) ++ 10 :: l) v tok w := by rw [← he]; exact HS.out
    have hlen : (l0 ++ [x0]).length = k := by rw [← he]; exact HK.out
    have hNN : ((l0 ++ [x0]) ++ 10 :: l).length = N := by rw [← he]; exact HNL.out
    have CA := appendLine hx0 (by have := hlen; have h2 := HK.out; simp at this h2; omega) hS'
    rw [hlen] at CA
    rw [← he] at CA
    have CA := Hd.mk CA
    have HNN : Hd ((45 :: 45 :: line ++ 10 :: l).length = N) := ⟨HNL.out⟩
    clear hS' hlen hNN he hx0
    by_cases hcc : c = m
    · have HZ := Hd.mk (HCZ.out hcc)
      subst hcc
      clear HCZ
      go_enter Tryd.func21, Tryd.ntmps21
      go_wp2_with fail
      with_reducible refine HC.out.mono ?_
      rintro e w1 ⟨rfl, rfl⟩
      go_wp2_with fail
      with_reducible refine CA.out.mono ?_
      intro e w2 h2
      obtain ⟨rfl, v2, S2⟩ := h2
      have c2' : w2.cell? ⟨s, 2, none⟩ = some (.slice (some ⟨g, off, none⟩) N c) := by have h := S2.blk.cell 2 rfl; rw [HNN.out] at h; exact h
      have f2' := S2.blk.free 2
      have HS2 := Hd.mk S2
      have HD2 := Hd.mk (HD.out.of_block (S2.data_block HS.out))
      clear S2 c2 f2 CA
      go_wp2
      go_ret2
      refine ⟨rfl, ?_⟩
      have := HS2.out.put off (some ⟨g, off, none⟩) 0 l (by rw [HZ.out]; simp) (by rw [HZ.out]; exact DataAt.nil _ _ _) (by rw [HZ.out]; simp [maxLen])
      have hN0 : N - c = 0 := by rw [HLN.out, HZ.out]; rfl
      rw [HZ.out] at this ⊢
      rw [hN0]
      try simp only [List.append_nil, Bool.false_eq_true, if_false, if_true]
      exact ⟨_, _, _, _, this⟩
    · go_enter Tryd.func21, Tryd.ntmps21
      go_wp2_with fail
      with_reducible refine HC.out.mono ?_
      rintro e w1 ⟨rfl, rfl⟩
      go_wp2_with fail
      with_reducible refine CA.out.mono ?_
      intro e w2 h2
      obtain ⟨rfl, v2, S2⟩ := h2
      have c2' : w2.cell? ⟨s, 2, none⟩ = some (.slice (some ⟨g, off, none⟩) N c) := by have h := S2.blk.cell 2 rfl; rw [HNN.out] at h; exact h
      have f2' := S2.blk.free 2
      have HS2 := Hd.mk S2
      have HD2 := Hd.mk (HD.out.of_block (S2.data_block HS.out))
      clear S2 c2 f2 CA
      go_wp2
      go_ret2
      refine ⟨rfl, ?_⟩
      have := HS2.out.put (off + m) (some ⟨g, off + m, none⟩) (c - m) l (fun _ => rfl) HD2.out HCL.out
      try simp only [List.append_nil, Bool.false_eq_true, if_false, if_true]
      rw [← HLN.out] at this
      exact ⟨_, _, _, _, this⟩
end Go.Proofs.YtfbdbbkodgijiaaDoor.Kb
