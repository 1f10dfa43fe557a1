/- Statements of a text: the scanner: one scan. -/
import Derived.Test.YtfbdbbkodgijiaaDoorScC
namespace Go.Proofs.YtfbdbbkodgijiaaDoor.Kb
open Go Go.RowKit
set_option linter.unusedVariables false
set_option linter.unusedSimpArgs false
set_option maxHeartbeats 4000000
theorem ScE.cells {w0 w : World} {s sep g : Nat} {com eof : Bool} {xs tok : List Nat} (S : ScE w0 s sep com eof g xs tok w) : w.cell? ⟨s, 1, none⟩ = some (.bool com) := by
  obtain ⟨_, _, _, _, S⟩ := S; exact S.blk.cell 1 rfl
/-- What the loop of a scan holds. -/
def Lp (w0 : World) (s sep : Nat) (com eof : Bool) (g : Nat) (b pt0 : List Nat) (W : World) : Prop := ∃ p pt tk, Lead com p pt ∧ ScE w0 s sep com eof g (p ++ b) tk W ∧ tk ++ pt = pt0 ∧ p.length ≤ 100000
set_option maxRecDepth 100000 in
theorem scan1 {w0 w : World} {s sep g c : Nat} {com eof : Bool} {p pt b bt r : List Nat} (hs : sep ≠ 39 ∧ sep ≠ 34 ∧ sep < 128) (hp : Lead com p pt) (hB : Body sep (c :: b) bt) (hc : sp c = false) (hc45 : c ≠ 45) (hl : p.length + b.length ≤ 100000) (S : ScE w0 s sep com eof g (p ++ (c :: b ++ sep :: r)) [] w) :
    Calls Tryd.prog 18 #[.pointer (some ⟨s, 0, none⟩)] w fun e w' => e = .returned (.tuple #[.bool true, .nilIface]) ∧ ScE w0 s sep com eof g r (pt ++ bt) w' := by
  have hpl := hp.len
  have hbl := hB.len
  have P : Hd (Lp w0 s sep com eof g (c :: b ++ sep :: r) pt w) := ⟨p, pt, [], hp, S, rfl, by omega⟩
  have HB := Hd.mk hB; have HS := Hd.mk hs; have HC := Hd.mk hc; have H45 := Hd.mk hc45
  have hptl : pt.length ≤ 100000 := by omega
  have hbtl : bt.length ≤ 100001 := by simp at hbl; omega
  have hbl2 : b.length ≤ 100000 := by omega
  clear hp hB hs hc hc45 S hpl hbl hl
  go_enter Tryd.func18, Tryd.ntmps18
  go_wp2
  go_loopw [] (fun W => Lp w0 s sep com eof g (c :: b ++ sep :: r) pt W) (fun W => dataLen s W)
  case atStart => exact P.out
  case round =>
    obtain ⟨p, q, tk, hp, hS, ht, hpl⟩ := hrel
    obtain ⟨ws, p2, rfl, hw, hr⟩ := hp.split
    have hq := hp.len
    have htl : tk.length ≤ 100000 := by have := congrArg List.length ht; simp at this; omega
    rcases hr with ⟨rfl, rfl⟩ | ⟨line, l, t', rfl, hline, hl, rfl⟩
    · have hS' : ScE w0 s sep com eof g (ws ++ c :: (b ++ sep :: r)) tk wr := by simpa using hS
      have C1 := Hd.mk (whitespace ws (fun x hx => (hw x hx).1) HC.out (HB.out.asc c (by simp)) hS')
      have HT : Hd (tk = pt) := ⟨by simpa using ht⟩
      clear hS hS' hp hw ht hq hpl
      go_wp2_with fail
      with_reducible refine C1.out.mono ?_
      rintro e w1 ⟨rfl, hS1⟩
      have C2 := Hd.mk (comment_no (.inr (by
        cases b with
        | nil => exact ⟨c, sep, r, rfl, fun h => H45.out h.1⟩
        | cons y b => exact ⟨c, y, b ++ sep :: r, rfl, fun h => H45.out h.1⟩)) hS1)
      have HS1 := Hd.mk hS1
      clear hS1 C1
      go_wp2_with fail
      with_reducible refine C2.out.mono ?_
      rintro e w2 ⟨rfl, rfl⟩
      have C3 := Hd.mk (statement (l := c :: b) (r := r) HS.out HB.out (by rw [HT.out]; simp; omega) (by simp; omega) HS1.out)
      clear C2
      go_wp2_with fail
      with_reducible refine C3.out.mono ?_
      rintro e w3 ⟨rfl, hS3⟩
      have HS3 := Hd.mk hS3
      clear hS3 C3
      go_wp2
      go_ret2
      exact ⟨rfl, by rw [← HT.out]; exact HS3.out⟩
    · have hS' : ScE w0 s sep com eof g (ws ++ 45 :: (45 :: (line ++ 10 :: (l ++ (c :: b ++ sep :: r))))) tk wr := by simpa using hS
      have C1 := Hd.mk (whitespace ws (fun x hx => (hw x hx).1) (by decide) (by decide) hS')
      have HL := Hd.mk hS'.len
      have HP := Hd.mk hl
      have HLine := Hd.mk hline
      have hll : line.length ≤ 100000 := by simp at hpl; omega
      have hl2 : l.length ≤ 100000 := by simp at hpl; omega
      have HT : Hd (tk ++ ((if com then 45 :: 45 :: (line ++ [10]) else []) ++ t') = pt) := ⟨ht⟩
      clear hS hS' hp hw ht hq hpl hl hline
      go_wp2_with fail
      with_reducible refine C1.out.mono ?_
      rintro e w1 ⟨rfl, hS1⟩
      have C2 := Hd.mk (comment_yes (l := l ++ (c :: b ++ sep :: r)) HLine.out (by omega) hS1)
      clear hS1 C1
      go_wp2_with fail
      with_reducible refine C2.out.mono ?_
      rintro e w2 ⟨rfl, hS2⟩
      have c1 := hS2.cells
      have HS2 := Hd.mk hS2
      clear hS2 C2
      cases com
      · go_wp2
        go_roundw
        case rel => exact ⟨l, t', tk, HP.out, by simpa using HS2.out, by simpa using HT.out, hl2⟩
        case measure => rw [HL.out, HS2.out.len]; simp; omega
      · have C3 := Hd.mk (appendRune 10 (by omega) (by simp; omega) HS2.out)
        rw [show ((10 : Nat) : Int) = 10 from rfl] at C3
        go_wp2_with fail
        with_reducible refine C3.out.mono ?_
        rintro e w3 ⟨rfl, hS3⟩
        have HS3 := Hd.mk hS3
        clear hS3 C3
        go_wp2
        go_roundw
        case rel => exact ⟨l, t', _, HP.out, HS3.out, by have := HT.out; simpa using this, hl2⟩
        case measure => rw [HL.out, HS3.out.len]; simp; omega
set_option maxRecDepth 100000 in
theorem scan1_none {w0 w : World} {s sep g : Nat} {com eof : Bool} {l : List Nat} (hL : Left sep l) (hl : l.length ≤ 100000) (S : ScE w0 s sep com eof g l [] w) :
    Calls Tryd.prog 18 #[.pointer (some ⟨s, 0, none⟩)] w fun e w' => e = .returned (.tuple #[.bool false, endE]) ∧ ∃ ys tok', ScE w0 s sep com eof g ys tok' w' := by
  obtain ⟨ws, b, rfl, hw, hb, hh⟩ := hL.out
  have P := Hd.mk S
  have HW := Hd.mk (fun x hx => (hw x hx).1)
  have HB := Hd.mk hb; have HH := Hd.mk hh
  have HL := Hd.mk hl
  clear S hw hb hh hl hL
  go_enter Tryd.func18, Tryd.ntmps18
  go_wp2
  go_loopw [] (fun W => ScE w0 s sep com eof g (ws ++ b) [] W) (fun W => dataLen s W)
  case atStart => exact P.out
  case round =>
    clear P
    cases b with
    | nil =>
      have C1 := Hd.mk (whitespace_end ws HW.out (by simpa using hrel))
      clear hrel
      unfold endE at C1
      go_wp2_with fail
      with_reducible refine C1.out.mono ?_
      rintro e w1 ⟨rfl, hS1⟩
      have HS1 := Hd.mk hS1
      clear hS1 C1
      go_wp2
      go_ret2
      exact ⟨rfl, _, _, HS1.out⟩
    | cons x b =>
      have hx := HH.out (by simp)
      simp only [List.getD_cons_zero] at hx
      have C1 := Hd.mk (whitespace ws HW.out hx.1 (HB.out x (by simp)).2.2.2 hrel)
      clear hrel
      go_wp2_with fail
      with_reducible refine C1.out.mono ?_
      rintro e w1 ⟨rfl, hS1⟩
      clear C1
      by_cases hsh : b = [] ∧ eof = false
      · obtain ⟨rfl, rfl⟩ := hsh
        have C2 := Hd.mk (comment_short hS1)
        have HS1 := Hd.mk hS1
        clear hS1
        unfold endE at C2
        go_wp2_with fail
        with_reducible refine C2.out.mono ?_
        rintro e w2 ⟨rfl, rfl⟩
        clear C2
        go_wp2
        go_ret2
        exact ⟨rfl, _, _, HS1.out⟩
      · have hno : NoCm eof (x :: b) := by
          cases b with
          | nil => exact .inl ⟨rfl, by cases eof; exact absurd ⟨rfl, rfl⟩ hsh; rfl⟩
          | cons y b => exact .inr ⟨x, y, b, rfl, by simpa using hx.2⟩
        have C2 := Hd.mk (comment_no hno hS1)
        have HS1 := Hd.mk hS1
        clear hS1
        go_wp2_with fail
        with_reducible refine C2.out.mono ?_
        rintro e w2 ⟨rfl, rfl⟩
        have C3 := Hd.mk (statement_end HB.out (by have := HL.out; simp at this ⊢; omega) HS1.out)
        clear C2
        unfold endE at C3
        go_wp2_with fail
        with_reducible refine C3.out.mono ?_
        rintro e w3 ⟨rfl, tk, hS3⟩
        have HS3 := Hd.mk hS3
        clear hS3 C3
        go_wp2
        go_ret2
        exact ⟨rfl, _, _, HS3.out⟩
theorem assert_end (w : World) : (Instr.typeAssert (.iface 51 (.agg #[])) 37 51 true).run Tryd.prog w = .ok (.tuple #[.agg #[], .bool true]) w := by
  simp [Instr.typeAssert, run_underlying Tryd.underlying51, go_sem, Result.andThen]
theorem infoEnd : (Tryd.prog.info? 51).map (·.zero) = some (some (.agg #[])) := by kernel_rfl
theorem assert_nil (w : World) : (Instr.typeAssert .nilIface 37 51 true).run Tryd.prog w = .ok (.tuple #[.agg #[], .bool false]) w := by
  obtain ⟨i, hi, hz⟩ := Option.map_eq_some_iff.1 infoEnd
  simp [Instr.typeAssert, run_underlying Tryd.underlying51, go_sem, Result.andThen, zeroValue, typeInfo, hi, hz]
set_option maxRecDepth 100000 in
theorem isEnd_yes (w : World) : Calls Tryd.prog 19 #[endE] w fun e w' => e = .returned (.bool true) ∧ ∃ o, w' = w.alloc o := by
  unfold endE
  have ha := assert_end w
  go_enter Tryd.func19, Tryd.ntmps19
  go_wp2
  go_ret
  exact ⟨rfl, _, rfl⟩
set_option maxRecDepth 100000 in
theorem isEnd_no (w : World) : Calls Tryd.prog 19 #[.nilIface] w fun e w' => e = .returned (.bool false) ∧ ∃ o, w' = w.alloc o := by
  have ha := assert_nil w
  go_enter Tryd.func19, Tryd.ntmps19
  go_wp2
  go_ret
  exact ⟨rfl, _, rfl⟩
set_option maxRecDepth 100000 in
theorem scInit {w : World} {s : Nat} {sep : Nat} {com eof eof' : Bool} {A A' : Option Addr} {n c n' c' : Nat} {v : Value} (B : Blk w s #[.int .i32 sep, .bool com, .slice A' n' c', .bool eof', v] 42) (hv : ∃ A1 n1 c1, v = .slice A1 n1 c1) :
    Calls Tryd.prog 17 #[.pointer (some ⟨s, 0, none⟩), .slice A n c, .bool eof] w fun e w' => e = .returned (.tuple #[]) ∧ w' = ((w.setCell ⟨s, 2, none⟩ (.slice A n c)).setCell ⟨s, 3, none⟩ (.bool eof)).setCell ⟨s, 4, none⟩ (.slice none 0 0) := by
  obtain ⟨A1, n1, c1, rfl⟩ := hv
  have c2 := B.cell 2 rfl; have c3 := B.cell 3 rfl; have c4 := B.cell 4 rfl
  have f2 := B.free 2; have f3 := B.free 3; have f4 := B.free 4
  have HB := Hd.mk B
  clear B
  go_enter Tryd.func17, Tryd.ntmps17
  go_wp2
  go_end0
  exact ⟨rfl, rfl⟩
/-- The scanner before a scan. -/
def Idle (s sep : Nat) (com : Bool) (w : World) : Prop := ∃ A n c eof v, (∃ A1 n1 c1, v = Value.slice A1 n1 c1) ∧ Blk w s #[.int .i32 sep, .bool com, .slice A n c, .bool eof, v] 42
theorem ScE.idle {w0 w : World} {s sep g : Nat} {com eof : Bool} {xs tok : List Nat} (S : ScE w0 s sep com eof g xs tok w) : Idle s sep com w ∧ Bel w0.heap.size [s] w0 w := by
  obtain ⟨off, A, c, v, S⟩ := S
  obtain ⟨A1, c1, hv, _⟩ := own_slice S.own
  exact ⟨⟨_, _, _, _, v, ⟨_, _, _, hv⟩, S.blk⟩, S.bel⟩
theorem sc_begin {w : World} {s sep g off c : Nat} {com eof : Bool} {A : Option Addr} {xs : List Nat} {A' : Option Addr} {n' c' : Nat} {eof' : Bool} {v : Value} (B : Blk w s #[.int .i32 sep, .bool com, .slice A' n' c', .bool eof', v] 42)
    (ha : xs ≠ [] → A = some ⟨g, off, none⟩) (hd : DataAt w g off xs) (hc : xs.length ≤ c ∧ c ≤ maxLen) (hg : g < w.heap.size ∧ g ≠ s) :
    ScE w s sep com eof g xs [] (((w.setCell ⟨s, 2, none⟩ (.slice A xs.length c)).setCell ⟨s, 3, none⟩ (.bool eof)).setCell ⟨s, 4, none⟩ (.slice none 0 0)) := by
  refine ⟨off, A, c, .slice none 0 0, ⟨((B.set 2 _).set 3 _).set 4 _, ⟨rfl, .inl ⟨rfl, rfl⟩⟩, ha, ?_, hc, (((Bel.refl _ _ _).set (.inr (by simp)) _).set (.inr (by simp)) _).set (.inr (by simp)) _, B.lt, hg⟩⟩
  exact ((hd.of_block (Below.heap_setCell _ _ _ _ hg.2)).of_block (Below.heap_setCell _ _ _ _ hg.2)).of_block (Below.heap_setCell _ _ _ _ hg.2)
/-- One scan that finds a statement. -/
def Found (w : World) (s sep : Nat) (com eof : Bool) (g : Nat) (l t r : List Nat) (e : Ending) (w' : World) : Prop := ∃ off A c v, e = .returned (.tuple #[.int .i64 ((l.length : Int) + 1), v, .nilIface]) ∧ Sc w s sep com eof g off A c r v t w'
set_option maxRecDepth 100000 in
theorem scan_found {w : World} {s sep g off c : Nat} {com eof : Bool} {A : Option Addr} {l t r : List Nat} (hs : sep ≠ 39 ∧ sep ≠ 34 ∧ sep < 128) (hl : l.length ≤ 50000) (hr : r.length ≤ 1000000) (hS : Stmt sep com l t) (I : Idle s sep com w)
    (ha : A = some ⟨g, off, none⟩) (hd : DataAt w g off (l ++ sep :: r)) (hc : (l ++ sep :: r).length ≤ c ∧ c ≤ maxLen) (hg : g < w.heap.size ∧ g ≠ s) :
    Calls Tryd.prog 16 #[.pointer (some ⟨s, 0, none⟩), .slice A (l ++ sep :: r).length c, .bool eof] w fun e w' => Found w s sep com eof g l t r e w' := by
  obtain ⟨A', n', c', eof', v, hv, B⟩ := I
  have hlen : (l ++ sep :: r).length = l.length + 1 + r.length := by simp; omega
  have CI := Hd.mk (scInit (A := A) (n := (l ++ sep :: r).length) (c := c) (eof := eof) B hv)
  have hb := sc_begin (eof := eof) B (fun _ => ha) hd hc hg
  obtain ⟨p, pt, c1, b, bt, rfl, hp, hB, rfl, hsp, h45, hne⟩ := hS.out
  have CS := Hd.mk (scan1 (r := r) hs hp hB hsp h45 (by simp at hl; omega) (by simpa using hb))
  obtain ⟨W, hW⟩ : ∃ W, W = (((w.setCell ⟨s, 2, none⟩ (.slice A (p ++ c1 :: b ++ sep :: r).length c)).setCell ⟨s, 3, none⟩ (.bool eof)).setCell ⟨s, 4, none⟩ (.slice none 0 0)) := ⟨_, rfl⟩
  rw [← hW] at CI
  have CS : Hd (Calls Tryd.prog 18 #[.pointer (some ⟨s, 0, none⟩)] W fun e w' => e = .returned (.tuple #[.bool true, .nilIface]) ∧ ScE w s sep com eof g r (pt ++ bt) w') := ⟨by rw [hW]; simpa using CS.out⟩
  obtain ⟨n, hn⟩ : ∃ n, (p ++ c1 :: b).length = n := ⟨_, rfl⟩
  obtain ⟨m, hm⟩ : ∃ m, r.length = m := ⟨_, rfl⟩
  have HM := Hd.mk (And.intro hn hm)
  simp only [Found, hn]
  have hN : (p ++ c1 :: b ++ sep :: r).length = n + 1 + m := by rw [hlen, hn, hm]
  rw [hN] at CI ⊢
  have hw : IntKind.i64.wrap ((n : Int) + 1 + m - m) = (n : Int) + 1 := by rw [IntWalk.i64_in _ (by omega)]; omega
  have hz : (((n : Int) + 1 + m) == 0) = false := by simp; omega
  have hne0 : ¬ (n + 1 + m = 0) := by omega
  have hn5 : n ≤ 50000 := by omega
  clear hv B hb hp hB hsp h45 hne hd hc hg ha hs hS hW hlen hl hr hn hm hN
  have KE := Hd.mk (fun W => isEnd_no W)
  have hw2 : wrap64 ((n : Int) + 1) = (n : Int) + 1 := by unfold wrap64; omega
  cases eof
  all_goals
    go_enter Tryd.func16, Tryd.ntmps16
    go_wp2_with fail
    with_reducible refine CI.out.mono ?_
    rintro e w1 ⟨rfl, rfl⟩
    clear CI
    go_wp2_with fail
    with_reducible refine CS.out.mono ?_
    rintro e w2 ⟨rfl, hS2⟩
    have HS2 := Hd.mk hS2
    clear hS2 CS
    go_wp2_with fail
    with_reducible refine (KE.out _).mono ?_
    rintro e w3 ⟨rfl, o, rfl⟩
    obtain ⟨off2, A2, cc2, v2, S2⟩ := HS2.out
    have S3 := S2.alloc o
    obtain ⟨W3, hW3⟩ : ∃ W3, W3 = w2.alloc o := ⟨_, rfl⟩
    rw [← hW3] at S3 ⊢
    have c2 : W3.cell? ⟨s, 2, none⟩ = some (.slice A2 m cc2) := by have := S3.blk.cell 2 rfl; rw [← HM.out.2]; exact this
    have c4 : W3.cell? ⟨s, 4, none⟩ = some v2 := S3.blk.cell 4 rfl
    have HS3 := Hd.mk S3
    obtain ⟨A4, c4_, hv4, _, _⟩ := own_slice S3.own
    obtain ⟨tl, htl⟩ : ∃ tl, (pt ++ bt).length = tl := ⟨_, rfl⟩
    rw [htl] at hv4
    subst hv4
    clear S2 S3 hW3 KE HS2 htl
    go_wp2
    go_quiet (fail)
    go_wp2
    go_ret3
    exact ⟨off2, A2, cc2, .slice A4 tl c4_, rfl, HS3.out.drewN _⟩
end Go.Proofs.YtfbdbbkodgijiaaDoor.Kb
