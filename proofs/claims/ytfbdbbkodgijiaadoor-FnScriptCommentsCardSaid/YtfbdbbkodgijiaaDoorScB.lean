/- Statements of a text: the scanner: white space, strings, statements. -/
import Derived.Test.YtfbdbbkodgijiaaDoorScA
namespace Go.Proofs.YtfbdbbkodgijiaaDoor.Kb
open Go Go.RowKit
set_option linter.unusedVariables false
set_option linter.unusedSimpArgs false
set_option maxHeartbeats 4000000
/-- White space, and something behind it. -/
def Ws (w0 : World) (s sep : Nat) (com eof : Bool) (g : Nat) (b tok : List Nat) (W : World) : Prop := ∃ ws, (∀ x ∈ ws, sp x = true) ∧ ScE w0 s sep com eof g (ws ++ b) tok W
theorem sp_lt {x : Nat} (h : sp x = true) : x < 128 := by unfold sp at h; simp at h; omega
theorem ScE.drewN {w0 w : World} {s sep g : Nat} {com eof : Bool} {xs tok : List Nat} (S : ScE w0 s sep com eof g xs tok w) (n : Nat) : ScE w0 s sep com eof g xs tok (w.drewN n) := by
  obtain ⟨_, _, _, _, S⟩ := S; exact ⟨_, _, _, _, S.drewN n⟩
def dataLen (s : Nat) (w : World) : Nat := match w.cell? ⟨s, 2, none⟩ with | some (.slice _ n _) => n | _ => 0
theorem ScE.len {w0 w : World} {s sep g : Nat} {com eof : Bool} {xs tok : List Nat} (S : ScE w0 s sep com eof g xs tok w) : dataLen s w = xs.length := by
  obtain ⟨_, _, _, _, S⟩ := S
  have := S.blk.cell 2 rfl
  simp [dataLen, this]
set_option maxRecDepth 100000 in
theorem whitespace {w0 w : World} {s sep g c : Nat} {com eof : Bool} {b tok : List Nat} (ws : List Nat) (hw : ∀ x ∈ ws, sp x = true) (hc : sp c = false) (hc7 : c < 128) (S : ScE w0 s sep com eof g (ws ++ c :: b) tok w) :
    Calls Tryd.prog 20 #[.pointer (some ⟨s, 0, none⟩)] w fun e w' => e = .returned .nilIface ∧ ScE w0 s sep com eof g (c :: b) tok w' := by
  have W0 : Hd (Ws w0 s sep com eof g (c :: b) tok w) := ⟨ws, hw, S⟩
  have HC := Hd.mk hc
  clear hw hc S
  go_enter Tryd.func20, Tryd.ntmps20
  go_wp2
  go_loopw [] (fun W => Ws w0 s sep com eof g (c :: b) tok W) (fun W => dataLen s W)
  case atStart => exact W0.out
  case round =>
    obtain ⟨ws, hw, hS⟩ := hrel
    cases ws with
    | nil =>
      have hS : ScE w0 s sep com eof g (c :: b) tok wr := hS
      have C := Hd.mk (peek_some hc7 hS)
      have C2 := Hd.mk (fun W => isSpace c hc7 W)
      have HS := Hd.mk hS
      rw [HC.out] at C2
      clear hS hw
      go_wp2_with fail
      with_reducible refine C.out.mono ?_
      rintro e w1 ⟨rfl, rfl⟩
      go_wp2_with fail
      with_reducible refine (C2.out _).mono ?_
      rintro e w2 ⟨rfl, rfl⟩
      go_wp2
      go_ret
      exact ⟨rfl, HS.out⟩
    | cons x ws =>
      have hS : ScE w0 s sep com eof g (x :: (ws ++ c :: b)) tok wr := hS
      have hx := hw x (by simp)
      have C := Hd.mk (peek_some (sp_lt hx) hS)
      have C2 := Hd.mk (fun W => isSpace x (sp_lt hx) W)
      have C3 := Hd.mk (read_some (sp_lt hx) hS)
      rw [hx] at C2
      have HL := Hd.mk hS.len
      have HW := Hd.mk (fun y hy => hw y (List.mem_cons_of_mem x hy))
      clear hS hw hx
      go_wp2_with fail
      with_reducible refine C.out.mono ?_
      rintro e w1 ⟨rfl, rfl⟩
      go_wp2_with fail
      with_reducible refine (C2.out _).mono ?_
      rintro e w2 ⟨rfl, rfl⟩
      go_wp2_with fail
      with_reducible refine C3.out.mono ?_
      rintro e w3 ⟨rfl, hS3⟩
      have HS3 := Hd.mk hS3
      clear hS3 C C2 C3
      go_wp2
      go_roundw
      case rel => exact ⟨ws, HW.out, HS3.out⟩
      case measure => rw [HL.out, HS3.out.len]; simp
set_option maxRecDepth 100000 in
theorem whitespace_end {w0 w : World} {s sep g : Nat} {com eof : Bool} {tok : List Nat} (ws : List Nat) (hw : ∀ x ∈ ws, sp x = true) (S : ScE w0 s sep com eof g ws tok w) :
    Calls Tryd.prog 20 #[.pointer (some ⟨s, 0, none⟩)] w fun e w' => e = .returned endE ∧ ScE w0 s sep com eof g [] tok w' := by
  have W0 : Hd (Ws w0 s sep com eof g [] tok w) := ⟨ws, hw, by simpa using S⟩
  clear hw S
  go_enter Tryd.func20, Tryd.ntmps20
  go_wp2
  go_loopw [] (fun W => Ws w0 s sep com eof g [] tok W) (fun W => dataLen s W)
  case atStart => exact W0.out
  case round =>
    obtain ⟨ws, hw, hS⟩ := hrel
    cases ws with
    | nil =>
      have hS : ScE w0 s sep com eof g [] tok wr := hS
      have C := Hd.mk (peek_none hS)
      have HS := Hd.mk hS
      clear hS hw
      unfold endE at C
      go_wp2_with fail
      with_reducible refine C.out.mono ?_
      rintro e w1 ⟨rfl, rfl⟩
      go_wp2
      go_ret
      exact ⟨rfl, HS.out⟩
    | cons x ws =>
      have hS : ScE w0 s sep com eof g (x :: (ws ++ [])) tok wr := hS
      have hx := hw x (by simp)
      have C := Hd.mk (peek_some (sp_lt hx) hS)
      have C2 := Hd.mk (fun W => isSpace x (sp_lt hx) W)
      have C3 := Hd.mk (read_some (sp_lt hx) hS)
      rw [hx] at C2
      have HL := Hd.mk hS.len
      have HW := Hd.mk (fun y hy => hw y (List.mem_cons_of_mem x hy))
      clear hS hw hx
      go_wp2_with fail
      with_reducible refine C.out.mono ?_
      rintro e w1 ⟨rfl, rfl⟩
      go_wp2_with fail
      with_reducible refine (C2.out _).mono ?_
      rintro e w2 ⟨rfl, rfl⟩
      go_wp2_with fail
      with_reducible refine C3.out.mono ?_
      rintro e w3 ⟨rfl, hS3⟩
      have HS3 := Hd.mk hS3
      clear hS3 C C2 C3
      go_wp2
      go_roundw
      case rel => exact ⟨ws, HW.out, HS3.out⟩
      case measure => rw [HL.out, HS3.out.len]; simp
theorem keep_len (l : List Nat) : (keep l).length ≤ l.length := List.length_filter_le _ _
/-- What the loop of a string holds. -/
def Str (w0 : World) (s sep : Nat) (com eof : Bool) (g m y : Nat) (l t0 : List Nat) (W : World) : Prop := ∃ q t, (∀ x ∈ q, x ≠ m ∧ x < 128) ∧ ScE w0 s sep com eof g (q ++ m :: y :: l) t W ∧ t ++ keep q = t0
set_option maxRecDepth 100000 in
theorem scanStr {w0 w : World} {s sep g m y : Nat} {com eof : Bool} {l tok q : List Nat} (hm : m = 39 ∨ m = 34) (hq : ∀ x ∈ q, x ≠ m ∧ x < 128) (hy : y ≠ m) (hy7 : y < 128) (hl : tok.length + q.length ≤ 900000) (S : ScE w0 s sep com eof g (q ++ m :: y :: l) tok w) :
    Calls Tryd.prog 30 #[.pointer (some ⟨s, 0, none⟩), .int .i32 m] w fun e w' => e = .returned .nilIface ∧ ScE w0 s sep com eof g (y :: l) (tok ++ m :: (keep q ++ [m])) w' := by
  have C := Hd.mk (appendRune m (by omega) (by omega) S)
  have HQ := Hd.mk hq
  have h10 : ((m : Int) == 10) = false := by simp; omega
  have h13 : ((m : Int) == 13) = false := by simp; omega
  have hym : ((y : Int) != m) = true := by simp; omega
  have HT := Hd.mk (show ((tok ++ [m]) ++ keep q) ++ [m] = tok ++ m :: (keep q ++ [m]) by simp)
  have HL : Hd (((tok ++ [m]) ++ keep q).length ≤ 900001) := ⟨by have := keep_len q; simp; omega⟩
  have HM := Hd.mk hm
  obtain ⟨T1, hT1⟩ : ∃ T1, tok ++ [m] = T1 := ⟨_, rfl⟩
  obtain ⟨T2, hT2⟩ : ∃ T2, T1 ++ keep q = T2 := ⟨_, rfl⟩
  rw [hT1] at C
  rw [hT1, hT2] at HT HL
  have H2 := Hd.mk hT2
  clear S hq hl hm hy hT1 hT2
  go_enter Tryd.func30, Tryd.ntmps30
  go_wp2_with fail
  with_reducible refine C.out.mono ?_
  rintro e w1 ⟨rfl, hS1⟩
  have W1 : Hd (Str w0 s sep com eof g m y l T2 w1) := ⟨q, T1, HQ.out, hS1, H2.out⟩
  clear C hS1 HQ H2
  go_wp2
  go_loopw [] (fun W => Str w0 s sep com eof g m y l T2 W) (fun W => dataLen s W)
  case atStart => exact W1.out
  case round =>
    obtain ⟨q, t, hq, hS, ht⟩ := hrel
    have hlt : t.length ≤ 900001 := by have := congrArg List.length ht; simp at this; have := HL.out; omega
    cases q with
    | nil =>
      have hS : ScE w0 s sep com eof g (m :: y :: l) t wr := hS
      have ht' : t = T2 := by simpa [keep] using ht
      have C := Hd.mk (read_some (by have := HM.out; omega) hS)
      have HT' := Hd.mk ht'
      clear hS hq ht ht'
      go_wp2_with fail
      with_reducible refine C.out.mono ?_
      rintro e w2 ⟨rfl, hS2⟩
      have C2 := Hd.mk (appendRune m (by have := HM.out; omega) (by omega) hS2)
      clear hS2 C
      go_wp2_with fail
      with_reducible refine C2.out.mono ?_
      rintro e w3 ⟨rfl, hS3⟩
      have C3 := Hd.mk (peek_some hy7 hS3)
      have HS3 := Hd.mk hS3
      clear hS3 C2
      go_wp2_with fail
      with_reducible refine C3.out.mono ?_
      rintro e w4 ⟨rfl, rfl⟩
      clear C3
      go_wp2
      go_ret
      refine ⟨rfl, ?_⟩
      have := HS3.out
      rw [HT'.out, HT.out] at this
      exact this
    | cons x q =>
      have hS : ScE w0 s sep com eof g (x :: (q ++ m :: y :: l)) t wr := hS
      have hx := hq x (by simp)
      have HQ := Hd.mk (fun z hz => hq z (List.mem_cons_of_mem x hz))
      have C := Hd.mk (read_some hx.2 hS)
      have HL := Hd.mk hS.len
      have hxm : ((x : Int) == m) = false := by simp; omega
      rw [keep_cons] at ht
      have hnl : (nl x = true ∧ (x = 10 ∨ x = 13)) ∨ (nl x = false ∧ ((x : Int) == 10) = false ∧ ((x : Int) == 13) = false) := by
        unfold nl
        by_cases h : x = 10 ∨ x = 13
        · exact .inl ⟨by simpa using h, h⟩
        · exact .inr ⟨by simpa using h, by simp; omega, by simp; omega⟩
      rcases hnl with ⟨hnl, hx10⟩ | ⟨hnl, h1, h2⟩
      · have HT3 : Hd (t ++ keep q = T2) := ⟨by rw [hnl] at ht; simpa using ht⟩
        clear hS hq ht hnl hx
        rcases hx10 with rfl | rfl
        all_goals
          go_wp2_with fail
          with_reducible refine C.out.mono ?_
          rintro e w2 ⟨rfl, hS2⟩
          have HS2 := Hd.mk hS2
          clear hS2 C
          go_wp2
          go_roundw
          case rel => exact ⟨q, t, HQ.out, HS2.out, HT3.out⟩
          case measure => rw [HL.out, HS2.out.len]; simp
      · have HT3 : Hd ((t ++ [x]) ++ keep q = T2) := ⟨by rw [hnl] at ht; simpa using ht⟩
        have hx7 := hx.2
        clear hS hq ht hnl hx
        go_wp2_with fail
        with_reducible refine C.out.mono ?_
        rintro e w2 ⟨rfl, hS2⟩
        have C2 := Hd.mk (appendRune x hx7 (by omega) hS2)
        have HL2 := Hd.mk hS2.len
        clear hS2 C
        go_wp2_with fail
        with_reducible refine C2.out.mono ?_
        rintro e w3 ⟨rfl, hS3⟩
        have HS3 := Hd.mk hS3
        clear hS3 C2
        go_wp2
        go_roundw
        case rel => exact ⟨q, _, HQ.out, HS3.out, HT3.out⟩
        case measure => rw [HL.out, HS3.out.len]; simp
/-- What the loop of a statement holds. -/
def StB (w0 : World) (s sep : Nat) (com eof : Bool) (g : Nat) (r t0 : List Nat) (W : World) : Prop := ∃ l t tk, Body sep l t ∧ ScE w0 s sep com eof g (l ++ sep :: r) tk W ∧ tk ++ t = t0 ∧ l.length ≤ 400000
set_option maxRecDepth 100000 in
theorem statement {w0 w : World} {s sep g : Nat} {com eof : Bool} {l t tok r : List Nat} (hs : sep ≠ 39 ∧ sep ≠ 34 ∧ sep < 128) (hB : Body sep l t) (hl : (tok ++ t).length ≤ 400000) (h2 : l.length ≤ 400000) (S : ScE w0 s sep com eof g (l ++ sep :: r) tok w) :
    Calls Tryd.prog 23 #[.pointer (some ⟨s, 0, none⟩)] w fun e w' => e = .returned (.tuple #[.bool true, .nilIface]) ∧ ScE w0 s sep com eof g r (tok ++ t) w' := by
  obtain ⟨T0, hT0⟩ : ∃ T0, tok ++ t = T0 := ⟨_, rfl⟩
  have W1 : Hd (StB w0 s sep com eof g r T0 w) := ⟨l, t, tok, hB, S, hT0, h2⟩
  rw [hT0] at hl ⊢
  have s39 : ((sep : Int) == 39) = false := by simp; omega
  have s34 : ((sep : Int) == 34) = false := by simp; omega
  have hs7 := hs.2.2
  clear hB S hT0 h2 hs
  go_enter Tryd.func23, Tryd.ntmps23
  go_wp2
  go_loopw [] (fun W => StB w0 s sep com eof g r T0 W) (fun W => dataLen s W)
  case atStart => exact W1.out
  case round =>
    obtain ⟨l, t, tk, hB, hS, ht, hll⟩ := hrel
    have hlt : tk.length + t.length ≤ 400000 := by have := congrArg List.length ht; simp at this; omega
    cases hB with
    | nil =>
      have hS : ScE w0 s sep com eof g (sep :: r) tk wr := hS
      have HT : Hd (tk = T0) := ⟨by simpa using ht⟩
      have C := Hd.mk (read_some hs7 hS)
      clear hS ht
      go_wp2_with fail
      with_reducible refine C.out.mono ?_
      rintro e w2 ⟨rfl, hS2⟩
      have c0 : w2.cell? ⟨s, 0, none⟩ = some (.int .i32 sep) := by obtain ⟨_, _, _, _, S⟩ := hS2; exact S.blk.cell 0 rfl
      have HS2 := Hd.mk hS2
      clear hS2 C
      go_wp2
      go_ret2
      exact ⟨rfl, by have := HS2.out; rw [HT.out] at this; exact this⟩
    | one x l t h1 h2 h3 h7 hB =>
      have hS : ScE w0 s sep com eof g (x :: (l ++ sep :: r)) tk wr := hS
      have C := Hd.mk (read_some h7 hS)
      have HL := Hd.mk hS.len
      have x39 : ((x : Int) == 39) = false := by simp; omega
      have x34 : ((x : Int) == 34) = false := by simp; omega
      have xs : ((x : Int) == sep) = false := by simp; omega
      have HB := Hd.mk hB
      have hnl : (nl x = true ∧ (x = 10 ∨ x = 13)) ∨ (nl x = false ∧ ((x : Int) == 10) = false ∧ ((x : Int) == 13) = false) := by
        unfold nl
        by_cases h : x = 10 ∨ x = 13
        · exact .inl ⟨by simpa using h, h⟩
        · exact .inr ⟨by simpa using h, by simp; omega, by simp; omega⟩
      rcases hnl with ⟨hnl, hx10⟩ | ⟨hnl, e1, e2⟩
      · have HT3 : Hd (tk ++ t = T0) := ⟨by rw [hnl] at ht; simpa using ht⟩
        clear hS hB ht hnl h1 h2 h3
        rcases hx10 with rfl | rfl
        all_goals
          go_wp2_with fail
          with_reducible refine C.out.mono ?_
          rintro e w2 ⟨rfl, hS2⟩
          have c0 : w2.cell? ⟨s, 0, none⟩ = some (.int .i32 sep) := by obtain ⟨_, _, _, _, S⟩ := hS2; exact S.blk.cell 0 rfl
          have HS2 := Hd.mk hS2
          clear hS2 C
          go_wp2
          go_roundw
          case rel => exact ⟨l, t, tk, HB.out, HS2.out, HT3.out, by simp at hll; omega⟩
          case measure => rw [HL.out, HS2.out.len]; simp
      · have HT3 : Hd ((tk ++ [x]) ++ t = T0) := ⟨by rw [hnl] at ht; simpa using ht⟩
        clear hS hB ht hnl h1 h2 h3
        go_wp2_with fail
        with_reducible refine C.out.mono ?_
        rintro e w2 ⟨rfl, hS2⟩
        have c0 : w2.cell? ⟨s, 0, none⟩ = some (.int .i32 sep) := by obtain ⟨_, _, _, _, S⟩ := hS2; exact S.blk.cell 0 rfl
        have C2 := Hd.mk (appendRune x h7 (by omega) hS2)
        clear hS2 C
        go_wp2_with fail
        with_reducible refine C2.out.mono ?_
        rintro e w3 ⟨rfl, hS3⟩
        have HS3 := Hd.mk hS3
        clear hS3 C2
        go_wp2
        go_roundw
        case rel => exact ⟨l, t, _, HB.out, HS3.out, HT3.out, by simp at hll; omega⟩
        case measure => rw [HL.out, HS3.out.len]; simp
    | quo m q y l t hm hms hq hy hy7 hB =>
      have hS : ScE w0 s sep com eof g (m :: ((q ++ m :: y :: l) ++ sep :: r)) tk wr := hS
      have C := Hd.mk (read_some (by omega) hS)
      have HL := Hd.mk hS.len
      have HB := Hd.mk hB; have HQ := Hd.mk hq; have HY := Hd.mk hy; have HY7 := Hd.mk hy7
      have HT3 : Hd ((tk ++ m :: (keep q ++ [m])) ++ t = T0) := ⟨by rw [← ht]; simp⟩
      have hql : q.length ≤ 400000 := by simp at hll; omega
      clear hS hB hq hy hy7 ht hms
      rcases hm with rfl | rfl
      all_goals
        go_wp2_with fail
        with_reducible refine C.out.mono ?_
        rintro e w2 ⟨rfl, hS2⟩
        have C2 := Hd.mk (scanStr (tok := tk) (y := y) (l := l ++ sep :: r) (q := q) (by omega) HQ.out HY.out HY7.out (by omega) (by simpa using hS2))
        first | rw [show ((39 : Nat) : Int) = 39 from rfl] at C2 | rw [show ((34 : Nat) : Int) = 34 from rfl] at C2
        clear hS2 C
        go_wp2_with fail
        with_reducible refine C2.out.mono ?_
        rintro e w3 ⟨rfl, hS3⟩
        have HS3 := Hd.mk hS3
        clear hS3 C2
        go_wp2
        go_roundw
        case rel => exact ⟨y :: l, t, _, HB.out, HS3.out, HT3.out, by simp at hll ⊢; omega⟩
        case measure => rw [HL.out, HS3.out.len]; simp; omega
/-- A text without the sign: the end comes first. -/
def StN (w0 : World) (s sep : Nat) (com eof : Bool) (g : Nat) (W : World) : Prop := ∃ l tk, (∀ x ∈ l, x ≠ sep ∧ x ≠ 39 ∧ x ≠ 34 ∧ x < 128) ∧ ScE w0 s sep com eof g l tk W ∧ tk.length + l.length ≤ 400000
set_option maxRecDepth 100000 in
theorem statement_end {w0 w : World} {s sep g : Nat} {com eof : Bool} {l tok : List Nat} (hB : ∀ x ∈ l, x ≠ sep ∧ x ≠ 39 ∧ x ≠ 34 ∧ x < 128) (hl : tok.length + l.length ≤ 400000) (S : ScE w0 s sep com eof g l tok w) :
    Calls Tryd.prog 23 #[.pointer (some ⟨s, 0, none⟩)] w fun e w' => e = .returned (.tuple #[.bool false, endE]) ∧ ∃ tok', ScE w0 s sep com eof g [] tok' w' := by
  have W1 : Hd (StN w0 s sep com eof g w) := ⟨l, tok, hB, S, hl⟩
  clear hB S hl
  go_enter Tryd.func23, Tryd.ntmps23
  go_wp2
  go_loopw [] (fun W => StN w0 s sep com eof g W) (fun W => dataLen s W)
  case atStart => exact W1.out
  case round =>
    obtain ⟨l, tk, hB, hS, hl⟩ := hrel
    cases l with
    | nil =>
      have C := Hd.mk (read_none hS)
      clear hS hB
      unfold endE at C
      go_wp2_with fail
      with_reducible refine C.out.mono ?_
      rintro e w2 ⟨rfl, hS2⟩
      have HS2 := Hd.mk hS2
      clear hS2 C
      go_wp2
      go_ret2
      exact ⟨rfl, _, HS2.out⟩
    | cons x l =>
      obtain ⟨h1, h2, h3, h7⟩ := hB x (by simp)
      have C := Hd.mk (read_some h7 hS)
      have HL := Hd.mk hS.len
      have HB := Hd.mk (fun z hz => hB z (List.mem_cons_of_mem x hz))
      have hll : tk.length + l.length + 1 ≤ 400000 := by simp at hl; omega
      have x39 : ((x : Int) == 39) = false := by simp; omega
      have x34 : ((x : Int) == 34) = false := by simp; omega
      have xs : ((x : Int) == sep) = false := by simp; omega
      have hnl : ((x = 10 ∨ x = 13)) ∨ (((x : Int) == 10) = false ∧ ((x : Int) == 13) = false) := by
        by_cases h : x = 10 ∨ x = 13
        · exact .inl h
        · exact .inr ⟨by simp; omega, by simp; omega⟩
      rcases hnl with hx10 | ⟨e1, e2⟩
      · clear hS hB h1 h2 h3
        rcases hx10 with rfl | rfl
        all_goals
          go_wp2_with fail
          with_reducible refine C.out.mono ?_
          rintro e w2 ⟨rfl, hS2⟩
          have c0 : w2.cell? ⟨s, 0, none⟩ = some (.int .i32 sep) := by obtain ⟨_, _, _, _, S⟩ := hS2; exact S.blk.cell 0 rfl
          have HS2 := Hd.mk hS2
          clear hS2 C
          go_wp2
          go_roundw
          case rel => exact ⟨l, tk, HB.out, HS2.out, by omega⟩
          case measure => rw [HL.out, HS2.out.len]; simp
      · clear hS hB h1 h2 h3
        go_wp2_with fail
        with_reducible refine C.out.mono ?_
        rintro e w2 ⟨rfl, hS2⟩
        have c0 : w2.cell? ⟨s, 0, none⟩ = some (.int .i32 sep) := by obtain ⟨_, _, _, _, S⟩ := hS2; exact S.blk.cell 0 rfl
        have C2 := Hd.mk (appendRune x h7 (by omega) hS2)
        clear hS2 C
        go_wp2_with fail
        with_reducible refine C2.out.mono ?_
        rintro e w3 ⟨rfl, hS3⟩
        have HS3 := Hd.mk hS3
        clear hS3 C2
        go_wp2
        go_roundw
        case rel => exact ⟨l, _, HB.out, HS3.out, by simp; omega⟩
        case measure => rw [HL.out, HS3.out.len]; simp
end Go.Proofs.YtfbdbbkodgijiaaDoor.Kb
