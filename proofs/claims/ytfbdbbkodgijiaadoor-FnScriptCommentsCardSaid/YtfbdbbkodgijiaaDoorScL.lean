/- FnScanStep: the law. (Written by mkscl.py.) -/
import Derived.Test.YtfbdbbkodgijiaaDoorScH
import Derived.Lib.OthersKept
import Derived.Laws.Closers25b
import Derived.Deep.RegionHeld3
namespace Go.Proofs.YtfbdbbkodgijiaaDoor.Kb
open Go Go.RowKit
set_option linter.unusedVariables false
set_option linter.unusedSimpArgs false
set_option maxHeartbeats 4000000
/-- []byte(b) of a new row of bytes: the same row. -/
theorem same_run {P : Program} {T t : TypeId} (w : World) (cs : Array Value) (n c : Nat) (hs : P.underlying T = some (.slice t)) (he : P.underlying t = some (.int .u8)) :
    ∃ w', (convert T T (.slice (some ⟨w.heap.size, 0, none⟩) n c)).run P (w.alloc (.cells cs t)) = .ok (.slice (some ⟨w.heap.size, 0, none⟩) n c) w' ∧ w'.heap[w.heap.size]? = some (.cells cs t (cs.size, cs.size + 1)) ∧ w'.heap.size = w.heap.size + 1 ∧ Below w.heap.size w w' := by
  have hsh : (w.alloc (.cells cs t)).shape? w.heap.size = some (t, cs.size) := by
    simp [World.shape?, World.alloc, -World.alloc_eq]
  refine ⟨(w.alloc (.cells cs t)).freeze ⟨w.heap.size, cs.size, none⟩ 1, ?_, ?_, ?_, ?_⟩
  · simp [convert, run_underlying hs, run_underlying he, markStringish, hsh, Result.andThen]
  · simp [World.freeze, World.alloc, -World.alloc_eq]
    rw [Array.getElem_modify_self]
    simp
  · simp [World.freeze, World.alloc, -World.alloc_eq]
  · refine ⟨rfl, rfl, rfl, by simp [World.freeze, World.alloc, -World.alloc_eq], fun k hk => ?_⟩
    have h1 : w.heap.size ≠ k := by omega
    simp [World.freeze, World.alloc, -World.alloc_eq, Array.getElem?_modify, Array.getElem?_push, h1, Ne.symm h1]
theorem two_stmt : Stmt 59 false [97] [97] := ⟨[], [], 97, [], [97], rfl, .nil, .one 97 [] [] (by decide) (by decide) (by decide) (by decide) .nil, rfl, by decide, by decide, by decide⟩
/-- The step over 'a;'. -/
theorem step_two (w : World) (eof : Bool) : ∃ w1, (convert 24 24 (.slice (some ⟨w.heap.size, 0, none⟩) 2 2)).run Tryd.prog (w.alloc (.cells #[.int .u8 97, .int .u8 59] 5)) = .ok (.slice (some ⟨w.heap.size, 0, none⟩) 2 2) w1 ∧ Below w.heap.size w w1 ∧
    Calls Tryd.prog 8 #[.slice (some ⟨w.heap.size, 0, none⟩) 2 2, .bool eof, .int .i32 59, .bool false] w1 fun e w' => StepYes w1 [97] [97] e w' := by
  obtain ⟨w1, hcv, hcell, hsz, hb⟩ := same_run (P := Tryd.prog) (T := 24) (t := 5) w #[.int .u8 97, .int .u8 59] 2 2 Tryd.underlying24 Tryd.underlying5
  have hrd : Rd w1 [] (some ⟨w.heap.size, 0, none⟩) 2 (nb [97, 59]) := ⟨rfl, by decide, fun j hj => by
    have hj2 : j < 2 := hj
    refine ⟨_, rfl, ?_, by rw [hsz]; exact Nat.lt_succ_self _, by simp⟩
    rcases (by omega : j = 0 ∨ j = 1) with rfl | rfl
    · show w1.cell? ⟨w.heap.size, 0, none⟩ = _
      simp [World.cell?, hcell, nb]
    · show w1.cell? ⟨w.heap.size, 1, none⟩ = _
      simp [World.cell?, hcell, nb]⟩
  exact ⟨w1, hcv, hb, step_yes (l := [97]) (t := [97]) (r := []) (by decide) rfl two_stmt hrd (by decide) (by decide)⟩
theorem toList_ne {S : ByteArray} (h : 0 < S.size) : ¬ S.toList = [] := by
  intro e
  rw [toList_nil_iff_emptyBytes] at e
  subst e
  exact absurd h (by decide)
theorem hc_keep {w W W' : World} {v : Value} {R : ByteArray} (H : ∀ W, Below w.heap.size w W → (convert 24 9 v).run Tryd.prog W = .ok (.string R) W) (h : (convert 24 9 v).run Tryd.prog W = .ok (.string R) W ∧ Below w.heap.size w W) (hb : Below W.heap.size W W') : (convert 24 9 v).run Tryd.prog W' = .ok (.string R) W' ∧ Below w.heap.size w W' :=
  have h2 := h.2.trans (hb.mono h.2.size)
  ⟨H W' h2, h2⟩
set_option maxRecDepth 100000 in
theorem law_walk (s u ub : ByteArray) (m : Nat) (eof sign : Bool) (w : World) (hs : s.size ≤ 2147483647) (hu : u.size ≤ 2147483647) (hex : ((60 : Int) < u.size ∧ u.extract 0 60 = ub) ∨ (¬ (60 : Int) < u.size ∧ u = ub)) (hul : ub.size ≤ 60) :
    Calls Tryd.prog 3 #[.string s, .string u, .bool eof, .bool sign] w fun e w' => e = .returned (.bool true) ∧ Below w.heap.size w w' := by
  have C1 := Hd.mk (scPlain s 59 60 (by decide) (by decide) hs w)
  rw [show ((59 : Nat) : Int) = 59 from rfl, show ((60 : Nat) : Int) = 60 from rfl] at C1
  have hsb : ¬ (2147483647 : Int) < s.size := by omega
  have hub : ¬ (2147483647 : Int) < u.size := by omega
  have HU := Hd.mk hex
  have HUL := Hd.mk hul
  clear hs hu hul hex
  go_enter Tryd.func3, Tryd.ntmps3
  go_wp2_with fail
  with_reducible refine C1.out.mono ?_
  intro e w1 h1
  obtain ⟨l, rfl, hP, hl60, hb1⟩ := h1
  have HB1 := Hd.mk hb1
  have HP := Hd.mk hP
  have C2 := Hd.mk (fun W => scStatement l hP.asc (by omega) W)
  have hsl := stm_len l
  have hsg := T_get (stm l) (stm_asc hP.asc).lt 0
  have hss := T_size (stm l)
  have hs1 := T_size l
  obtain ⟨S2, hS2⟩ : ∃ S2, T (stm l) = S2 := ⟨_, rfl⟩
  obtain ⟨S1, hS1⟩ : ∃ S1, T l = S1 := ⟨_, rfl⟩
  simp only [StrT, hS2, hS1] at C2
  rw [hS2] at hss
  rw [hS1] at hs1 ⊢
  have HL := Hd.mk (show l.length ≤ 60 from hl60)
  have h1s : S1.size ≤ 60 := by omega
  have HS1 := Hd.mk hS1; have HS2 := Hd.mk hS2
  obtain ⟨n, hn⟩ : ∃ n, (stm l).length = n := ⟨_, rfl⟩
  clear hb1 hP C1
  go_wp2_with fail
  with_reducible refine (C2.out _).mono ?_
  rintro e w2 ⟨rfl, hb2⟩
  have HB2 := Hd.mk (HB1.out.trans (hb2.mono HB1.out.size))
  clear hb2
  by_cases h0 : n = 0
  · have hl0 : stm l = [] := List.eq_nil_of_length_eq_zero (by omega)
    have hS20 : S2 = ⟨#[]⟩ := by rw [← hS2, hl0]; rfl
    subst hS20
    have PX := Hd.mk (prep_x HP.out (by decide))
    obtain ⟨X, hX⟩ : ∃ X, (⟨#[120]⟩ : ByteArray) ++ S1 = X := ⟨_, rfl⟩
    have HX : Hd (T (120 :: l) = X) := ⟨by rw [← hX, ← HS1.out, show (⟨#[120]⟩ : ByteArray) = T [120] from rfl, T_append]; rfl⟩
    have hL61 : (120 :: l).length ≤ 61 := by simp; omega
    have hn120 : ¬ 9223372036854775807 < 1 + S1.size := by omega
    obtain ⟨l', hl'⟩ : ∃ l', 120 :: l = l' := ⟨_, rfl⟩
    rw [hl'] at PX HX hL61
    obtain ⟨W0, hW0⟩ : ∃ W0, w2 = W0 := ⟨_, rfl⟩
    rw [hW0] at HB2 ⊢
    clear hS2 hS1 hsg hss hs1 hsl hn h0 hl0 hl' hW0 hl60 C2
    have hxs : X.size = l'.length := by rw [← HX.out, T_size]
    have HXS := Hd.mk hxs
    have hX61 : X.size ≤ 61 := by omega
    have CT := Hd.mk (fun W => scStatement l' PX.out.asc (by omega) W)
    clear hxs
    cases sign
    · obtain ⟨c5, w5, hcv, hrd, hb5⟩ := bytes_T W0 l' PX.out.asc.lt (by omega)
      rw [HX.out] at hcv
      have C3 := Hd.mk (step_no (l := []) (c := c5) (sep := 59) (com := false) (eof := eof) PX.out.left hrd (by omega) PX.out.ne)
      have HB5 := Hd.mk (HB2.out.trans (hb5.mono HB2.out.size))
      rw [show ((59 : Nat) : Int) = 59 from rfl] at C3
      clear hrd hb5
      go_wp2_with fail
      with_reducible refine C3.out.mono ?_
      rintro e w6 ⟨rfl, hb6⟩
      have HB6 := Hd.mk (HB5.out.trans (hb6.mono HB5.out.size))
      obtain ⟨w7, hcv7, hb7, C4⟩ := step_two w6 eof
      have HB7 := Hd.mk (HB6.out.trans (hb7.mono HB6.out.size))
      have C4 := Hd.mk C4
      clear hb6 hb7 C3 hcv
      go_wp2_with fail
      with_reducible refine C4.out.mono ?_
      intro e w8 h8
      obtain ⟨v8, rfl, own8, hb8⟩ := h8
      have HB8 := Hd.mk (HB7.out.trans (hb8.mono HB7.out.size))
      clear own8 hb8 C4
      go_wp2
      go_ret
      exact ⟨rfl, HB8.out⟩
    · obtain ⟨Y, hY⟩ : ∃ Y, (⟨#[59]⟩ : ByteArray) ++ ub = Y := ⟨_, rfl⟩
      obtain ⟨Z, hZ⟩ : ∃ Z, X ++ Y = Z := ⟨_, rfl⟩
      have hul := HUL.out
      have hYs : Y.size = 1 + ub.size := by rw [← hY, ByteArray.size_append]; rfl
      have HZ : Hd (T (l' ++ 59 :: bs ub) = Z) := ⟨by rw [← hZ, ← hY, ← HX.out, show (⟨#[59]⟩ : ByteArray) = T [59] from rfl, show (T [59] ++ ub : ByteArray) = T [59] ++ T (bs ub) by rw [bs_T], T_append, T_append]; rfl⟩
      have hy1 : ¬ 9223372036854775807 < 1 + ub.size := by omega
      have hz1 : ¬ 9223372036854775807 < X.size + Y.size := by omega
      have hzl : (l' ++ 59 :: bs ub).length ≤ 200 := by simp [bs_len]; omega
      obtain ⟨c5, w5, hcv, hrd, hb5⟩ := bytes_T W0 (l' ++ 59 :: bs ub) (fun x hx => by
        rcases List.mem_append.1 hx with h | h
        · exact PX.out.asc.lt x h
        · rcases List.mem_cons.1 h with rfl | h
          · decide
          · exact bs_lt ub x h) (by omega)
      rw [HZ.out] at hcv
      have C3 := step_yes (c := c5) (sep := 59) (com := false) (eof := eof) (l := l') (t := stm l') (r := bs ub) (by decide) rfl (PX.out.stm false) hrd (by omega) (by simp)
      rw [show ((59 : Nat) : Int) = 59 from rfl] at C3
      obtain ⟨N, hN⟩ : ∃ N, l'.length = N := ⟨_, rfl⟩
      have HN := Hd.mk hN
      have hXN : X.size = N := by rw [HXS.out, hN]
      obtain ⟨M, hM⟩ : ∃ M, (l' ++ 59 :: bs ub).length = M := ⟨_, rfl⟩
      rw [hM] at C3 hcv
      have C3 := Hd.mk C3
      have HB5 := Hd.mk (HB2.out.trans (hb5.mono HB2.out.size))
      have hwn : IntKind.i64.wrap ((N : Int) + 1) = (N : Int) + 1 := by rw [IntWalk.i64_in _ (by omega)]
      clear hrd hb5 hzl hYs hul hM hN
      have HXN := Hd.mk hXN
      clear hXN
      rcases HU.out with ⟨h60, hex⟩ | ⟨h60, hex⟩
      all_goals
        first | subst hex | skip
        have hq : True := trivial
        go_wp2_with fail
        with_reducible refine C3.out.mono ?_
        intro e w6 h6
        obtain ⟨v6, rfl, own6, hb6⟩ := h6
        have HB6 := Hd.mk (HB5.out.trans (hb6.mono HB5.out.size))
        obtain ⟨w7, hcv7, hb7, C4⟩ := step_two w6 eof
        have HB7 := Hd.mk (HB6.out.trans (hb7.mono HB6.out.size))
        have C4 := Hd.mk C4
        have OW7 := Hd.mk (own_below own6 (hb7.mono (Nat.le_refl _)))
        obtain ⟨A6, c6, rfl, _, _⟩ := own_slice own6
        rw [HN.out]
        clear hb6 hb7 C3 hcv own6
        go_wp2_with fail
        with_reducible refine C4.out.mono ?_
        intro e w8 h8
        obtain ⟨v8, rfl, own8, hb8⟩ := h8
        have HB8 := Hd.mk (HB7.out.trans (hb8.mono HB7.out.size))
        have hsl2 := stm_len l'
        have HCV : Hd (∀ W, Below w8.heap.size w8 W → (convert 24 9 (.slice A6 (stm l').length c6)).run Tryd.prog W = .ok (.string (T (stm l'))) W) := ⟨fun W hW => own_str (own_below (own_below OW7.out hb8) hW) (by have := HN.out; omega)⟩
        clear own8 hb8 C4 hsl2 OW7
        have hXN := HXN.out
        have hcv9 := HCV.out w8.drew ((Below.refl _ _).drew)
        simp only [StrT, HX.out] at CT
        obtain ⟨R, hR⟩ : ∃ R, T (stm l') = R := ⟨_, rfl⟩
        rw [hR] at hcv9
        simp only [hR] at CT HCV
        obtain ⟨k6, hk6⟩ : ∃ k, (stm l').length = k := ⟨_, rfl⟩
        simp only [hk6] at HCV hcv9 ⊢
        clear hR hk6 hcv7
        go_wp2_with fail
        have S0 : (convert 24 9 (.slice A6 k6 c6)).run Tryd.prog w8.drew = .ok (.string R) w8.drew ∧ Below w8.heap.size w8 w8.drew := ⟨hcv9, (Below.refl _ _).drew⟩
        clear hcv9
        go_region_held3 (fun W => (convert 24 9 (.slice A6 k6 c6)).run Tryd.prog W = .ok (.string R) W ∧ Below w8.heap.size w8 W)
          (first | assumption | exact hc_keep HCV.out (by assumption) (by assumption))
          (first
            | (go_at_call 7; with_reducible refine (CT.out _).mono ?_; rintro e w9 ⟨rfl, hb9⟩))
        all_goals
          rename_i hh
          have HB9 := Hd.mk (HB8.out.trans (hh.2.mono HB8.out.size))
          clear hh
          go_wp2
          go_ret
          exact ⟨by simp, HB9.out⟩
  · obtain ⟨c, hc⟩ : ∃ c, (stm l)[0]'(by omega) = c := ⟨_, rfl⟩
    have hsz : 0 < S2.size := by omega
    have hg : (S2[0]'hsz).toNat = c := by
      have := hsg (by omega) (by rw [T_size]; omega)
      rw [hc] at this
      subst hS2
      exact this
    have hnl := toList_ne hsz
    have hie : S2.toList.isEmpty = false := by
      cases h : S2.toList with
      | nil => exact absurd h hnl
      | cons a b => rfl
    by_cases h45 : c = 45
    · have PX := Hd.mk (prep_x HP.out (by decide))
      obtain ⟨X, hX⟩ : ∃ X, (⟨#[120]⟩ : ByteArray) ++ S1 = X := ⟨_, rfl⟩
      have HX : Hd (T (120 :: l) = X) := ⟨by rw [← hX, ← HS1.out, show (⟨#[120]⟩ : ByteArray) = T [120] from rfl, T_append]; rfl⟩
      have hL61 : (120 :: l).length ≤ 61 := by simp; omega
      have hn120 : ¬ 9223372036854775807 < 1 + S1.size := by omega
      obtain ⟨l', hl'⟩ : ∃ l', 120 :: l = l' := ⟨_, rfl⟩
      rw [hl'] at PX HX hL61
      subst h45
      clear hS2 hS1 hsg hss hs1 hsl hn h0 hl' hl60 hc
      go_wp2_with fail
      with_reducible refine (C2.out _).mono ?_
      rintro e w3 ⟨rfl, hb3⟩
      have HB3 := Hd.mk (HB2.out.trans (hb3.mono HB2.out.size))
      obtain ⟨W0, hW0⟩ : ∃ W0, w3 = W0 := ⟨_, rfl⟩
      rw [hW0] at HB3 ⊢
      have HB2 := HB3
      clear hb3 hW0 C2
      have hxs : X.size = l'.length := by rw [← HX.out, T_size]
      have HXS := Hd.mk hxs
      have hX61 : X.size ≤ 61 := by omega
      have CT := Hd.mk (fun W => scStatement l' PX.out.asc (by omega) W)
      clear hxs
      cases sign
      · obtain ⟨c5, w5, hcv, hrd, hb5⟩ := bytes_T W0 l' PX.out.asc.lt (by omega)
        rw [HX.out] at hcv
        have C3 := Hd.mk (step_no (l := []) (c := c5) (sep := 59) (com := false) (eof := eof) PX.out.left hrd (by omega) PX.out.ne)
        have HB5 := Hd.mk (HB2.out.trans (hb5.mono HB2.out.size))
        rw [show ((59 : Nat) : Int) = 59 from rfl] at C3
        clear hrd hb5
        go_wp2_with fail
        with_reducible refine C3.out.mono ?_
        rintro e w6 ⟨rfl, hb6⟩
        have HB6 := Hd.mk (HB5.out.trans (hb6.mono HB5.out.size))
        obtain ⟨w7, hcv7, hb7, C4⟩ := step_two w6 eof
        have HB7 := Hd.mk (HB6.out.trans (hb7.mono HB6.out.size))
        have C4 := Hd.mk C4
        clear hb6 hb7 C3 hcv
        go_wp2_with fail
        with_reducible refine C4.out.mono ?_
        intro e w8 h8
        obtain ⟨v8, rfl, own8, hb8⟩ := h8
        have HB8 := Hd.mk (HB7.out.trans (hb8.mono HB7.out.size))
        clear own8 hb8 C4
        go_wp2
        go_ret
        exact ⟨rfl, HB8.out⟩
      · obtain ⟨Y, hY⟩ : ∃ Y, (⟨#[59]⟩ : ByteArray) ++ ub = Y := ⟨_, rfl⟩
        obtain ⟨Z, hZ⟩ : ∃ Z, X ++ Y = Z := ⟨_, rfl⟩
        have hul := HUL.out
        have hYs : Y.size = 1 + ub.size := by rw [← hY, ByteArray.size_append]; rfl
        have HZ : Hd (T (l' ++ 59 :: bs ub) = Z) := ⟨by rw [← hZ, ← hY, ← HX.out, show (⟨#[59]⟩ : ByteArray) = T [59] from rfl, show (T [59] ++ ub : ByteArray) = T [59] ++ T (bs ub) by rw [bs_T], T_append, T_append]; rfl⟩
        have hy1 : ¬ 9223372036854775807 < 1 + ub.size := by omega
        have hz1 : ¬ 9223372036854775807 < X.size + Y.size := by omega
        have hzl : (l' ++ 59 :: bs ub).length ≤ 200 := by simp [bs_len]; omega
        obtain ⟨c5, w5, hcv, hrd, hb5⟩ := bytes_T W0 (l' ++ 59 :: bs ub) (fun x hx => by
          rcases List.mem_append.1 hx with h | h
          · exact PX.out.asc.lt x h
          · rcases List.mem_cons.1 h with rfl | h
            · decide
            · exact bs_lt ub x h) (by omega)
        rw [HZ.out] at hcv
        have C3 := step_yes (c := c5) (sep := 59) (com := false) (eof := eof) (l := l') (t := stm l') (r := bs ub) (by decide) rfl (PX.out.stm false) hrd (by omega) (by simp)
        rw [show ((59 : Nat) : Int) = 59 from rfl] at C3
        obtain ⟨N, hN⟩ : ∃ N, l'.length = N := ⟨_, rfl⟩
        have HN := Hd.mk hN
        have hXN : X.size = N := by rw [HXS.out, hN]
        obtain ⟨M, hM⟩ : ∃ M, (l' ++ 59 :: bs ub).length = M := ⟨_, rfl⟩
        rw [hM] at C3 hcv
        have C3 := Hd.mk C3
        have HB5 := Hd.mk (HB2.out.trans (hb5.mono HB2.out.size))
        have hwn : IntKind.i64.wrap ((N : Int) + 1) = (N : Int) + 1 := by rw [IntWalk.i64_in _ (by omega)]
        clear hrd hb5 hzl hYs hul hM hN
        have HXN := Hd.mk hXN
        clear hXN
        rcases HU.out with ⟨h60, hex⟩ | ⟨h60, hex⟩
        all_goals
          first | subst hex | skip
          have hq : True := trivial
          go_wp2_with fail
          with_reducible refine C3.out.mono ?_
          intro e w6 h6
          obtain ⟨v6, rfl, own6, hb6⟩ := h6
          have HB6 := Hd.mk (HB5.out.trans (hb6.mono HB5.out.size))
          obtain ⟨w7, hcv7, hb7, C4⟩ := step_two w6 eof
          have HB7 := Hd.mk (HB6.out.trans (hb7.mono HB6.out.size))
          have C4 := Hd.mk C4
          have OW7 := Hd.mk (own_below own6 (hb7.mono (Nat.le_refl _)))
          obtain ⟨A6, c6, rfl, _, _⟩ := own_slice own6
          rw [HN.out]
          clear hb6 hb7 C3 hcv own6
          go_wp2_with fail
          with_reducible refine C4.out.mono ?_
          intro e w8 h8
          obtain ⟨v8, rfl, own8, hb8⟩ := h8
          have HB8 := Hd.mk (HB7.out.trans (hb8.mono HB7.out.size))
          have hsl2 := stm_len l'
          have HCV : Hd (∀ W, Below w8.heap.size w8 W → (convert 24 9 (.slice A6 (stm l').length c6)).run Tryd.prog W = .ok (.string (T (stm l'))) W) := ⟨fun W hW => own_str (own_below (own_below OW7.out hb8) hW) (by have := HN.out; omega)⟩
          clear own8 hb8 C4 hsl2 OW7
          have hXN := HXN.out
          have hcv9 := HCV.out w8.drew ((Below.refl _ _).drew)
          simp only [StrT, HX.out] at CT
          obtain ⟨R, hR⟩ : ∃ R, T (stm l') = R := ⟨_, rfl⟩
          rw [hR] at hcv9
          simp only [hR] at CT HCV
          obtain ⟨k6, hk6⟩ : ∃ k, (stm l').length = k := ⟨_, rfl⟩
          simp only [hk6] at HCV hcv9 ⊢
          clear hR hk6 hcv7
          go_wp2_with fail
          have S0 : (convert 24 9 (.slice A6 k6 c6)).run Tryd.prog w8.drew = .ok (.string R) w8.drew ∧ Below w8.heap.size w8 w8.drew := ⟨hcv9, (Below.refl _ _).drew⟩
          clear hcv9
          go_region_held3 (fun W => (convert 24 9 (.slice A6 k6 c6)).run Tryd.prog W = .ok (.string R) W ∧ Below w8.heap.size w8 W)
            (first | assumption | exact hc_keep HCV.out (by assumption) (by assumption))
            (first
              | (go_at_call 7; with_reducible refine (CT.out _).mono ?_; rintro e w9 ⟨rfl, hb9⟩))
          all_goals
            rename_i hh
            have HB9 := Hd.mk (HB8.out.trans (hh.2.mono HB8.out.size))
            clear hh
            go_wp2
            go_ret
            exact ⟨by simp, HB9.out⟩
    · have e45 : ((c : Int) == 45) = false := by simp; omega
      have PX := Hd.mk (prep_id HP.out (by omega) (by rw [hc]; exact h45))
      obtain ⟨X, rfl⟩ : ∃ X, X = S1 := ⟨_, rfl⟩
      have HX : Hd (T l = X) := ⟨HS1.out⟩
      have hL61 : l.length ≤ 61 := by omega
      obtain ⟨l', hl'⟩ : ∃ l', l = l' := ⟨_, rfl⟩
      rw [hl'] at PX HX hL61
      clear hS2 hS1 hsg hss hs1 hsl hn h0 hl' hl60 hc h45
      go_wp2_with fail
      with_reducible refine (C2.out _).mono ?_
      rintro e w3 ⟨rfl, hb3⟩
      have HB3 := Hd.mk (HB2.out.trans (hb3.mono HB2.out.size))
      obtain ⟨W0, hW0⟩ : ∃ W0, w3 = W0 := ⟨_, rfl⟩
      rw [hW0] at HB3 ⊢
      have HB2 := HB3
      clear hb3 hW0 C2
      have hxs : X.size = l'.length := by rw [← HX.out, T_size]
      have HXS := Hd.mk hxs
      have hX61 : X.size ≤ 61 := by omega
      have CT := Hd.mk (fun W => scStatement l' PX.out.asc (by omega) W)
      clear hxs
      cases sign
      · obtain ⟨c5, w5, hcv, hrd, hb5⟩ := bytes_T W0 l' PX.out.asc.lt (by omega)
        rw [HX.out] at hcv
        have C3 := Hd.mk (step_no (l := []) (c := c5) (sep := 59) (com := false) (eof := eof) PX.out.left hrd (by omega) PX.out.ne)
        have HB5 := Hd.mk (HB2.out.trans (hb5.mono HB2.out.size))
        rw [show ((59 : Nat) : Int) = 59 from rfl] at C3
        clear hrd hb5
        go_wp2_with fail
        with_reducible refine C3.out.mono ?_
        rintro e w6 ⟨rfl, hb6⟩
        have HB6 := Hd.mk (HB5.out.trans (hb6.mono HB5.out.size))
        obtain ⟨w7, hcv7, hb7, C4⟩ := step_two w6 eof
        have HB7 := Hd.mk (HB6.out.trans (hb7.mono HB6.out.size))
        have C4 := Hd.mk C4
        clear hb6 hb7 C3 hcv
        go_wp2_with fail
        with_reducible refine C4.out.mono ?_
        intro e w8 h8
        obtain ⟨v8, rfl, own8, hb8⟩ := h8
        have HB8 := Hd.mk (HB7.out.trans (hb8.mono HB7.out.size))
        clear own8 hb8 C4
        go_wp2
        go_ret
        exact ⟨rfl, HB8.out⟩
      · obtain ⟨Y, hY⟩ : ∃ Y, (⟨#[59]⟩ : ByteArray) ++ ub = Y := ⟨_, rfl⟩
        obtain ⟨Z, hZ⟩ : ∃ Z, X ++ Y = Z := ⟨_, rfl⟩
        have hul := HUL.out
        have hYs : Y.size = 1 + ub.size := by rw [← hY, ByteArray.size_append]; rfl
        have HZ : Hd (T (l' ++ 59 :: bs ub) = Z) := ⟨by rw [← hZ, ← hY, ← HX.out, show (⟨#[59]⟩ : ByteArray) = T [59] from rfl, show (T [59] ++ ub : ByteArray) = T [59] ++ T (bs ub) by rw [bs_T], T_append, T_append]; rfl⟩
        have hy1 : ¬ 9223372036854775807 < 1 + ub.size := by omega
        have hz1 : ¬ 9223372036854775807 < X.size + Y.size := by omega
        have hzl : (l' ++ 59 :: bs ub).length ≤ 200 := by simp [bs_len]; omega
        obtain ⟨c5, w5, hcv, hrd, hb5⟩ := bytes_T W0 (l' ++ 59 :: bs ub) (fun x hx => by
          rcases List.mem_append.1 hx with h | h
          · exact PX.out.asc.lt x h
          · rcases List.mem_cons.1 h with rfl | h
            · decide
            · exact bs_lt ub x h) (by omega)
        rw [HZ.out] at hcv
        have C3 := step_yes (c := c5) (sep := 59) (com := false) (eof := eof) (l := l') (t := stm l') (r := bs ub) (by decide) rfl (PX.out.stm false) hrd (by omega) (by simp)
        rw [show ((59 : Nat) : Int) = 59 from rfl] at C3
        obtain ⟨N, hN⟩ : ∃ N, l'.length = N := ⟨_, rfl⟩
        have HN := Hd.mk hN
        have hXN : X.size = N := by rw [HXS.out, hN]
        obtain ⟨M, hM⟩ : ∃ M, (l' ++ 59 :: bs ub).length = M := ⟨_, rfl⟩
        rw [hM] at C3 hcv
        have C3 := Hd.mk C3
        have HB5 := Hd.mk (HB2.out.trans (hb5.mono HB2.out.size))
        have hwn : IntKind.i64.wrap ((N : Int) + 1) = (N : Int) + 1 := by rw [IntWalk.i64_in _ (by omega)]
        clear hrd hb5 hzl hYs hul hM hN
        have HXN := Hd.mk hXN
        clear hXN
        rcases HU.out with ⟨h60, hex⟩ | ⟨h60, hex⟩
        all_goals
          first | subst hex | skip
          have hq : True := trivial
          go_wp2_with fail
          with_reducible refine C3.out.mono ?_
          intro e w6 h6
          obtain ⟨v6, rfl, own6, hb6⟩ := h6
          have HB6 := Hd.mk (HB5.out.trans (hb6.mono HB5.out.size))
          obtain ⟨w7, hcv7, hb7, C4⟩ := step_two w6 eof
          have HB7 := Hd.mk (HB6.out.trans (hb7.mono HB6.out.size))
          have C4 := Hd.mk C4
          have OW7 := Hd.mk (own_below own6 (hb7.mono (Nat.le_refl _)))
          obtain ⟨A6, c6, rfl, _, _⟩ := own_slice own6
          rw [HN.out]
          clear hb6 hb7 C3 hcv own6
          go_wp2_with fail
          with_reducible refine C4.out.mono ?_
          intro e w8 h8
          obtain ⟨v8, rfl, own8, hb8⟩ := h8
          have HB8 := Hd.mk (HB7.out.trans (hb8.mono HB7.out.size))
          have hsl2 := stm_len l'
          have HCV : Hd (∀ W, Below w8.heap.size w8 W → (convert 24 9 (.slice A6 (stm l').length c6)).run Tryd.prog W = .ok (.string (T (stm l'))) W) := ⟨fun W hW => own_str (own_below (own_below OW7.out hb8) hW) (by have := HN.out; omega)⟩
          clear own8 hb8 C4 hsl2 OW7
          have hXN := HXN.out
          have hcv9 := HCV.out w8.drew ((Below.refl _ _).drew)
          simp only [StrT, HX.out] at CT
          obtain ⟨R, hR⟩ : ∃ R, T (stm l') = R := ⟨_, rfl⟩
          rw [hR] at hcv9
          simp only [hR] at CT HCV
          obtain ⟨k6, hk6⟩ : ∃ k, (stm l').length = k := ⟨_, rfl⟩
          simp only [hk6] at HCV hcv9 ⊢
          clear hR hk6 hcv7
          go_wp2_with fail
          have S0 : (convert 24 9 (.slice A6 k6 c6)).run Tryd.prog w8.drew = .ok (.string R) w8.drew ∧ Below w8.heap.size w8 w8.drew := ⟨hcv9, (Below.refl _ _).drew⟩
          clear hcv9
          go_region_held3 (fun W => (convert 24 9 (.slice A6 k6 c6)).run Tryd.prog W = .ok (.string R) W ∧ Below w8.heap.size w8 W)
            (first | assumption | exact hc_keep HCV.out (by assumption) (by assumption))
            (first
              | (go_at_call 7; with_reducible refine (CT.out _).mono ?_; rintro e w9 ⟨rfl, hb9⟩))
          all_goals
            rename_i hh
            have HB9 := Hd.mk (HB8.out.trans (hh.2.mono HB8.out.size))
            clear hh
            go_wp2
            go_ret
            exact ⟨by simp, HB9.out⟩
theorem FnScanStep (s u : ByteArray) (eof sign : Bool) (w : World) (hs : s.size ≤ 140737488351232) (hu : u.size ≤ 140737488351232) :
    Calls Tryd.prog 3 #[.string s, .string u, .bool eof, .bool sign] w fun e w' => e = .returned (.bool true) ∧ Below w.heap.size w w' := by
  by_cases h1 : s.size ≤ 2147483647
  · by_cases h2 : u.size ≤ 2147483647
    · by_cases h : (60 : Int) < u.size
      · exact law_walk s u (u.extract 0 60) 60 eof sign w h1 h2 (.inl ⟨h, rfl⟩) (Nat.le_of_eq (at_extract u 60 0 (by omega)).1)
      · exact law_walk s u u 60 eof sign w h1 h2 (.inr ⟨h, rfl⟩) (by omega)
    · have hb : ¬ (2147483647 : Int) < s.size := by omega
      have hb2 : (2147483647 : Int) < u.size := by omega
      clear h1 h2
      go_enter Tryd.func3, Tryd.ntmps3
      go_wp2
      go_ret
      exact ⟨rfl, Below.refl _ _⟩
  · have hb : (2147483647 : Int) < s.size := by omega
    clear h1
    go_enter Tryd.func3, Tryd.ntmps3
    go_wp2
    go_ret
    exact ⟨rfl, Below.refl _ _⟩
end Go.Proofs.YtfbdbbkodgijiaaDoor.Kb
