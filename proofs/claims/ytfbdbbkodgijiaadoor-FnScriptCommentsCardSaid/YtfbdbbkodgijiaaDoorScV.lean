/- FnScriptComments: the law. (Written by mkscc.py.) -/
import Derived.Test.YtfbdbbkodgijiaaDoorScS
namespace Go.Proofs.YtfbdbbkodgijiaaDoor.Kb
open Go Go.RowKit
set_option linter.unusedVariables false
set_option linter.unusedSimpArgs false
set_option maxHeartbeats 8000000
/-- A comment's line, ahead of a statement. -/
theorem stmt_comment {l line : List Nat} (h : Prep 59 l) (hl : ∀ x ∈ line, x ≠ 10 ∧ x ≠ 13 ∧ x < 128) (com : Bool) : Stmt 59 com (45 :: 45 :: (line ++ 10 :: l)) ((if com then 45 :: 45 :: (line ++ [10]) else []) ++ stm l) := by
  obtain ⟨p, pt, c, b, bt, hlp, hp, hB, ht, hsp, h45, hne⟩ := (h.stm com).out
  refine ⟨45 :: 45 :: (line ++ 10 :: p), (if com then 45 :: 45 :: (line ++ [10]) else []) ++ pt, c, b, bt, by rw [hlp]; simp, .cm line p pt hl hp, hB, by rw [ht]; simp, hsp, h45, hne⟩
def GoodC (com : Bool) (Ls : List (List Nat × List Nat)) : Prop := ∀ p ∈ Ls, Stmt 59 com p.1 p.2 ∧ p.1.length ≤ 100
theorem goodC_snoc {com : Bool} {Ls : List (List Nat × List Nat)} {l t : List Nat} (h : GoodC com Ls) (hs : Stmt 59 com l t) (hl : l.length ≤ 100) : GoodC com (Ls ++ [(l, t)]) := fun p hp => by
  rcases List.mem_append.1 hp with h1 | h1
  · exact h p h1
  · simp at h1; subst h1; exact ⟨hs, hl⟩
def keep10 (q : List Nat) : List Nat := q.filter fun x => !decide (x = 10)
theorem keep10_snoc {q : List Nat} {j : Nat} (h : j < q.length) : keep10 (q.take (j + 1)) = keep10 (q.take j) ++ (if q[j] = 10 then [] else [q[j]]) := by
  rw [← List.take_append_getElem h]
  unfold keep10
  rw [List.filter_append]
  by_cases h10 : q[j] = 10 <;> simp [h10]
theorem keep10_line {q : List Nat} (h : Plain 0 q) : ∀ x ∈ keep10 q, x ≠ 10 ∧ x ≠ 13 ∧ x < 128 := fun x hx => by
  obtain ⟨h1, h2⟩ := List.mem_filter.1 hx
  have := (h.ok x h1).1
  simp at h2
  omega
theorem keep10_len (q : List Nat) : (keep10 q).length ≤ q.length := List.length_filter_le _ _
/-- What the first loop holds. -/
def Lc (w : World) (n : Nat) (com : Bool) (s7 s8 s9 : Value) (W : World) : Prop :=
  ∃ Ls : List (List Nat × List Nat), s9 = .int .i64 Ls.length ∧ Ls.length ≤ n ∧ Ls.length ≤ 5 ∧ s7 = .string (T (flat 59 Ls)) ∧ W.ownsRow w.heap.size 9 1 s8 Ls.length (strs Ls) ∧ GoodC com Ls ∧ Below w.heap.size w W
theorem rd_cell0 {w : World} {g n : Nat} {xs : List Nat} (h : Rd w [] (some ⟨g, 0, none⟩) n (nb xs)) (j : Nat) (hj : j < xs.length) : w.cell? ⟨g, j, none⟩ = some (.int .u8 (xs[j] : Nat)) := by
  obtain ⟨ad, h1, h2, _⟩ := h.at_ j (by simpa [nb] using hj)
  simp only [Option.some.injEq] at h1
  subst h1
  have e : (⟨g, 0, none⟩ : Addr).add j = ⟨g, j, none⟩ := by
    unfold Addr.add
    split
    · rename_i h0; subst h0; rfl
    · simp
  rw [e] at h2
  rw [h2]
  simp [nb]
theorem two_stmtC (com : Bool) : Stmt 59 com [97] [97] := ⟨[], [], 97, [], [97], rfl, .nil, .one 97 [] [] (by decide) (by decide) (by decide) (by decide) .nil, rfl, by decide, by decide, by decide⟩
theorem script_twoC (w : World) (com : Bool) : ∃ w1, (convert 24 24 (.slice (some ⟨w.heap.size, 0, none⟩) 2 2)).run Tryd.prog (w.alloc (.cells #[.int .u8 97, .int .u8 59] 5)) = .ok (.slice (some ⟨w.heap.size, 0, none⟩) 2 2) w1 ∧ Below w.heap.size w w1 ∧
    Calls Tryd.prog 11 #[.slice (some ⟨w.heap.size, 0, none⟩) 2 2, .int .i32 59, .bool com] w1 fun e w' => Script w1 [([97], [97])] [] e w' := by
  obtain ⟨w1, hcv, hcell, hsz, hb⟩ := same_run (P := Tryd.prog) (T := 24) (t := 5) w #[.int .u8 97, .int .u8 59] 2 2 Tryd.underlying24 Tryd.underlying5
  have hrd : Rd w1 [] (some ⟨w.heap.size, 0, none⟩) 2 (nb [97, 59]) := ⟨rfl, by decide, fun j hj => by
    have hj2 : j < 2 := hj
    refine ⟨_, rfl, ?_, by rw [hsz]; exact Nat.lt_succ_self _, by simp⟩
    rcases (by omega : j = 0 ∨ j = 1) with rfl | rfl
    · show w1.cell? ⟨w.heap.size, 0, none⟩ = _
      simp [World.cell?, hcell, nb]
    · show w1.cell? ⟨w.heap.size, 1, none⟩ = _
      simp [World.cell?, hcell, nb]⟩
  exact ⟨w1, hcv, hb, scanScript (L := [([97], [97])]) (tail := []) (by decide) (fun p hp => by simp at hp; subst hp; exact two_stmtC com) (.inl rfl) rfl (by decide) hrd (by decide)⟩
set_option maxRecDepth 100000 in
theorem comments_walk {A B : Option Addr} {n m cA cB : Nat} {ss qs : List ByteArray} {com : Bool} {w : World} (hA : StrRow w A n ss) (hB : StrRow w B m qs) (hn : n ≤ 9223372036854775807) (hm : m ≤ 9223372036854775807) (hcA : n ≤ cA) (hcB : m ≤ cB)
    (hsA : ∀ i, i < n → (ss.getD i ByteArray.empty).size ≤ 9223372036854775807) (hsB : ∀ i, i < m → (qs.getD i ByteArray.empty).size ≤ 9223372036854775807) :
    Calls Tryd.prog 5 #[.slice A n cA, .slice B m cB, .bool com] w fun e w' => e = .returned (.bool true) ∧ Below w.heap.size w w' := by
  have F1 := Hd.mk (fits11 (c := cA) hA hn hsA)
  have F2 := Hd.mk (fits11 (c := cB) hB hm hsB)
  have RA := Hd.mk hA; have RB := Hd.mk hB
  clear hA hB hsA hsB
  go_enter Tryd.func5, Tryd.ntmps5
  go_wp2_with fail
  with_reducible refine F1.out.mono ?_
  intro e w1 h1
  obtain ⟨b1, rfl, rfl, hb1⟩ := h1
  cases b1
  · go_wp2
    go_ret
    exact ⟨rfl, Below.refl _ _⟩
  have SA := Hd.mk (hb1 rfl)
  clear hb1 F1
  go_wp2_with fail
  with_reducible refine F2.out.mono ?_
  intro e w2 h2
  obtain ⟨b2, rfl, rfl, hb2⟩ := h2
  cases b2
  · go_wp2
    go_ret
    exact ⟨rfl, Below.refl _ _⟩
  have SB := Hd.mk (hb2 rfl)
  clear hb2 F2
  have P0 : Hd (Lc w2 n com (.string ⟨#[]⟩) (.slice none 0 0) (.int .i64 0) w2) := ⟨[], rfl, by simp, by simp, rfl, World.ownsRow_nil _ _ _ _, fun p hp => by simp at hp, Below.refl _ _⟩
  go_wp2
  go_loopw [7, 8, 9] (fun s7 s8 s9 W => Lc w2 n com s7 s8 s9 W) (fun _ _ i _ => n - (intOf i).toNat)
  case atStart => exact P0.out
  case round =>
    clear P0
    obtain ⟨Ls, rfl, hkn, hk10, rfl, hown, hgood, hbw⟩ := hrel
    obtain ⟨Aw, cw, rfl, _, _⟩ := own_slice hown
    have hfl := flat_len 59 Ls (fun p hp => (hgood p hp).2)
    have hsz := T_size (flat 59 Ls)
    obtain ⟨IN, hIN⟩ : ∃ IN, T (flat 59 Ls) = IN := ⟨_, rfl⟩
    rw [hIN] at hsz ⊢
    obtain ⟨k, hk⟩ : ∃ k, Ls.length = k := ⟨_, rfl⟩
    rw [hk] at hkn hk10 hown hfl ⊢
    have HIN := Hd.mk hIN; have HK := Hd.mk hk; have HO := Hd.mk hown; have HG := Hd.mk hgood; have HB := Hd.mk hbw
    have hins : IN.size ≤ 505 := by omega
    clear hIN hk hown hgood hbw hfl hsz
    by_cases hlt : k < n ∧ k < 5
    · obtain ⟨h1, h2⟩ := hlt
      obtain ⟨ax, hax, hx, _⟩ := (RA.out.below HB.out).at_ k h1
      have hui := SA.out.2 k h1
      obtain ⟨ui, hu1⟩ : ∃ ui, ss.getD k ByteArray.empty = ui := ⟨_, rfl⟩
      rw [hu1] at hx hui
      have h1i : (k : Int) < n := by omega
      have h2i : (k : Int) < 5 := by omega
      have C1 := Hd.mk (scPlain ui 59 40 (by decide) (by decide) hui wr)
      rw [show ((59 : Nat) : Int) = 59 from rfl, show ((40 : Nat) : Int) = 40 from rfl] at C1
      subst hax
      clear hu1 hui
      go_wp2_with fail
      with_reducible refine C1.out.mono ?_
      intro e w4 h4
      obtain ⟨l, rfl, hP, hl60, hb4⟩ := h4
      have HB4 := Hd.mk (HB.out.trans (hb4.mono HB.out.size))
      have HO4 := Hd.mk (own_below HO.out hb4)
      have HP := Hd.mk hP
      have C2 := Hd.mk (fun W => scStatement l hP.asc (by omega) W)
      have hsl := stm_len l
      have hsg2 := T_get (stm l) (stm_asc hP.asc).lt 0
      have hss := T_size (stm l)
      have hs1 := T_size l
      obtain ⟨S2, hS2⟩ : ∃ S2, T (stm l) = S2 := ⟨_, rfl⟩
      obtain ⟨S1, hS1⟩ : ∃ S1, T l = S1 := ⟨_, rfl⟩
      simp only [StrT, hS2, hS1] at C2
      rw [hS2] at hss
      rw [hS1] at hs1 ⊢
      have HS1 := Hd.mk hS1; have HS2 := Hd.mk hS2
      have h1s : S1.size ≤ 40 := by omega
      obtain ⟨z, hz⟩ : ∃ z, (stm l).length = z := ⟨_, rfl⟩
      clear hb4 hP C1 hx
      go_wp2_with fail
      with_reducible refine (C2.out _).mono ?_
      rintro e w5 ⟨rfl, hb5⟩
      have HB5 := Hd.mk (HB4.out.trans (hb5.mono HB4.out.size))
      have HO5 := Hd.mk (own_below HO4.out hb5)
      clear hb5 HB4 HO4 HB HO
      by_cases h0 : z = 0
      · have hl0 : stm l = [] := List.eq_nil_of_length_eq_zero (by omega)
        have hS20 : S2 = ⟨#[]⟩ := by rw [← hS2, hl0]; rfl
        subst hS20
        have PX := Hd.mk (prep_x HP.out (by decide))
        obtain ⟨X, hX⟩ : ∃ X, (⟨#[120]⟩ : ByteArray) ++ S1 = X := ⟨_, rfl⟩
        have HX : Hd (T (120 :: l) = X) := ⟨by rw [← hX, ← HS1.out, show (⟨#[120]⟩ : ByteArray) = T [120] from rfl, T_append]; rfl⟩
        have hL61 : (120 :: l).length ≤ 41 := by simp; omega
        have hn120 : ¬ 9223372036854775807 < 1 + S1.size := by omega
        obtain ⟨l', hl'⟩ : ∃ l', 120 :: l = l' := ⟨_, rfl⟩
        rw [hl'] at PX HX hL61
        obtain ⟨W0, hW0⟩ : ∃ W0, w5 = W0 := ⟨_, rfl⟩
        rw [hW0] at HB5 HO5 ⊢
        clear hS2 hS1 hsg2 hss hs1 hsl hz h0 hl0 hl' hW0 hl60 C2
        have hxs : X.size = l'.length := by rw [← HX.out, T_size]
        have hX61 : X.size ≤ 41 := by omega
        have CT := Hd.mk (fun W => scStatement l' PX.out.asc (by omega) W)
        obtain ⟨R, hR⟩ : ∃ R, T (stm l') = R := ⟨_, rfl⟩
        have hRs : R.size ≤ 41 := by rw [← hR, T_size]; have := stm_len l'; omega
        simp only [StrT, HX.out, hR] at CT
        have HR := Hd.mk hR
        clear hxs hR
        go_wp2_with fail
        with_reducible refine (CT.out _).mono ?_
        rintro e w8 ⟨rfl, hb8⟩
        have HB8 := Hd.mk (HB5.out.trans (hb8.mono HB5.out.size))
        have HO8 := Hd.mk (own_below HO5.out hb8)
        clear hb8 HB5 HO5 CT
        by_cases hqm : k < m
        · obtain ⟨ay, hay, hy, _⟩ := (RB.out.below HB8.out).at_ k hqm
          have hqi : (k : Int) < m := by omega
          have hqz := SB.out.2 k hqm
          obtain ⟨qi, hq1⟩ : ∃ qi, qs.getD k ByteArray.empty = qi := ⟨_, rfl⟩
          rw [hq1] at hy hqz
          have C3 := Hd.mk (scPlain qi 0 30 (by decide) (by decide) hqz w8)
          rw [show ((0 : Nat) : Int) = 0 from rfl, show ((30 : Nat) : Int) = 30 from rfl] at C3
          subst hay
          clear hq1 hqz
          go_wp2_with fail
          with_reducible refine C3.out.mono ?_
          intro e wq hq7
          obtain ⟨q, rfl, hQ, hq20, hb7⟩ := hq7
          have HB9 := Hd.mk (HB8.out.trans (hb7.mono HB8.out.size))
          have HO9 := Hd.mk (own_below HO8.out hb7)
          obtain ⟨cq, wz, hcv, hrd, hbz⟩ := bytes_T wq q hQ.asc.lt (by omega)
          have HB10 := Hd.mk (HB9.out.trans (hbz.mono HB9.out.size))
          have HO10 := Hd.mk (own_below HO9.out hbz)
          have HC := Hd.mk (fun j hj => rd_cell0 hrd j hj)
          have HQ := Hd.mk hQ
          have HQ7 : Hd (∀ j (h : j < q.length), q[j] < 128) := ⟨fun j h => hQ.asc _ (List.getElem_mem h)⟩
          obtain ⟨N, hN⟩ : ∃ N, q.length = N := ⟨_, rfl⟩
          rw [hN] at hcv hq20
          have HN := Hd.mk hN
          obtain ⟨gq, hgq⟩ : ∃ gq, wq.heap.size = gq := ⟨_, rfl⟩
          rw [hgq] at hcv HC
          clear hrd hbz hb7 hQ hy HB8 HO8 HB9 HO9 C3 hN hgq
          go_wp2
          go_loopw [12, 70] (fun ln i W => W = wz ∧ ∃ j : Nat, j ≤ N ∧ i = .int .i64 j ∧ ln = .string (T (45 :: 45 :: keep10 (q.take j)))) (fun _ i _ => N - (intOf i).toNat)
          case atStart => exact ⟨rfl, 0, by omega, rfl, rfl⟩
          case round =>
            obtain ⟨rfl, j, hjN, rfl, rfl⟩ := hrel
            have hts := T_size (45 :: 45 :: keep10 (q.take j))
            have hkl := keep10_len (q.take j)
            rw [List.length_take] at hkl
            simp only [List.length_cons] at hts
            obtain ⟨LN, hLN⟩ : ∃ LN, T (45 :: 45 :: keep10 (q.take j)) = LN := ⟨_, rfl⟩
            rw [hLN] at hts ⊢
            have HLN := Hd.mk hLN
            have hln : LN.size ≤ 40 := by omega
            clear hLN hts hkl
            by_cases hjl : j < N
            · have hj' : j < q.length := by rw [HN.out]; exact hjl
              have hc := HC.out j hj'
              have hx7 := HQ7.out j hj'
              have hks := keep10_snoc hj'
              obtain ⟨x, hx⟩ : ∃ x, q[j] = x := ⟨_, rfl⟩
              rw [hx] at hc hx7 hks
              have hji : (j : Int) < N := by omega
              by_cases h10 : x = 10
              · have HK2 : Hd (LN = T (45 :: 45 :: keep10 (q.take (j + 1)))) := ⟨by rw [hks, if_pos h10, List.append_nil]; exact HLN.out.symm⟩
                subst h10
                clear hks hx hj'
                go_wp2
                go_roundw
                case rel => exact ⟨trivial, j + 1, by omega, by go_num, by rw [HK2.out]⟩
                case measure => simp [intOf]; omega
              · have hen := encode_T x hx7
                obtain ⟨SX, hSX⟩ : ∃ SX, T [x] = SX := ⟨_, rfl⟩
                rw [hSX] at hen
                have hsx : SX.size = 1 := by rw [← hSX, T_size]; rfl
                obtain ⟨LM, hLM⟩ : ∃ LM, LN ++ SX = LM := ⟨_, rfl⟩
                have HK2 : Hd (LM = T (45 :: 45 :: keep10 (q.take (j + 1)))) := ⟨by rw [hks, if_neg h10, ← hLM, ← hSX, ← HLN.out, T_append]; simp⟩
                have hl1 : ¬ 9223372036854775807 < LN.size + SX.size := by omega
                have e10 : ((x : Int) != 10) = true := by simp; omega
                have hsw : IntKind.i32.wrap (x : Int) = (x : Int) := by rw [IntKind.wrap_i32]; omega
                clear hks hx hj' hSX hsx h10
                go_wp2
                go_roundw
                case rel => exact ⟨trivial, j + 1, by omega, by go_num, by rw [HK2.out]⟩
                case measure => simp [intOf]; omega
            · obtain rfl : j = N := by omega
              have hqt : q.take j = q := by rw [← HN.out]; exact List.take_length
              rw [hqt] at HLN
              obtain ⟨LE, hLE⟩ : ∃ LE, LN ++ (⟨#[10]⟩ : ByteArray) = LE := ⟨_, rfl⟩
              have hle : LE.size = LN.size + 1 := by rw [← hLE, ByteArray.size_append]; rfl
              obtain ⟨I2, hI2⟩ : ∃ I2, IN ++ LE = I2 := ⟨_, rfl⟩
              have hi2s : I2.size ≤ 600 := by rw [← hI2, ByteArray.size_append]; omega
              have m1 : ¬ 9223372036854775807 < LN.size + 1 := by omega
              have m2 : ¬ 9223372036854775807 < IN.size + LE.size := by omega
              obtain ⟨TK, hTK⟩ : ∃ TK, LE ++ R = TK := ⟨_, rfl⟩
              have m3 : ¬ 9223372036854775807 < LE.size + R.size := by omega
              obtain ⟨Y, hY⟩ : ∃ Y, I2 ++ X = Y := ⟨_, rfl⟩
              have hys : Y.size ≤ 700 := by rw [← hY, ByteArray.size_append]; omega
              obtain ⟨Z, hZ⟩ : ∃ Z, Y ++ (⟨#[59]⟩ : ByteArray) = Z := ⟨_, rfl⟩
              have m4 : ¬ 9223372036854775807 < I2.size + X.size := by omega
              have m5 : ¬ 9223372036854775807 < Y.size + 1 := by omega
              have HLX : Hd ((45 :: 45 :: (keep10 q ++ 10 :: l')).length ≤ 100) := ⟨by have := keep10_len q; have := HN.out; simp; omega⟩
              have HST : Hd (Stmt 59 com (45 :: 45 :: (keep10 q ++ 10 :: l')) ((if com then 45 :: 45 :: (keep10 q ++ [10]) else []) ++ stm l')) := ⟨stmt_comment PX.out (keep10_line HQ.out) com⟩
              have HZ : Hd (Z = T (flat 59 (Ls ++ [(45 :: 45 :: (keep10 q ++ 10 :: l'), (if com then 45 :: 45 :: (keep10 q ++ [10]) else []) ++ stm l')]))) := ⟨by
                rw [← hZ, ← hY, ← hI2, ← hLE, ← HLN.out, ← HIN.out, ← HX.out, show (⟨#[10]⟩ : ByteArray) = T [10] from rfl, show (⟨#[59]⟩ : ByteArray) = T [59] from rfl, flat_snoc]
                simp only [T_append]
                congr 1
                simp⟩
              have HTX : Hd (∀ b : Bool, com = b → T ((if com then 45 :: 45 :: (keep10 q ++ [10]) else []) ++ stm l') = if b then TK else R) := ⟨fun b hb => by
                subst hb
                cases com
                · simpa using HR.out
                · simp only [if_true]
                  rw [← hTK, ← hLE, ← HLN.out, ← HR.out, show (⟨#[10]⟩ : ByteArray) = T [10] from rfl]
                  simp only [T_append]
                  congr 1⟩
              clear hle hi2s hys
              obtain ⟨lx, hlx⟩ : ∃ lx, 45 :: 45 :: (keep10 q ++ 10 :: l') = lx := ⟨_, rfl⟩
              obtain ⟨tx, htx⟩ : ∃ tx, (if com then 45 :: 45 :: (keep10 q ++ [10]) else []) ++ stm l' = tx := ⟨_, rfl⟩
              rw [hlx] at HLX HST HZ
              rw [htx] at HST HZ HTX
              clear hlx htx hqt hX61 hRs
              cases com
              · have HTX2 : Hd (T tx = R) := ⟨HTX.out false rfl⟩
                clear HTX
                obtain ⟨j0, hj0, hy0', hy1', hy2'⟩ := info_of infoStr
                have J := Hd.mk (And.intro hj0 (And.intro hy0' (And.intro hy1' hy2')))
                have HB11 := Hd.mk (HB10.out.alloc HB10.out.size (.cells #[.string R] 9))
                have HO11 := Hd.mk (HO10.out.alloc (.cells #[.string R] 9))
                have hh := Hd.mk (Blk.new wr #[.string R] 9)
                clear hj0 hy0' hy1' hy2'
                go_wp2_with (at_builtin; refine wpList_append_one rfl (.tmp 91) (.tmp 93) 28 rfl Tryd.underlying28 J.out.1 J.out.2.1 J.out.2.2.1 J.out.2.2.2 rfl rfl HO11.out (by simp [Act.eval, Act.put]) hh.out rfl (by unfold maxLen; omega) (by omega) HB11.out.size ?_)
                intro v9 w9 own9 g9
                obtain ⟨A9, c9, rfl, _, _⟩ := own_slice own9
                have HO12 := Hd.mk own9
                have HB12 := Hd.mk (below_grown_own HB11.out HO11.out HB11.out.size (Nat.le_refl _) g9)
                clear own9 g9 hh
                go_wp2
                go_roundw
                case rel =>
                  have e1 : (Ls ++ [(lx, tx)]).length = k + 1 := by have := HK.out; simp; omega
                  refine ⟨Ls ++ [(lx, tx)], by rw [e1]; go_num, by rw [e1]; omega, by rw [e1]; omega, by rw [HZ.out], ?_, goodC_snoc HG.out HST.out HLX.out, HB12.out⟩
                  rw [e1, strs_snoc, HTX2.out]
                  exact HO12.out
                case measure => simp [intOf]; omega
              · have HTX2 : Hd (T tx = TK) := ⟨HTX.out true rfl⟩
                clear HTX
                obtain ⟨j0, hj0, hy0', hy1', hy2'⟩ := info_of infoStr
                have J := Hd.mk (And.intro hj0 (And.intro hy0' (And.intro hy1' hy2')))
                have HB11 := Hd.mk (HB10.out.alloc HB10.out.size (.cells #[.string TK] 9))
                have HO11 := Hd.mk (HO10.out.alloc (.cells #[.string TK] 9))
                have hh := Hd.mk (Blk.new wr #[.string TK] 9)
                clear hj0 hy0' hy1' hy2'
                go_wp2_with (at_builtin; refine wpList_append_one rfl (.tmp 91) (.tmp 93) 28 rfl Tryd.underlying28 J.out.1 J.out.2.1 J.out.2.2.1 J.out.2.2.2 rfl rfl HO11.out (by simp [Act.eval, Act.put]) hh.out rfl (by unfold maxLen; omega) (by omega) HB11.out.size ?_)
                intro v9 w9 own9 g9
                obtain ⟨A9, c9, rfl, _, _⟩ := own_slice own9
                have HO12 := Hd.mk own9
                have HB12 := Hd.mk (below_grown_own HB11.out HO11.out HB11.out.size (Nat.le_refl _) g9)
                clear own9 g9 hh
                go_wp2
                go_roundw
                case rel =>
                  have e1 : (Ls ++ [(lx, tx)]).length = k + 1 := by have := HK.out; simp; omega
                  refine ⟨Ls ++ [(lx, tx)], by rw [e1]; go_num, by rw [e1]; omega, by rw [e1]; omega, by rw [HZ.out], ?_, goodC_snoc HG.out HST.out HLX.out, HB12.out⟩
                  rw [e1, strs_snoc, HTX2.out]
                  exact HO12.out
                case measure => simp [intOf]; omega
        · have hqi : ¬ (k : Int) < m := by omega
          obtain ⟨Y, hY⟩ : ∃ Y, IN ++ X = Y := ⟨_, rfl⟩
          have hys : Y.size ≤ 700 := by rw [← hY, ByteArray.size_append]; omega
          obtain ⟨Z, hZ⟩ : ∃ Z, Y ++ (⟨#[59]⟩ : ByteArray) = Z := ⟨_, rfl⟩
          have m4 : ¬ 9223372036854775807 < IN.size + X.size := by omega
          have m5 : ¬ 9223372036854775807 < Y.size + 1 := by omega
          have HLX : Hd (l'.length ≤ 100) := ⟨by omega⟩
          have HST : Hd (Stmt 59 com l' (stm l')) := ⟨PX.out.stm com⟩
          have HZ : Hd (Z = T (flat 59 (Ls ++ [(l', stm l')]))) := ⟨by rw [← hZ, ← hY, ← HIN.out, ← HX.out, show (⟨#[59]⟩ : ByteArray) = T [59] from rfl, T_append, T_append, flat_snoc, List.append_assoc]⟩
          have HTX2 : Hd (T (stm l') = R) := ⟨HR.out⟩
          clear hys hL61 hX61 PX hRs
          obtain ⟨j0, hj0, hy0', hy1', hy2'⟩ := info_of infoStr
          have J := Hd.mk (And.intro hj0 (And.intro hy0' (And.intro hy1' hy2')))
          have HB11 := Hd.mk (HB8.out.alloc HB8.out.size (.cells #[.string R] 9))
          have HO11 := Hd.mk (HO8.out.alloc (.cells #[.string R] 9))
          have hh := Hd.mk (Blk.new w8 #[.string R] 9)
          clear hj0 hy0' hy1' hy2'
          go_wp2_with (at_builtin; refine wpList_append_one rfl (.tmp 91) (.tmp 93) 28 rfl Tryd.underlying28 J.out.1 J.out.2.1 J.out.2.2.1 J.out.2.2.2 rfl rfl HO11.out (by simp [Act.eval, Act.put]) hh.out rfl (by unfold maxLen; omega) (by omega) HB11.out.size ?_)
          intro v9 w9 own9 g9
          obtain ⟨A9, c9, rfl, _, _⟩ := own_slice own9
          have HO12 := Hd.mk own9
          have HB12 := Hd.mk (below_grown_own HB11.out HO11.out HB11.out.size (Nat.le_refl _) g9)
          clear own9 g9 hh
          go_wp2
          go_roundw
          case rel =>
            have e1 : (Ls ++ [(l', stm l')]).length = k + 1 := by have := HK.out; simp; omega
            refine ⟨Ls ++ [(l', stm l')], by rw [e1]; go_num, by rw [e1]; omega, by rw [e1]; omega, by rw [HZ.out], ?_, goodC_snoc HG.out HST.out HLX.out, HB12.out⟩
            rw [e1, strs_snoc, HTX2.out]
            exact HO12.out
          case measure => simp [intOf]; omega
      · obtain ⟨c, hc⟩ : ∃ c, (stm l)[0]'(by omega) = c := ⟨_, rfl⟩
        have hszz : 0 < S2.size := by omega
        have hg : (S2[0]'hszz).toNat = c := by
          have := hsg2 (by omega) (by rw [T_size]; omega)
          rw [hc] at this
          subst hS2
          exact this
        have hnl := toList_ne hszz
        have hie : S2.toList.isEmpty = false := by
          cases h : S2.toList with
          | nil => exact absurd h hnl
          | cons a b => rfl
        by_cases h45 : c = 45
        · have PX := Hd.mk (prep_x HP.out (by decide))
          obtain ⟨X, hX⟩ : ∃ X, (⟨#[120]⟩ : ByteArray) ++ S1 = X := ⟨_, rfl⟩
          have HX : Hd (T (120 :: l) = X) := ⟨by rw [← hX, ← HS1.out, show (⟨#[120]⟩ : ByteArray) = T [120] from rfl, T_append]; rfl⟩
          have hL61 : (120 :: l).length ≤ 41 := by simp; omega
          have hn120 : ¬ 9223372036854775807 < 1 + S1.size := by omega
          obtain ⟨l', hl'⟩ : ∃ l', 120 :: l = l' := ⟨_, rfl⟩
          rw [hl'] at PX HX hL61
          subst h45
          clear hS2 hS1 hsg2 hss hs1 hsl hz h0 hl' hl60 hc
          go_wp2_with fail
          with_reducible refine (C2.out _).mono ?_
          rintro e w6 ⟨rfl, hb6⟩
          have HB6 := Hd.mk (HB5.out.trans (hb6.mono HB5.out.size))
          have HO6 := Hd.mk (own_below HO5.out hb6)
          obtain ⟨W0, hW0⟩ : ∃ W0, w6 = W0 := ⟨_, rfl⟩
          rw [hW0] at HB6 HO6 ⊢
          have HB5 := HB6; have HO5 := HO6
          clear hb6 hW0 C2 HB6 HO6
          have hxs : X.size = l'.length := by rw [← HX.out, T_size]
          have hX61 : X.size ≤ 41 := by omega
          have CT := Hd.mk (fun W => scStatement l' PX.out.asc (by omega) W)
          obtain ⟨R, hR⟩ : ∃ R, T (stm l') = R := ⟨_, rfl⟩
          have hRs : R.size ≤ 41 := by rw [← hR, T_size]; have := stm_len l'; omega
          simp only [StrT, HX.out, hR] at CT
          have HR := Hd.mk hR
          clear hxs hR
          go_wp2_with fail
          with_reducible refine (CT.out _).mono ?_
          rintro e w8 ⟨rfl, hb8⟩
          have HB8 := Hd.mk (HB5.out.trans (hb8.mono HB5.out.size))
          have HO8 := Hd.mk (own_below HO5.out hb8)
          clear hb8 HB5 HO5 CT
          by_cases hqm : k < m
          · obtain ⟨ay, hay, hy, _⟩ := (RB.out.below HB8.out).at_ k hqm
            have hqi : (k : Int) < m := by omega
            have hqz := SB.out.2 k hqm
            obtain ⟨qi, hq1⟩ : ∃ qi, qs.getD k ByteArray.empty = qi := ⟨_, rfl⟩
            rw [hq1] at hy hqz
            have C3 := Hd.mk (scPlain qi 0 30 (by decide) (by decide) hqz w8)
            rw [show ((0 : Nat) : Int) = 0 from rfl, show ((30 : Nat) : Int) = 30 from rfl] at C3
            subst hay
            clear hq1 hqz
            go_wp2_with fail
            with_reducible refine C3.out.mono ?_
            intro e wq hq7
            obtain ⟨q, rfl, hQ, hq20, hb7⟩ := hq7
            have HB9 := Hd.mk (HB8.out.trans (hb7.mono HB8.out.size))
            have HO9 := Hd.mk (own_below HO8.out hb7)
            obtain ⟨cq, wz, hcv, hrd, hbz⟩ := bytes_T wq q hQ.asc.lt (by omega)
            have HB10 := Hd.mk (HB9.out.trans (hbz.mono HB9.out.size))
            have HO10 := Hd.mk (own_below HO9.out hbz)
            have HC := Hd.mk (fun j hj => rd_cell0 hrd j hj)
            have HQ := Hd.mk hQ
            have HQ7 : Hd (∀ j (h : j < q.length), q[j] < 128) := ⟨fun j h => hQ.asc _ (List.getElem_mem h)⟩
            obtain ⟨N, hN⟩ : ∃ N, q.length = N := ⟨_, rfl⟩
            rw [hN] at hcv hq20
            have HN := Hd.mk hN
            obtain ⟨gq, hgq⟩ : ∃ gq, wq.heap.size = gq := ⟨_, rfl⟩
            rw [hgq] at hcv HC
            clear hrd hbz hb7 hQ hy HB8 HO8 HB9 HO9 C3 hN hgq
            go_wp2
            go_loopw [12, 70] (fun ln i W => W = wz ∧ ∃ j : Nat, j ≤ N ∧ i = .int .i64 j ∧ ln = .string (T (45 :: 45 :: keep10 (q.take j)))) (fun _ i _ => N - (intOf i).toNat)
            case atStart => exact ⟨rfl, 0, by omega, rfl, rfl⟩
            case round =>
              obtain ⟨rfl, j, hjN, rfl, rfl⟩ := hrel
              have hts := T_size (45 :: 45 :: keep10 (q.take j))
              have hkl := keep10_len (q.take j)
              rw [List.length_take] at hkl
              simp only [List.length_cons] at hts
              obtain ⟨LN, hLN⟩ : ∃ LN, T (45 :: 45 :: keep10 (q.take j)) = LN := ⟨_, rfl⟩
              rw [hLN] at hts ⊢
              have HLN := Hd.mk hLN
              have hln : LN.size ≤ 40 := by omega
              clear hLN hts hkl
              by_cases hjl : j < N
              · have hj' : j < q.length := by rw [HN.out]; exact hjl
                have hc := HC.out j hj'
                have hx7 := HQ7.out j hj'
                have hks := keep10_snoc hj'
                obtain ⟨x, hx⟩ : ∃ x, q[j] = x := ⟨_, rfl⟩
                rw [hx] at hc hx7 hks
                have hji : (j : Int) < N := by omega
                by_cases h10 : x = 10
                · have HK2 : Hd (LN = T (45 :: 45 :: keep10 (q.take (j + 1)))) := ⟨by rw [hks, if_pos h10, List.append_nil]; exact HLN.out.symm⟩
                  subst h10
                  clear hks hx hj'
                  go_wp2
                  go_roundw
                  case rel => exact ⟨trivial, j + 1, by omega, by go_num, by rw [HK2.out]⟩
                  case measure => simp [intOf]; omega
                · have hen := encode_T x hx7
                  obtain ⟨SX, hSX⟩ : ∃ SX, T [x] = SX := ⟨_, rfl⟩
                  rw [hSX] at hen
                  have hsx : SX.size = 1 := by rw [← hSX, T_size]; rfl
                  obtain ⟨LM, hLM⟩ : ∃ LM, LN ++ SX = LM := ⟨_, rfl⟩
                  have HK2 : Hd (LM = T (45 :: 45 :: keep10 (q.take (j + 1)))) := ⟨by rw [hks, if_neg h10, ← hLM, ← hSX, ← HLN.out, T_append]; simp⟩
                  have hl1 : ¬ 9223372036854775807 < LN.size + SX.size := by omega
                  have e10 : ((x : Int) != 10) = true := by simp; omega
                  have hsw : IntKind.i32.wrap (x : Int) = (x : Int) := by rw [IntKind.wrap_i32]; omega
                  clear hks hx hj' hSX hsx h10
                  go_wp2
                  go_roundw
                  case rel => exact ⟨trivial, j + 1, by omega, by go_num, by rw [HK2.out]⟩
                  case measure => simp [intOf]; omega
              · obtain rfl : j = N := by omega
                have hqt : q.take j = q := by rw [← HN.out]; exact List.take_length
                rw [hqt] at HLN
                obtain ⟨LE, hLE⟩ : ∃ LE, LN ++ (⟨#[10]⟩ : ByteArray) = LE := ⟨_, rfl⟩
                have hle : LE.size = LN.size + 1 := by rw [← hLE, ByteArray.size_append]; rfl
                obtain ⟨I2, hI2⟩ : ∃ I2, IN ++ LE = I2 := ⟨_, rfl⟩
                have hi2s : I2.size ≤ 600 := by rw [← hI2, ByteArray.size_append]; omega
                have m1 : ¬ 9223372036854775807 < LN.size + 1 := by omega
                have m2 : ¬ 9223372036854775807 < IN.size + LE.size := by omega
                obtain ⟨TK, hTK⟩ : ∃ TK, LE ++ R = TK := ⟨_, rfl⟩
                have m3 : ¬ 9223372036854775807 < LE.size + R.size := by omega
                obtain ⟨Y, hY⟩ : ∃ Y, I2 ++ X = Y := ⟨_, rfl⟩
                have hys : Y.size ≤ 700 := by rw [← hY, ByteArray.size_append]; omega
                obtain ⟨Z, hZ⟩ : ∃ Z, Y ++ (⟨#[59]⟩ : ByteArray) = Z := ⟨_, rfl⟩
                have m4 : ¬ 9223372036854775807 < I2.size + X.size := by omega
                have m5 : ¬ 9223372036854775807 < Y.size + 1 := by omega
                have HLX : Hd ((45 :: 45 :: (keep10 q ++ 10 :: l')).length ≤ 100) := ⟨by have := keep10_len q; have := HN.out; simp; omega⟩
                have HST : Hd (Stmt 59 com (45 :: 45 :: (keep10 q ++ 10 :: l')) ((if com then 45 :: 45 :: (keep10 q ++ [10]) else []) ++ stm l')) := ⟨stmt_comment PX.out (keep10_line HQ.out) com⟩
                have HZ : Hd (Z = T (flat 59 (Ls ++ [(45 :: 45 :: (keep10 q ++ 10 :: l'), (if com then 45 :: 45 :: (keep10 q ++ [10]) else []) ++ stm l')]))) := ⟨by
                  rw [← hZ, ← hY, ← hI2, ← hLE, ← HLN.out, ← HIN.out, ← HX.out, show (⟨#[10]⟩ : ByteArray) = T [10] from rfl, show (⟨#[59]⟩ : ByteArray) = T [59] from rfl, flat_snoc]
                  simp only [T_append]
                  congr 1
                  simp⟩
                have HTX : Hd (∀ b : Bool, com = b → T ((if com then 45 :: 45 :: (keep10 q ++ [10]) else []) ++ stm l') = if b then TK else R) := ⟨fun b hb => by
                  subst hb
                  cases com
                  · simpa using HR.out
                  · simp only [if_true]
                    rw [← hTK, ← hLE, ← HLN.out, ← HR.out, show (⟨#[10]⟩ : ByteArray) = T [10] from rfl]
                    simp only [T_append]
                    congr 1⟩
                clear hle hi2s hys
                obtain ⟨lx, hlx⟩ : ∃ lx, 45 :: 45 :: (keep10 q ++ 10 :: l') = lx := ⟨_, rfl⟩
                obtain ⟨tx, htx⟩ : ∃ tx, (if com then 45 :: 45 :: (keep10 q ++ [10]) else []) ++ stm l' = tx := ⟨_, rfl⟩
                rw [hlx] at HLX HST HZ
                rw [htx] at HST HZ HTX
                clear hlx htx hqt hX61 hRs
                cases com
                · have HTX2 : Hd (T tx = R) := ⟨HTX.out false rfl⟩
                  clear HTX
                  obtain ⟨j0, hj0, hy0', hy1', hy2'⟩ := info_of infoStr
                  have J := Hd.mk (And.intro hj0 (And.intro hy0' (And.intro hy1' hy2')))
                  have HB11 := Hd.mk (HB10.out.alloc HB10.out.size (.cells #[.string R] 9))
                  have HO11 := Hd.mk (HO10.out.alloc (.cells #[.string R] 9))
                  have hh := Hd.mk (Blk.new wr #[.string R] 9)
                  clear hj0 hy0' hy1' hy2'
                  go_wp2_with (at_builtin; refine wpList_append_one rfl (.tmp 91) (.tmp 93) 28 rfl Tryd.underlying28 J.out.1 J.out.2.1 J.out.2.2.1 J.out.2.2.2 rfl rfl HO11.out (by simp [Act.eval, Act.put]) hh.out rfl (by unfold maxLen; omega) (by omega) HB11.out.size ?_)
                  intro v9 w9 own9 g9
                  obtain ⟨A9, c9, rfl, _, _⟩ := own_slice own9
                  have HO12 := Hd.mk own9
                  have HB12 := Hd.mk (below_grown_own HB11.out HO11.out HB11.out.size (Nat.le_refl _) g9)
                  clear own9 g9 hh
                  go_wp2
                  go_roundw
                  case rel =>
                    have e1 : (Ls ++ [(lx, tx)]).length = k + 1 := by have := HK.out; simp; omega
                    refine ⟨Ls ++ [(lx, tx)], by rw [e1]; go_num, by rw [e1]; omega, by rw [e1]; omega, by rw [HZ.out], ?_, goodC_snoc HG.out HST.out HLX.out, HB12.out⟩
                    rw [e1, strs_snoc, HTX2.out]
                    exact HO12.out
                  case measure => simp [intOf]; omega
                · have HTX2 : Hd (T tx = TK) := ⟨HTX.out true rfl⟩
                  clear HTX
                  obtain ⟨j0, hj0, hy0', hy1', hy2'⟩ := info_of infoStr
                  have J := Hd.mk (And.intro hj0 (And.intro hy0' (And.intro hy1' hy2')))
                  have HB11 := Hd.mk (HB10.out.alloc HB10.out.size (.cells #[.string TK] 9))
                  have HO11 := Hd.mk (HO10.out.alloc (.cells #[.string TK] 9))
                  have hh := Hd.mk (Blk.new wr #[.string TK] 9)
                  clear hj0 hy0' hy1' hy2'
                  go_wp2_with (at_builtin; refine wpList_append_one rfl (.tmp 91) (.tmp 93) 28 rfl Tryd.underlying28 J.out.1 J.out.2.1 J.out.2.2.1 J.out.2.2.2 rfl rfl HO11.out (by simp [Act.eval, Act.put]) hh.out rfl (by unfold maxLen; omega) (by omega) HB11.out.size ?_)
                  intro v9 w9 own9 g9
                  obtain ⟨A9, c9, rfl, _, _⟩ := own_slice own9
                  have HO12 := Hd.mk own9
                  have HB12 := Hd.mk (below_grown_own HB11.out HO11.out HB11.out.size (Nat.le_refl _) g9)
                  clear own9 g9 hh
                  go_wp2
                  go_roundw
                  case rel =>
                    have e1 : (Ls ++ [(lx, tx)]).length = k + 1 := by have := HK.out; simp; omega
                    refine ⟨Ls ++ [(lx, tx)], by rw [e1]; go_num, by rw [e1]; omega, by rw [e1]; omega, by rw [HZ.out], ?_, goodC_snoc HG.out HST.out HLX.out, HB12.out⟩
                    rw [e1, strs_snoc, HTX2.out]
                    exact HO12.out
                  case measure => simp [intOf]; omega
          · have hqi : ¬ (k : Int) < m := by omega
            obtain ⟨Y, hY⟩ : ∃ Y, IN ++ X = Y := ⟨_, rfl⟩
            have hys : Y.size ≤ 700 := by rw [← hY, ByteArray.size_append]; omega
            obtain ⟨Z, hZ⟩ : ∃ Z, Y ++ (⟨#[59]⟩ : ByteArray) = Z := ⟨_, rfl⟩
            have m4 : ¬ 9223372036854775807 < IN.size + X.size := by omega
            have m5 : ¬ 9223372036854775807 < Y.size + 1 := by omega
            have HLX : Hd (l'.length ≤ 100) := ⟨by omega⟩
            have HST : Hd (Stmt 59 com l' (stm l')) := ⟨PX.out.stm com⟩
            have HZ : Hd (Z = T (flat 59 (Ls ++ [(l', stm l')]))) := ⟨by rw [← hZ, ← hY, ← HIN.out, ← HX.out, show (⟨#[59]⟩ : ByteArray) = T [59] from rfl, T_append, T_append, flat_snoc, List.append_assoc]⟩
            have HTX2 : Hd (T (stm l') = R) := ⟨HR.out⟩
            clear hys hL61 hX61 PX hRs
            obtain ⟨j0, hj0, hy0', hy1', hy2'⟩ := info_of infoStr
            have J := Hd.mk (And.intro hj0 (And.intro hy0' (And.intro hy1' hy2')))
            have HB11 := Hd.mk (HB8.out.alloc HB8.out.size (.cells #[.string R] 9))
            have HO11 := Hd.mk (HO8.out.alloc (.cells #[.string R] 9))
            have hh := Hd.mk (Blk.new w8 #[.string R] 9)
            clear hj0 hy0' hy1' hy2'
            go_wp2_with (at_builtin; refine wpList_append_one rfl (.tmp 91) (.tmp 93) 28 rfl Tryd.underlying28 J.out.1 J.out.2.1 J.out.2.2.1 J.out.2.2.2 rfl rfl HO11.out (by simp [Act.eval, Act.put]) hh.out rfl (by unfold maxLen; omega) (by omega) HB11.out.size ?_)
            intro v9 w9 own9 g9
            obtain ⟨A9, c9, rfl, _, _⟩ := own_slice own9
            have HO12 := Hd.mk own9
            have HB12 := Hd.mk (below_grown_own HB11.out HO11.out HB11.out.size (Nat.le_refl _) g9)
            clear own9 g9 hh
            go_wp2
            go_roundw
            case rel =>
              have e1 : (Ls ++ [(l', stm l')]).length = k + 1 := by have := HK.out; simp; omega
              refine ⟨Ls ++ [(l', stm l')], by rw [e1]; go_num, by rw [e1]; omega, by rw [e1]; omega, by rw [HZ.out], ?_, goodC_snoc HG.out HST.out HLX.out, HB12.out⟩
              rw [e1, strs_snoc, HTX2.out]
              exact HO12.out
            case measure => simp [intOf]; omega
        · have e45 : ((c : Int) == 45) = false := by simp; omega
          have PX := Hd.mk (prep_id HP.out (by omega) (by rw [hc]; exact h45))
          obtain ⟨X, rfl⟩ : ∃ X, X = S1 := ⟨_, rfl⟩
          have HX : Hd (T l = X) := ⟨HS1.out⟩
          have hL61 : l.length ≤ 41 := by omega
          obtain ⟨l', hl'⟩ : ∃ l', l = l' := ⟨_, rfl⟩
          rw [hl'] at PX HX hL61
          clear hS2 hS1 hsg2 hss hs1 hsl hz h0 hl' hl60 hc h45
          go_wp2_with fail
          with_reducible refine (C2.out _).mono ?_
          rintro e w6 ⟨rfl, hb6⟩
          have HB6 := Hd.mk (HB5.out.trans (hb6.mono HB5.out.size))
          have HO6 := Hd.mk (own_below HO5.out hb6)
          obtain ⟨W0, hW0⟩ : ∃ W0, w6 = W0 := ⟨_, rfl⟩
          rw [hW0] at HB6 HO6 ⊢
          have HB5 := HB6; have HO5 := HO6
          clear hb6 hW0 C2 HB6 HO6
          have hxs : X.size = l'.length := by rw [← HX.out, T_size]
          have hX61 : X.size ≤ 41 := by omega
          have CT := Hd.mk (fun W => scStatement l' PX.out.asc (by omega) W)
          obtain ⟨R, hR⟩ : ∃ R, T (stm l') = R := ⟨_, rfl⟩
          have hRs : R.size ≤ 41 := by rw [← hR, T_size]; have := stm_len l'; omega
          simp only [StrT, HX.out, hR] at CT
          have HR := Hd.mk hR
          clear hxs hR
          go_wp2_with fail
          with_reducible refine (CT.out _).mono ?_
          rintro e w8 ⟨rfl, hb8⟩
          have HB8 := Hd.mk (HB5.out.trans (hb8.mono HB5.out.size))
          have HO8 := Hd.mk (own_below HO5.out hb8)
          clear hb8 HB5 HO5 CT
          by_cases hqm : k < m
          · obtain ⟨ay, hay, hy, _⟩ := (RB.out.below HB8.out).at_ k hqm
            have hqi : (k : Int) < m := by omega
            have hqz := SB.out.2 k hqm
            obtain ⟨qi, hq1⟩ : ∃ qi, qs.getD k ByteArray.empty = qi := ⟨_, rfl⟩
            rw [hq1] at hy hqz
            have C3 := Hd.mk (scPlain qi 0 30 (by decide) (by decide) hqz w8)
            rw [show ((0 : Nat) : Int) = 0 from rfl, show ((30 : Nat) : Int) = 30 from rfl] at C3
            subst hay
            clear hq1 hqz
            go_wp2_with fail
            with_reducible refine C3.out.mono ?_
            intro e wq hq7
            obtain ⟨q, rfl, hQ, hq20, hb7⟩ := hq7
            have HB9 := Hd.mk (HB8.out.trans (hb7.mono HB8.out.size))
            have HO9 := Hd.mk (own_below HO8.out hb7)
            obtain ⟨cq, wz, hcv, hrd, hbz⟩ := bytes_T wq q hQ.asc.lt (by omega)
            have HB10 := Hd.mk (HB9.out.trans (hbz.mono HB9.out.size))
            have HO10 := Hd.mk (own_below HO9.out hbz)
            have HC := Hd.mk (fun j hj => rd_cell0 hrd j hj)
            have HQ := Hd.mk hQ
            have HQ7 : Hd (∀ j (h : j < q.length), q[j] < 128) := ⟨fun j h => hQ.asc _ (List.getElem_mem h)⟩
            obtain ⟨N, hN⟩ : ∃ N, q.length = N := ⟨_, rfl⟩
            rw [hN] at hcv hq20
            have HN := Hd.mk hN
            obtain ⟨gq, hgq⟩ : ∃ gq, wq.heap.size = gq := ⟨_, rfl⟩
            rw [hgq] at hcv HC
            clear hrd hbz hb7 hQ hy HB8 HO8 HB9 HO9 C3 hN hgq
            go_wp2
            go_loopw [12, 70] (fun ln i W => W = wz ∧ ∃ j : Nat, j ≤ N ∧ i = .int .i64 j ∧ ln = .string (T (45 :: 45 :: keep10 (q.take j)))) (fun _ i _ => N - (intOf i).toNat)
            case atStart => exact ⟨rfl, 0, by omega, rfl, rfl⟩
            case round =>
              obtain ⟨rfl, j, hjN, rfl, rfl⟩ := hrel
              have hts := T_size (45 :: 45 :: keep10 (q.take j))
              have hkl := keep10_len (q.take j)
              rw [List.length_take] at hkl
              simp only [List.length_cons] at hts
              obtain ⟨LN, hLN⟩ : ∃ LN, T (45 :: 45 :: keep10 (q.take j)) = LN := ⟨_, rfl⟩
              rw [hLN] at hts ⊢
              have HLN := Hd.mk hLN
              have hln : LN.size ≤ 40 := by omega
              clear hLN hts hkl
              by_cases hjl : j < N
              · have hj' : j < q.length := by rw [HN.out]; exact hjl
                have hc := HC.out j hj'
                have hx7 := HQ7.out j hj'
                have hks := keep10_snoc hj'
                obtain ⟨x, hx⟩ : ∃ x, q[j] = x := ⟨_, rfl⟩
                rw [hx] at hc hx7 hks
                have hji : (j : Int) < N := by omega
                by_cases h10 : x = 10
                · have HK2 : Hd (LN = T (45 :: 45 :: keep10 (q.take (j + 1)))) := ⟨by rw [hks, if_pos h10, List.append_nil]; exact HLN.out.symm⟩
                  subst h10
                  clear hks hx hj'
                  go_wp2
                  go_roundw
                  case rel => exact ⟨trivial, j + 1, by omega, by go_num, by rw [HK2.out]⟩
                  case measure => simp [intOf]; omega
                · have hen := encode_T x hx7
                  obtain ⟨SX, hSX⟩ : ∃ SX, T [x] = SX := ⟨_, rfl⟩
                  rw [hSX] at hen
                  have hsx : SX.size = 1 := by rw [← hSX, T_size]; rfl
                  obtain ⟨LM, hLM⟩ : ∃ LM, LN ++ SX = LM := ⟨_, rfl⟩
                  have HK2 : Hd (LM = T (45 :: 45 :: keep10 (q.take (j + 1)))) := ⟨by rw [hks, if_neg h10, ← hLM, ← hSX, ← HLN.out, T_append]; simp⟩
                  have hl1 : ¬ 9223372036854775807 < LN.size + SX.size := by omega
                  have e10 : ((x : Int) != 10) = true := by simp; omega
                  have hsw : IntKind.i32.wrap (x : Int) = (x : Int) := by rw [IntKind.wrap_i32]; omega
                  clear hks hx hj' hSX hsx h10
                  go_wp2
                  go_roundw
                  case rel => exact ⟨trivial, j + 1, by omega, by go_num, by rw [HK2.out]⟩
                  case measure => simp [intOf]; omega
              · obtain rfl : j = N := by omega
                have hqt : q.take j = q := by rw [← HN.out]; exact List.take_length
                rw [hqt] at HLN
                obtain ⟨LE, hLE⟩ : ∃ LE, LN ++ (⟨#[10]⟩ : ByteArray) = LE := ⟨_, rfl⟩
                have hle : LE.size = LN.size + 1 := by rw [← hLE, ByteArray.size_append]; rfl
                obtain ⟨I2, hI2⟩ : ∃ I2, IN ++ LE = I2 := ⟨_, rfl⟩
                have hi2s : I2.size ≤ 600 := by rw [← hI2, ByteArray.size_append]; omega
                have m1 : ¬ 9223372036854775807 < LN.size + 1 := by omega
                have m2 : ¬ 9223372036854775807 < IN.size + LE.size := by omega
                obtain ⟨TK, hTK⟩ : ∃ TK, LE ++ R = TK := ⟨_, rfl⟩
                have m3 : ¬ 9223372036854775807 < LE.size + R.size := by omega
                obtain ⟨Y, hY⟩ : ∃ Y, I2 ++ X = Y := ⟨_, rfl⟩
                have hys : Y.size ≤ 700 := by rw [← hY, ByteArray.size_append]; omega
                obtain ⟨Z, hZ⟩ : ∃ Z, Y ++ (⟨#[59]⟩ : ByteArray) = Z := ⟨_, rfl⟩
                have m4 : ¬ 9223372036854775807 < I2.size + X.size := by omega
                have m5 : ¬ 9223372036854775807 < Y.size + 1 := by omega
                have HLX : Hd ((45 :: 45 :: (keep10 q ++ 10 :: l')).length ≤ 100) := ⟨by have := keep10_len q; have := HN.out; simp; omega⟩
                have HST : Hd (Stmt 59 com (45 :: 45 :: (keep10 q ++ 10 :: l')) ((if com then 45 :: 45 :: (keep10 q ++ [10]) else []) ++ stm l')) := ⟨stmt_comment PX.out (keep10_line HQ.out) com⟩
                have HZ : Hd (Z = T (flat 59 (Ls ++ [(45 :: 45 :: (keep10 q ++ 10 :: l'), (if com then 45 :: 45 :: (keep10 q ++ [10]) else []) ++ stm l')]))) := ⟨by
                  rw [← hZ, ← hY, ← hI2, ← hLE, ← HLN.out, ← HIN.out, ← HX.out, show (⟨#[10]⟩ : ByteArray) = T [10] from rfl, show (⟨#[59]⟩ : ByteArray) = T [59] from rfl, flat_snoc]
                  simp only [T_append]
                  congr 1
                  simp⟩
                have HTX : Hd (∀ b : Bool, com = b → T ((if com then 45 :: 45 :: (keep10 q ++ [10]) else []) ++ stm l') = if b then TK else R) := ⟨fun b hb => by
                  subst hb
                  cases com
                  · simpa using HR.out
                  · simp only [if_true]
                    rw [← hTK, ← hLE, ← HLN.out, ← HR.out, show (⟨#[10]⟩ : ByteArray) = T [10] from rfl]
                    simp only [T_append]
                    congr 1⟩
                clear hle hi2s hys
                obtain ⟨lx, hlx⟩ : ∃ lx, 45 :: 45 :: (keep10 q ++ 10 :: l') = lx := ⟨_, rfl⟩
                obtain ⟨tx, htx⟩ : ∃ tx, (if com then 45 :: 45 :: (keep10 q ++ [10]) else []) ++ stm l' = tx := ⟨_, rfl⟩
                rw [hlx] at HLX HST HZ
                rw [htx] at HST HZ HTX
                clear hlx htx hqt hX61 hRs
                cases com
                · have HTX2 : Hd (T tx = R) := ⟨HTX.out false rfl⟩
                  clear HTX
                  obtain ⟨j0, hj0, hy0', hy1', hy2'⟩ := info_of infoStr
                  have J := Hd.mk (And.intro hj0 (And.intro hy0' (And.intro hy1' hy2')))
                  have HB11 := Hd.mk (HB10.out.alloc HB10.out.size (.cells #[.string R] 9))
                  have HO11 := Hd.mk (HO10.out.alloc (.cells #[.string R] 9))
                  have hh := Hd.mk (Blk.new wr #[.string R] 9)
                  clear hj0 hy0' hy1' hy2'
                  go_wp2_with (at_builtin; refine wpList_append_one rfl (.tmp 91) (.tmp 93) 28 rfl Tryd.underlying28 J.out.1 J.out.2.1 J.out.2.2.1 J.out.2.2.2 rfl rfl HO11.out (by simp [Act.eval, Act.put]) hh.out rfl (by unfold maxLen; omega) (by omega) HB11.out.size ?_)
                  intro v9 w9 own9 g9
                  obtain ⟨A9, c9, rfl, _, _⟩ := own_slice own9
                  have HO12 := Hd.mk own9
                  have HB12 := Hd.mk (below_grown_own HB11.out HO11.out HB11.out.size (Nat.le_refl _) g9)
                  clear own9 g9 hh
                  go_wp2
                  go_roundw
                  case rel =>
                    have e1 : (Ls ++ [(lx, tx)]).length = k + 1 := by have := HK.out; simp; omega
                    refine ⟨Ls ++ [(lx, tx)], by rw [e1]; go_num, by rw [e1]; omega, by rw [e1]; omega, by rw [HZ.out], ?_, goodC_snoc HG.out HST.out HLX.out, HB12.out⟩
                    rw [e1, strs_snoc, HTX2.out]
                    exact HO12.out
                  case measure => simp [intOf]; omega
                · have HTX2 : Hd (T tx = TK) := ⟨HTX.out true rfl⟩
                  clear HTX
                  obtain ⟨j0, hj0, hy0', hy1', hy2'⟩ := info_of infoStr
                  have J := Hd.mk (And.intro hj0 (And.intro hy0' (And.intro hy1' hy2')))
                  have HB11 := Hd.mk (HB10.out.alloc HB10.out.size (.cells #[.string TK] 9))
                  have HO11 := Hd.mk (HO10.out.alloc (.cells #[.string TK] 9))
                  have hh := Hd.mk (Blk.new wr #[.string TK] 9)
                  clear hj0 hy0' hy1' hy2'
                  go_wp2_with (at_builtin; refine wpList_append_one rfl (.tmp 91) (.tmp 93) 28 rfl Tryd.underlying28 J.out.1 J.out.2.1 J.out.2.2.1 J.out.2.2.2 rfl rfl HO11.out (by simp [Act.eval, Act.put]) hh.out rfl (by unfold maxLen; omega) (by omega) HB11.out.size ?_)
                  intro v9 w9 own9 g9
                  obtain ⟨A9, c9, rfl, _, _⟩ := own_slice own9
                  have HO12 := Hd.mk own9
                  have HB12 := Hd.mk (below_grown_own HB11.out HO11.out HB11.out.size (Nat.le_refl _) g9)
                  clear own9 g9 hh
                  go_wp2
                  go_roundw
                  case rel =>
                    have e1 : (Ls ++ [(lx, tx)]).length = k + 1 := by have := HK.out; simp; omega
                    refine ⟨Ls ++ [(lx, tx)], by rw [e1]; go_num, by rw [e1]; omega, by rw [e1]; omega, by rw [HZ.out], ?_, goodC_snoc HG.out HST.out HLX.out, HB12.out⟩
                    rw [e1, strs_snoc, HTX2.out]
                    exact HO12.out
                  case measure => simp [intOf]; omega
          · have hqi : ¬ (k : Int) < m := by omega
            obtain ⟨Y, hY⟩ : ∃ Y, IN ++ X = Y := ⟨_, rfl⟩
            have hys : Y.size ≤ 700 := by rw [← hY, ByteArray.size_append]; omega
            obtain ⟨Z, hZ⟩ : ∃ Z, Y ++ (⟨#[59]⟩ : ByteArray) = Z := ⟨_, rfl⟩
            have m4 : ¬ 9223372036854775807 < IN.size + X.size := by omega
            have m5 : ¬ 9223372036854775807 < Y.size + 1 := by omega
            have HLX : Hd (l'.length ≤ 100) := ⟨by omega⟩
            have HST : Hd (Stmt 59 com l' (stm l')) := ⟨PX.out.stm com⟩
            have HZ : Hd (Z = T (flat 59 (Ls ++ [(l', stm l')]))) := ⟨by rw [← hZ, ← hY, ← HIN.out, ← HX.out, show (⟨#[59]⟩ : ByteArray) = T [59] from rfl, T_append, T_append, flat_snoc, List.append_assoc]⟩
            have HTX2 : Hd (T (stm l') = R) := ⟨HR.out⟩
            clear hys hL61 hX61 PX hRs
            obtain ⟨j0, hj0, hy0', hy1', hy2'⟩ := info_of infoStr
            have J := Hd.mk (And.intro hj0 (And.intro hy0' (And.intro hy1' hy2')))
            have HB11 := Hd.mk (HB8.out.alloc HB8.out.size (.cells #[.string R] 9))
            have HO11 := Hd.mk (HO8.out.alloc (.cells #[.string R] 9))
            have hh := Hd.mk (Blk.new w8 #[.string R] 9)
            clear hj0 hy0' hy1' hy2'
            go_wp2_with (at_builtin; refine wpList_append_one rfl (.tmp 91) (.tmp 93) 28 rfl Tryd.underlying28 J.out.1 J.out.2.1 J.out.2.2.1 J.out.2.2.2 rfl rfl HO11.out (by simp [Act.eval, Act.put]) hh.out rfl (by unfold maxLen; omega) (by omega) HB11.out.size ?_)
            intro v9 w9 own9 g9
            obtain ⟨A9, c9, rfl, _, _⟩ := own_slice own9
            have HO12 := Hd.mk own9
            have HB12 := Hd.mk (below_grown_own HB11.out HO11.out HB11.out.size (Nat.le_refl _) g9)
            clear own9 g9 hh
            go_wp2
            go_roundw
            case rel =>
              have e1 : (Ls ++ [(l', stm l')]).length = k + 1 := by have := HK.out; simp; omega
              refine ⟨Ls ++ [(l', stm l')], by rw [e1]; go_num, by rw [e1]; omega, by rw [e1]; omega, by rw [HZ.out], ?_, goodC_snoc HG.out HST.out HLX.out, HB12.out⟩
              rw [e1, strs_snoc, HTX2.out]
              exact HO12.out
            case measure => simp [intOf]; omega
    · have hout : (k < n ∧ ¬ (k : Int) < 5) ∨ ¬ (k : Int) < n := by omega
      have hfl := flat_len 59 Ls (fun p hp => (HG.out p hp).2)
      have hK := HK.out
      have hd256 : ∀ x ∈ flat 59 Ls, x < 256 := by
        intro x hx
        simp only [flat, List.mem_flatMap] at hx
        obtain ⟨p, hp, hxp⟩ := hx
        rcases List.mem_append.1 hxp with h | h
        · exact (HG.out p hp).1.asc.lt x h
        · simp at h; omega
      obtain ⟨c5, w6, hcv, hrd, hb6⟩ := bytes_T wr (flat 59 Ls) hd256 (by omega)
      rw [HIN.out] at hcv
      have C3 := Hd.mk (scanScript (c := c5) (sep := 59) (com := com) (L := Ls) (tail := []) (by decide) (fun p hp => (HG.out p hp).1) (.inl rfl) (by simp) (by omega) hrd (by omega))
      obtain ⟨M, hM⟩ : ∃ M, (flat 59 Ls).length = M := ⟨_, rfl⟩
      rw [hM] at hcv C3
      rw [show ((59 : Nat) : Int) = 59 from rfl] at C3
      have HB6 := Hd.mk (HB.out.trans (hb6.mono HB.out.size))
      have HO6 := Hd.mk (own_below HO.out hb6)
      have HKL := Hd.mk (show (strs Ls).length = k by have := HK.out; simp [strs]; exact this)
      clear hrd hb6 hd256 hM hfl hK
      rcases hout with ⟨h1, h10⟩ | h1
      all_goals
        first | (have h1i : (k : Int) < n := by omega) | skip
        go_wp2_with fail
        with_reducible refine C3.out.mono ?_
        intro e w7 h7
        obtain ⟨vo, Al, cl, rfl, ownG, hRl, hb7⟩ := h7
        obtain ⟨Ag, cg, rfl, _, _⟩ := own_slice ownG
        have HB7 := Hd.mk (HB6.out.trans (hb7.mono HB6.out.size))
        have HO7 := Hd.mk (own_below HO6.out hb7)
        have OG := Hd.mk ownG
        obtain ⟨w8, hcv8, hb8, C4⟩ := script_twoC w7 com
        have HB8 := Hd.mk (HB7.out.trans (hb8.mono HB7.out.size))
        have HO8 := Hd.mk (own_below HO7.out hb8)
        have OG8 := Hd.mk (own_below OG.out hb8)
        have C4 := Hd.mk C4
        rw [HK.out]
        clear hcv C3 ownG hRl hb7 hb8 HB6 HO6 OG HO7
        go_wp2_with fail
        with_reducible refine C4.out.mono ?_
        intro e w9 h9
        obtain ⟨v9, A9, c9, rfl, own9, hR9, hb9⟩ := h9
        obtain ⟨Ao, co, rfl, _, _⟩ := own_slice own9
        have HB9 := Hd.mk (HB8.out.trans (hb9.mono HB8.out.size))
        have HO9 := Hd.mk (own_below HO8.out hb9)
        have OG9 := Hd.mk (own_below OG8.out hb9)
        simp only [List.length_cons, List.length_nil]
        clear own9 hR9 hb9 C4 OG8 hcv8 HO8 HB8
        go_wp2
        go_loop [136] (fun i => ∃ j : Nat, j ≤ k ∧ i = .int .i64 j) (fun i => k - (intOf i).toNat)
        case atStart => exact ⟨0, by omega, rfl⟩
        case round =>
          obtain ⟨j, hj, rfl⟩ := hrel
          by_cases hjk : j < k
          · obtain ⟨g1, q1, hv1, _, hc1, _, _⟩ := own_at OG9.out j (by have := HKL.out; omega)
            obtain ⟨g2, q2, hv2, _, hc2, _, _⟩ := own_at HO9.out j (by have := HKL.out; omega)
            simp only [Value.slice.injEq] at hv1 hv2
            obtain ⟨rfl, _, _⟩ := hv1
            obtain ⟨rfl, _, _⟩ := hv2
            have hji : (j : Int) < k := by omega
            obtain ⟨X, hX⟩ : ∃ X, (strs Ls)[j]'(by have := HKL.out; omega) = .string X := by
              have hjl : j < Ls.length := by have := HK.out; omega
              exact ⟨T (Ls[j]).2, by simp [strs]⟩
            rw [hX] at hc1 hc2
            clear hX
            go_wp2
            go_round
            case rel => exact ⟨j + 1, by omega, by go_num⟩
            case measure => simp [intOf]; omega
          · obtain rfl : j = k := by omega
            go_wp2
            go_ret
            exact ⟨rfl, HB9.out⟩
theorem FnScriptComments (a0 : Option Addr) (len0 cap0 : Nat) (z0 : List ByteArray) (a1 : Option Addr) (len1 cap1 : Nat) (z1 : List ByteArray) (com : Bool) (W : World) (w0 : StrsIn W a0 len0 cap0 z0) (w1 : StrsIn W a1 len1 cap1 z1) :
    Calls Tryd.prog 5 #[.slice a0 len0 cap0, .slice a1 len1 cap1, .bool com] W fun e w' => e = .returned (.bool true) ∧ Below W.heap.size W w' :=
  comments_walk w0.row w1.row w0.lens w1.lens w0.1 w1.1 w0.size w1.size
end Go.Proofs.YtfbdbbkodgijiaaDoor.Kb
