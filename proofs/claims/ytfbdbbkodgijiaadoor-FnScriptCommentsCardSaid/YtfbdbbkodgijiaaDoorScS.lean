/- FnScript: the loop that makes the text and what is wanted. (Written by mkscs.py.) -/
import Derived.Test.YtfbdbbkodgijiaaDoorScJ
import Derived.Test.YtfbdbbkodgijiaaDoorScL
namespace Go.Proofs.YtfbdbbkodgijiaaDoor.Kb
open Go Go.RowKit
set_option linter.unusedVariables false
set_option linter.unusedSimpArgs false
set_option maxHeartbeats 8000000
theorem encode_T (x : Nat) (h : x < 128) : Utf8.encode (x : Int) = T [x] := by
  unfold Utf8.encode T
  have hv : Utf8.valid (x : Int) = true := by unfold Utf8.valid; simp; omega
  simp [hv, h]
theorem flat_len (sep : Nat) : ∀ (L : List (List Nat × List Nat)), (∀ p ∈ L, p.1.length ≤ 100) → (flat sep L).length ≤ 101 * L.length
  | [], _ => by simp [flat]
  | p :: L, h => by
    have h1 := h p (by simp)
    have h2 := flat_len sep L (fun q hq => h q (by simp [hq]))
    simp [flat] at h2 ⊢
    omega
theorem flat_snoc (sep : Nat) (L : List (List Nat × List Nat)) (l t : List Nat) : flat sep (L ++ [(l, t)]) = flat sep L ++ (l ++ [sep]) := by simp [flat]
theorem strs_snoc (L : List (List Nat × List Nat)) (l t : List Nat) : strs (L ++ [(l, t)]) = strs L ++ [.string (T t)] := by simp [strs]
def Good (sg : Nat) (Ls : List (List Nat × List Nat)) : Prop := ∀ p ∈ Ls, Stmt sg false p.1 p.2 ∧ p.1.length ≤ 100
theorem good_snoc {sg : Nat} {Ls : List (List Nat × List Nat)} {l t : List Nat} (h : Good sg Ls) (hs : Stmt sg false l t) (hl : l.length ≤ 100) : Good sg (Ls ++ [(l, t)]) := fun p hp => by
  rcases List.mem_append.1 hp with h1 | h1
  · exact h p h1
  · simp at h1; subst h1; exact ⟨hs, hl⟩
/-- ScanScript over 'a;'. -/
theorem script_two (w : World) : ∃ w1, (convert 24 24 (.slice (some ⟨w.heap.size, 0, none⟩) 2 2)).run Tryd.prog (w.alloc (.cells #[.int .u8 97, .int .u8 59] 5)) = .ok (.slice (some ⟨w.heap.size, 0, none⟩) 2 2) w1 ∧ Below w.heap.size w w1 ∧
    Calls Tryd.prog 11 #[.slice (some ⟨w.heap.size, 0, none⟩) 2 2, .int .i32 59, .bool false] w1 fun e w' => Script w1 [([97], [97])] [] e w' := by
  obtain ⟨w1, hcv, hcell, hsz, hb⟩ := same_run (P := Tryd.prog) (T := 24) (t := 5) w #[.int .u8 97, .int .u8 59] 2 2 Tryd.underlying24 Tryd.underlying5
  have hrd : Rd w1 [] (some ⟨w.heap.size, 0, none⟩) 2 (nb [97, 59]) := ⟨rfl, by decide, fun j hj => by
    have hj2 : j < 2 := hj
    refine ⟨_, rfl, ?_, by rw [hsz]; exact Nat.lt_succ_self _, by simp⟩
    rcases (by omega : j = 0 ∨ j = 1) with rfl | rfl
    · show w1.cell? ⟨w.heap.size, 0, none⟩ = _
      simp [World.cell?, hcell, nb]
    · show w1.cell? ⟨w.heap.size, 1, none⟩ = _
      simp [World.cell?, hcell, nb]⟩
  exact ⟨w1, hcv, hb, scanScript (L := [([97], [97])]) (tail := []) (by decide) (fun p hp => by simp at hp; subst hp; exact two_stmt) (.inl rfl) rfl (by decide) hrd (by decide)⟩
def Sign (sg : Nat) : Prop := sg = 59 ∨ sg = 47 ∨ sg = 64 ∨ sg = 124
/-- What the first loop holds. -/
def Lq (w : World) (n sg : Nat) (s10 s11 s12 : Value) (W : World) : Prop :=
  ∃ Ls : List (List Nat × List Nat), s12 = .int .i64 Ls.length ∧ Ls.length ≤ n ∧ Ls.length ≤ 10 ∧ s10 = .string (T (flat sg Ls)) ∧ W.ownsRow w.heap.size 9 1 s11 Ls.length (strs Ls) ∧ Good sg Ls ∧ Below w.heap.size w W
set_option maxRecDepth 100000 in
theorem script_walk {A B : Option Addr} {n m cA cB : Nat} {ss qs : List ByteArray} {mk : Nat} {u : ByteArray} {w : World} (hA : StrRow w A n ss) (hB : StrRow w B m qs) (hn : n ≤ 9223372036854775807) (hm : m ≤ 9223372036854775807) (hcA : n ≤ cA) (hcB : m ≤ cB)
    (hsA : ∀ i, i < n → (ss.getD i ByteArray.empty).size ≤ 9223372036854775807) (hsB : ∀ i, i < m → (qs.getD i ByteArray.empty).size ≤ 9223372036854775807) (hk8 : mk < 256) (hu : u.size ≤ 9223372036854775807) :
    Calls Tryd.prog 4 #[.slice A n cA, .slice B m cB, .int .u8 mk, .string u] w fun e w' => e = .returned (.bool true) ∧ Below w.heap.size w w' := by
  have F1 := Hd.mk (fits11 (c := cA) hA hn hsA)
  have F2 := Hd.mk (fits11 (c := cB) hB hm hsB)
  have CSg := Hd.mk (fun W => scSign mk hk8 W)
  have RA := Hd.mk hA; have RB := Hd.mk hB
  clear hA hB hsA hsB hk8
  go_enter Tryd.func4, Tryd.ntmps4
  go_wp2_with fail
  with_reducible refine F1.out.mono ?_
  intro e w1 h1
  obtain ⟨b1, rfl, rfl, hb1⟩ := h1
  cases b1
  · go_wp2
    go_ret
    exact ⟨rfl, Below.refl _ _⟩
  have SA := Hd.mk (hb1 rfl)
  clear hb1 F1
  go_wp2_with fail
  with_reducible refine F2.out.mono ?_
  intro e w2 h2
  obtain ⟨b2, rfl, rfl, hb2⟩ := h2
  cases b2
  · go_wp2
    go_ret
    exact ⟨rfl, Below.refl _ _⟩
  have SB := Hd.mk (hb2 rfl)
  clear hb2 F2
  by_cases hbig : (2147483647 : Int) < u.size
  · go_wp2
    go_ret
    exact ⟨rfl, Below.refl _ _⟩
  go_wp2_with fail
  with_reducible refine (CSg.out _).mono ?_
  intro e w3 h3
  obtain ⟨sg, rfl, hsg, hb3⟩ := h3
  have HSG : Hd (Sign sg) := ⟨hsg⟩
  have P0 : Hd (Lq w2 n sg (.string ⟨#[]⟩) (.slice none 0 0) (.int .i64 0) w3) := ⟨[], rfl, by simp, by simp, rfl, World.ownsRow_nil _ _ _ _, fun p hp => by simp at hp, hb3⟩
  have hsgi : (sg : Int) < 128 := by omega
  clear hsg hb3 CSg
  go_wp2
  go_loopw [10, 11, 12] (fun s10 s11 s12 W => Lq w2 n sg s10 s11 s12 W) (fun _ _ i _ => n - (intOf i).toNat)
  case atStart => exact P0.out
  case round =>
    clear P0
    obtain ⟨Ls, rfl, hkn, hk10, rfl, hown, hgood, hbw⟩ := hrel
    obtain ⟨Aw, cw, rfl, _, _⟩ := own_slice hown
    have hfl := flat_len sg Ls (fun p hp => (hgood p hp).2)
    have hsz := T_size (flat sg Ls)
    obtain ⟨IN, hIN⟩ : ∃ IN, T (flat sg Ls) = IN := ⟨_, rfl⟩
    rw [hIN] at hsz ⊢
    obtain ⟨k, hk⟩ : ∃ k, Ls.length = k := ⟨_, rfl⟩
    rw [hk] at hkn hk10 hown hfl ⊢
    have HIN := Hd.mk hIN; have HK := Hd.mk hk; have HO := Hd.mk hown; have HG := Hd.mk hgood; have HB := Hd.mk hbw
    have hins : IN.size ≤ 1010 := by omega
    clear hIN hk hown hgood hbw hfl hsz
    by_cases hlt : k < n ∧ k < 10
    · obtain ⟨h1, h2⟩ := hlt
      obtain ⟨ax, hax, hx, _⟩ := (RA.out.below HB.out).at_ k h1
      have hui := SA.out.2 k h1
      obtain ⟨ui, hu1⟩ : ∃ ui, ss.getD k ByteArray.empty = ui := ⟨_, rfl⟩
      rw [hu1] at hx hui
      have h1i : (k : Int) < n := by omega
      have h2i : (k : Int) < 10 := by omega
      have C1 := Hd.mk (scPlain ui sg 60 (by have := HSG.out; unfold Sign at this; omega) (by decide) hui wr)
      rw [show ((60 : Nat) : Int) = 60 from rfl] at C1
      subst hax
      clear hu1 hui
      go_wp2_with fail
      with_reducible refine C1.out.mono ?_
      intro e w4 h4
      obtain ⟨l, rfl, hP, hl60, hb4⟩ := h4
      have HB4 := Hd.mk (HB.out.trans (hb4.mono HB.out.size))
      have HO4 := Hd.mk (own_below HO.out hb4)
      have HP := Hd.mk hP
      have C2 := Hd.mk (fun W => scStatement l hP.asc (by omega) W)
      have hsl := stm_len l
      have hsg2 := T_get (stm l) (stm_asc hP.asc).lt 0
      have hss := T_size (stm l)
      have hs1 := T_size l
      obtain ⟨S2, hS2⟩ : ∃ S2, T (stm l) = S2 := ⟨_, rfl⟩
      obtain ⟨S1, hS1⟩ : ∃ S1, T l = S1 := ⟨_, rfl⟩
      simp only [StrT, hS2, hS1] at C2
      rw [hS2] at hss
      rw [hS1] at hs1 ⊢
      have HS1 := Hd.mk hS1; have HS2 := Hd.mk hS2
      have h1s : S1.size ≤ 60 := by omega
      obtain ⟨z, hz⟩ : ∃ z, (stm l).length = z := ⟨_, rfl⟩
      clear hb4 hP C1 hx
      go_wp2_with fail
      with_reducible refine (C2.out _).mono ?_
      rintro e w5 ⟨rfl, hb5⟩
      have HB5 := Hd.mk (HB4.out.trans (hb5.mono HB4.out.size))
      have HO5 := Hd.mk (own_below HO4.out hb5)
      clear hb5 HB4 HO4 HB HO
      by_cases h0 : z = 0
      · have hl0 : stm l = [] := List.eq_nil_of_length_eq_zero (by omega)
        have hS20 : S2 = ⟨#[]⟩ := by rw [← hS2, hl0]; rfl
        subst hS20
        have PX := Hd.mk (prep_x HP.out (by have := HSG.out; unfold Sign at this; omega))
        obtain ⟨X, hX⟩ : ∃ X, (⟨#[120]⟩ : ByteArray) ++ S1 = X := ⟨_, rfl⟩
        have HX : Hd (T (120 :: l) = X) := ⟨by rw [← hX, ← HS1.out, show (⟨#[120]⟩ : ByteArray) = T [120] from rfl, T_append]; rfl⟩
        have hL61 : (120 :: l).length ≤ 61 := by simp; omega
        have hn120 : ¬ 9223372036854775807 < 1 + S1.size := by omega
        obtain ⟨l', hl'⟩ : ∃ l', 120 :: l = l' := ⟨_, rfl⟩
        rw [hl'] at PX HX hL61
        obtain ⟨W0, hW0⟩ : ∃ W0, w5 = W0 := ⟨_, rfl⟩
        rw [hW0] at HB5 HO5 ⊢
        clear hS2 hS1 hsg2 hss hs1 hsl hz h0 hl0 hl' hW0 hl60 C2
        have hxs : X.size = l'.length := by rw [← HX.out, T_size]
        have hX61 : X.size ≤ 61 := by omega
        clear hxs
        by_cases hqm : k < m
        · obtain ⟨ay, hay, hy, _⟩ := (RB.out.below HB5.out).at_ k hqm
          have hqi : (k : Int) < m := by omega
          have hqz := SB.out.2 k hqm
          obtain ⟨qi, hq1⟩ : ∃ qi, qs.getD k ByteArray.empty = qi := ⟨_, rfl⟩
          rw [hq1] at hy hqz
          have C3 := Hd.mk (scPlain qi 0 20 (by decide) (by decide) hqz W0)
          rw [show ((0 : Nat) : Int) = 0 from rfl, show ((20 : Nat) : Int) = 20 from rfl] at C3
          subst hay
          clear hq1 hqz
          go_wp2_with fail
          with_reducible refine C3.out.mono ?_
          intro e w7 h7
          obtain ⟨q, rfl, hQ, hq20, hb7⟩ := h7
          have HB7 := Hd.mk ((HB5.out.trans (hb7.mono HB5.out.size)).alloc (Nat.le_trans HB5.out.size hb7.size) (.cells #[.string ⟨#[39]⟩, .string ⟨#[34]⟩] 9))
          have HO7 := Hd.mk ((own_below HO5.out hb7).alloc (.cells #[.string ⟨#[39]⟩, .string ⟨#[34]⟩] 9))
          have HQ := Hd.mk hQ
          have hqs := T_size q
          obtain ⟨Q, hQT⟩ : ∃ Q, T q = Q := ⟨_, rfl⟩
          rw [hQT] at hqs ⊢
          have hQ20 : Q.size ≤ 20 := by omega
          have HSGN := HSG.out
          unfold Sign at HSGN
          obtain ⟨mc, MB, hmc, hMB, hpar⟩ : ∃ (mc : Nat) (MB : ByteArray), (mc = 39 ∨ mc = 34) ∧ T [mc] = MB ∧ (((Q.size : Int) % 2 = 0 ∧ MB = ⟨#[39]⟩) ∨ ((Q.size : Int) % 2 = 1 ∧ MB = ⟨#[34]⟩)) := by
            rcases (by omega : Q.size % 2 = 0 ∨ Q.size % 2 = 1) with h | h
            · exact ⟨39, ⟨#[39]⟩, .inl rfl, rfl, .inl ⟨by omega, rfl⟩⟩
            · exact ⟨34, ⟨#[34]⟩, .inr rfl, rfl, .inr ⟨by omega, rfl⟩⟩
          have hMBs : MB.size = 1 := by rw [← hMB, T_size]; rfl
          obtain ⟨M1, hM1⟩ : ∃ M1, (⟨#[32]⟩ : ByteArray) ++ MB = M1 := ⟨_, rfl⟩
          obtain ⟨M2, hM2⟩ : ∃ M2, M1 ++ Q = M2 := ⟨_, rfl⟩
          obtain ⟨M3, hM3⟩ : ∃ M3, M2 ++ MB = M3 := ⟨_, rfl⟩
          obtain ⟨M4, hM4⟩ : ∃ M4, M3 ++ (⟨#[32]⟩ : ByteArray) = M4 := ⟨_, rfl⟩
          obtain ⟨X2, hX2⟩ : ∃ X2, X ++ M4 = X2 := ⟨_, rfl⟩
          have z32 : (⟨#[32]⟩ : ByteArray).size = 1 := rfl
          have s1 : M1.size = 2 := by rw [← hM1, ByteArray.size_append]; omega
          have s2 : M2.size ≤ 22 := by rw [← hM2, ByteArray.size_append]; omega
          have s3 : M3.size ≤ 23 := by rw [← hM3, ByteArray.size_append]; omega
          have s4 : M4.size ≤ 24 := by rw [← hM4, ByteArray.size_append]; omega
          have HX2 : Hd (T (l' ++ 32 :: mc :: (q ++ [mc, 32])) = X2) := ⟨by
            rw [← hX2, ← hM4, ← hM3, ← hM2, ← hM1, ← hMB, ← hQT, ← HX.out, show (⟨#[32]⟩ : ByteArray) = T [32] from rfl]
            simp only [T_append]
            congr 1
            simp⟩
          have HST : Hd (Stmt sg false (l' ++ 32 :: mc :: (q ++ [mc, 32])) (stm (l' ++ 32 :: mc :: (q ++ [mc, 32])))) := ⟨stmt_quoted PX.out HQ.out hmc (by omega) false⟩
          have HLX : Hd ((l' ++ 32 :: mc :: (q ++ [mc, 32])).length ≤ 100) := ⟨by simp; omega⟩
          have hXb : X2.size ≤ 100 := by rw [← HX2.out, T_size]; exact HLX.out
          have HAX : Hd (Asc7 (l' ++ 32 :: mc :: (q ++ [mc, 32]))) := ⟨HST.out.asc⟩
          have n1 : ¬ 9223372036854775807 < 1 + MB.size := by omega
          have n2 : ¬ 9223372036854775807 < M1.size + Q.size := by omega
          have n3 : ¬ 9223372036854775807 < M2.size + MB.size := by omega
          have n4 : ¬ 9223372036854775807 < M3.size + 1 := by omega
          have n5 : ¬ 9223372036854775807 < X.size + M4.size := by omega
          obtain ⟨lx, hlx⟩ : ∃ lx, l' ++ 32 :: mc :: (q ++ [mc, 32]) = lx := ⟨_, rfl⟩
          rw [hlx] at HX2 HST HLX HAX
          clear hlx hQ hq20 hb7 hqs hQT hmc hMB C3 hy PX hL61 HSGN s1 s2 s3 s4 hMBs z32
          rcases hpar with ⟨hpar, rfl⟩ | ⟨hpar, rfl⟩
          all_goals
            have CT := Hd.mk (fun W => scStatement lx HAX.out (by have := HLX.out; omega) W)
            obtain ⟨R, hR⟩ : ∃ R, T (stm lx) = R := ⟨_, rfl⟩
            simp only [StrT, HX2.out, hR] at CT
            have HR := Hd.mk hR
            have hen := encode_T sg (by omega)
            obtain ⟨SG, hSG⟩ : ∃ SG, T [sg] = SG := ⟨_, rfl⟩
            rw [hSG] at hen
            have hsgs : SG.size = 1 := by rw [← hSG, T_size]; rfl
            obtain ⟨Y, hY⟩ : ∃ Y, X2 ++ SG = Y := ⟨_, rfl⟩
            obtain ⟨Z, hZ⟩ : ∃ Z, IN ++ Y = Z := ⟨_, rfl⟩
            have hy1 : ¬ 9223372036854775807 < X2.size + SG.size := by omega
            have hYs : Y.size ≤ 101 := by rw [← hY, ByteArray.size_append]; omega
            have hz1 : ¬ 9223372036854775807 < IN.size + Y.size := by omega
            have hsw : IntKind.i32.wrap (sg : Int) = (sg : Int) := by rw [IntKind.wrap_i32]; omega
            have HZ : Hd (Z = T (flat sg (Ls ++ [(lx, stm lx)]))) := ⟨by rw [← hZ, ← hY, ← hSG, ← HIN.out, ← HX2.out, T_append, T_append, flat_snoc]⟩
            obtain ⟨j0, hj, hy0', hy1', hy2'⟩ := info_of infoStr
            have J := Hd.mk (And.intro hj (And.intro hy0' (And.intro hy1' hy2')))
            clear hR hSG hj hy0' hy1' hy2' hYs hsgs
            go_wp2_with fail
            with_reducible refine (CT.out _).mono ?_
            rintro e w8 ⟨rfl, hb8⟩
            have HB8 := Hd.mk ((HB7.out.trans (hb8.mono HB7.out.size)).alloc (Nat.le_trans HB7.out.size hb8.size) (.cells #[.string R] 9))
            have HO8 := Hd.mk ((own_below HO7.out hb8).alloc (.cells #[.string R] 9))
            have hh := Hd.mk (Blk.new w8 #[.string R] 9)
            clear hb8 HB7 HO7 CT
            go_wp2_with (at_builtin; refine wpList_append_one rfl (.tmp 91) (.tmp 94) 28 rfl Tryd.underlying28 J.out.1 J.out.2.1 J.out.2.2.1 J.out.2.2.2 rfl rfl HO8.out (by simp [Act.eval, Act.put]) hh.out rfl (by unfold maxLen; omega) (by omega) HB8.out.size ?_)
            intro v9 w9 own9 g9
            obtain ⟨A9, c9, rfl, _, _⟩ := own_slice own9
            have HO9 := Hd.mk own9
            have HB9 := Hd.mk (below_grown_own HB8.out HO8.out HB8.out.size (Nat.le_refl _) g9)
            clear own9 g9 hh
            go_wp2
            go_roundw
            case rel =>
              have e1 : (Ls ++ [(lx, stm lx)]).length = k + 1 := by have := HK.out; simp; omega
              refine ⟨Ls ++ [(lx, stm lx)], by rw [e1]; go_num, by rw [e1]; omega, by rw [e1]; omega, by rw [HZ.out], ?_, good_snoc HG.out HST.out HLX.out, HB9.out⟩
              rw [e1, strs_snoc, HR.out]
              exact HO9.out
            case measure => simp [intOf]; omega
        · have hqi : ¬ (k : Int) < m := by omega
          have HST : Hd (Stmt sg false l' (stm l')) := ⟨PX.out.stm false⟩
          have HLX : Hd (l'.length ≤ 100) := ⟨by omega⟩
          have HAX : Hd (Asc7 l') := ⟨PX.out.asc⟩
          have hXb : X.size ≤ 100 := by omega
          clear hL61 hX61 PX
          have CT := Hd.mk (fun W => scStatement l' HAX.out (by have := HLX.out; omega) W)
          obtain ⟨R, hR⟩ : ∃ R, T (stm l') = R := ⟨_, rfl⟩
          simp only [StrT, HX.out, hR] at CT
          have HR := Hd.mk hR
          have hen := encode_T sg (by omega)
          obtain ⟨SG, hSG⟩ : ∃ SG, T [sg] = SG := ⟨_, rfl⟩
          rw [hSG] at hen
          have hsgs : SG.size = 1 := by rw [← hSG, T_size]; rfl
          obtain ⟨Y, hY⟩ : ∃ Y, X ++ SG = Y := ⟨_, rfl⟩
          obtain ⟨Z, hZ⟩ : ∃ Z, IN ++ Y = Z := ⟨_, rfl⟩
          have hy1 : ¬ 9223372036854775807 < X.size + SG.size := by omega
          have hYs : Y.size ≤ 101 := by rw [← hY, ByteArray.size_append]; omega
          have hz1 : ¬ 9223372036854775807 < IN.size + Y.size := by omega
          have hsw : IntKind.i32.wrap (sg : Int) = (sg : Int) := by rw [IntKind.wrap_i32]; omega
          have HZ : Hd (Z = T (flat sg (Ls ++ [(l', stm l')]))) := ⟨by rw [← hZ, ← hY, ← hSG, ← HIN.out, ← HX.out, T_append, T_append, flat_snoc]⟩
          obtain ⟨j0, hj, hy0', hy1', hy2'⟩ := info_of infoStr
          have J := Hd.mk (And.intro hj (And.intro hy0' (And.intro hy1' hy2')))
          clear hR hSG hj hy0' hy1' hy2' hYs hsgs
          go_wp2_with fail
          with_reducible refine (CT.out _).mono ?_
          rintro e w8 ⟨rfl, hb8⟩
          have HB8 := Hd.mk ((HB5.out.trans (hb8.mono HB5.out.size)).alloc (Nat.le_trans HB5.out.size hb8.size) (.cells #[.string R] 9))
          have HO8 := Hd.mk ((own_below HO5.out hb8).alloc (.cells #[.string R] 9))
          have hh := Hd.mk (Blk.new w8 #[.string R] 9)
          clear hb8 HB5 HO5 CT
          go_wp2_with (at_builtin; refine wpList_append_one rfl (.tmp 91) (.tmp 94) 28 rfl Tryd.underlying28 J.out.1 J.out.2.1 J.out.2.2.1 J.out.2.2.2 rfl rfl HO8.out (by simp [Act.eval, Act.put]) hh.out rfl (by unfold maxLen; omega) (by omega) HB8.out.size ?_)
          intro v9 w9 own9 g9
          obtain ⟨A9, c9, rfl, _, _⟩ := own_slice own9
          have HO9 := Hd.mk own9
          have HB9 := Hd.mk (below_grown_own HB8.out HO8.out HB8.out.size (Nat.le_refl _) g9)
          clear own9 g9 hh
          go_wp2
          go_roundw
          case rel =>
            have e1 : (Ls ++ [(l', stm l')]).length = k + 1 := by have := HK.out; simp; omega
            refine ⟨Ls ++ [(l', stm l')], by rw [e1]; go_num, by rw [e1]; omega, by rw [e1]; omega, by rw [HZ.out], ?_, good_snoc HG.out HST.out HLX.out, HB9.out⟩
            rw [e1, strs_snoc, HR.out]
            exact HO9.out
          case measure => simp [intOf]; omega
      · obtain ⟨c, hc⟩ : ∃ c, (stm l)[0]'(by omega) = c := ⟨_, rfl⟩
        have hszz : 0 < S2.size := by omega
        have hg : (S2[0]'hszz).toNat = c := by
          have := hsg2 (by omega) (by rw [T_size]; omega)
          rw [hc] at this
          subst hS2
          exact this
        have hnl := toList_ne hszz
        have hie : S2.toList.isEmpty = false := by
          cases h : S2.toList with
          | nil => exact absurd h hnl
          | cons a b => rfl
        by_cases h45 : c = 45
        · have PX := Hd.mk (prep_x HP.out (by have := HSG.out; unfold Sign at this; omega))
          obtain ⟨X, hX⟩ : ∃ X, (⟨#[120]⟩ : ByteArray) ++ S1 = X := ⟨_, rfl⟩
          have HX : Hd (T (120 :: l) = X) := ⟨by rw [← hX, ← HS1.out, show (⟨#[120]⟩ : ByteArray) = T [120] from rfl, T_append]; rfl⟩
          have hL61 : (120 :: l).length ≤ 61 := by simp; omega
          have hn120 : ¬ 9223372036854775807 < 1 + S1.size := by omega
          obtain ⟨l', hl'⟩ : ∃ l', 120 :: l = l' := ⟨_, rfl⟩
          rw [hl'] at PX HX hL61
          subst h45
          clear hS2 hS1 hsg2 hss hs1 hsl hz h0 hl' hl60 hc
          go_wp2_with fail
          with_reducible refine (C2.out _).mono ?_
          rintro e w6 ⟨rfl, hb6⟩
          have HB6 := Hd.mk (HB5.out.trans (hb6.mono HB5.out.size))
          have HO6 := Hd.mk (own_below HO5.out hb6)
          obtain ⟨W0, hW0⟩ : ∃ W0, w6 = W0 := ⟨_, rfl⟩
          rw [hW0] at HB6 HO6 ⊢
          have HB5 := HB6; have HO5 := HO6
          clear hb6 hW0 C2 HB6 HO6
          have hxs : X.size = l'.length := by rw [← HX.out, T_size]
          have hX61 : X.size ≤ 61 := by omega
          clear hxs
          by_cases hqm : k < m
          · obtain ⟨ay, hay, hy, _⟩ := (RB.out.below HB5.out).at_ k hqm
            have hqi : (k : Int) < m := by omega
            have hqz := SB.out.2 k hqm
            obtain ⟨qi, hq1⟩ : ∃ qi, qs.getD k ByteArray.empty = qi := ⟨_, rfl⟩
            rw [hq1] at hy hqz
            have C3 := Hd.mk (scPlain qi 0 20 (by decide) (by decide) hqz W0)
            rw [show ((0 : Nat) : Int) = 0 from rfl, show ((20 : Nat) : Int) = 20 from rfl] at C3
            subst hay
            clear hq1 hqz
            go_wp2_with fail
            with_reducible refine C3.out.mono ?_
            intro e w7 h7
            obtain ⟨q, rfl, hQ, hq20, hb7⟩ := h7
            have HB7 := Hd.mk ((HB5.out.trans (hb7.mono HB5.out.size)).alloc (Nat.le_trans HB5.out.size hb7.size) (.cells #[.string ⟨#[39]⟩, .string ⟨#[34]⟩] 9))
            have HO7 := Hd.mk ((own_below HO5.out hb7).alloc (.cells #[.string ⟨#[39]⟩, .string ⟨#[34]⟩] 9))
            have HQ := Hd.mk hQ
            have hqs := T_size q
            obtain ⟨Q, hQT⟩ : ∃ Q, T q = Q := ⟨_, rfl⟩
            rw [hQT] at hqs ⊢
            have hQ20 : Q.size ≤ 20 := by omega
            have HSGN := HSG.out
            unfold Sign at HSGN
            obtain ⟨mc, MB, hmc, hMB, hpar⟩ : ∃ (mc : Nat) (MB : ByteArray), (mc = 39 ∨ mc = 34) ∧ T [mc] = MB ∧ (((Q.size : Int) % 2 = 0 ∧ MB = ⟨#[39]⟩) ∨ ((Q.size : Int) % 2 = 1 ∧ MB = ⟨#[34]⟩)) := by
              rcases (by omega : Q.size % 2 = 0 ∨ Q.size % 2 = 1) with h | h
              · exact ⟨39, ⟨#[39]⟩, .inl rfl, rfl, .inl ⟨by omega, rfl⟩⟩
              · exact ⟨34, ⟨#[34]⟩, .inr rfl, rfl, .inr ⟨by omega, rfl⟩⟩
            have hMBs : MB.size = 1 := by rw [← hMB, T_size]; rfl
            obtain ⟨M1, hM1⟩ : ∃ M1, (⟨#[32]⟩ : ByteArray) ++ MB = M1 := ⟨_, rfl⟩
            obtain ⟨M2, hM2⟩ : ∃ M2, M1 ++ Q = M2 := ⟨_, rfl⟩
            obtain ⟨M3, hM3⟩ : ∃ M3, M2 ++ MB = M3 := ⟨_, rfl⟩
            obtain ⟨M4, hM4⟩ : ∃ M4, M3 ++ (⟨#[32]⟩ : ByteArray) = M4 := ⟨_, rfl⟩
            obtain ⟨X2, hX2⟩ : ∃ X2, X ++ M4 = X2 := ⟨_, rfl⟩
            have z32 : (⟨#[32]⟩ : ByteArray).size = 1 := rfl
            have s1 : M1.size = 2 := by rw [← hM1, ByteArray.size_append]; omega
            have s2 : M2.size ≤ 22 := by rw [← hM2, ByteArray.size_append]; omega
            have s3 : M3.size ≤ 23 := by rw [← hM3, ByteArray.size_append]; omega
            have s4 : M4.size ≤ 24 := by rw [← hM4, ByteArray.size_append]; omega
            have HX2 : Hd (T (l' ++ 32 :: mc :: (q ++ [mc, 32])) = X2) := ⟨by
              rw [← hX2, ← hM4, ← hM3, ← hM2, ← hM1, ← hMB, ← hQT, ← HX.out, show (⟨#[32]⟩ : ByteArray) = T [32] from rfl]
              simp only [T_append]
              congr 1
              simp⟩
            have HST : Hd (Stmt sg false (l' ++ 32 :: mc :: (q ++ [mc, 32])) (stm (l' ++ 32 :: mc :: (q ++ [mc, 32])))) := ⟨stmt_quoted PX.out HQ.out hmc (by omega) false⟩
            have HLX : Hd ((l' ++ 32 :: mc :: (q ++ [mc, 32])).length ≤ 100) := ⟨by simp; omega⟩
            have hXb : X2.size ≤ 100 := by rw [← HX2.out, T_size]; exact HLX.out
            have HAX : Hd (Asc7 (l' ++ 32 :: mc :: (q ++ [mc, 32]))) := ⟨HST.out.asc⟩
            have n1 : ¬ 9223372036854775807 < 1 + MB.size := by omega
            have n2 : ¬ 9223372036854775807 < M1.size + Q.size := by omega
            have n3 : ¬ 9223372036854775807 < M2.size + MB.size := by omega
            have n4 : ¬ 9223372036854775807 < M3.size + 1 := by omega
            have n5 : ¬ 9223372036854775807 < X.size + M4.size := by omega
            obtain ⟨lx, hlx⟩ : ∃ lx, l' ++ 32 :: mc :: (q ++ [mc, 32]) = lx := ⟨_, rfl⟩
            rw [hlx] at HX2 HST HLX HAX
            clear hlx hQ hq20 hb7 hqs hQT hmc hMB C3 hy PX hL61 HSGN s1 s2 s3 s4 hMBs z32
            rcases hpar with ⟨hpar, rfl⟩ | ⟨hpar, rfl⟩
            all_goals
              have CT := Hd.mk (fun W => scStatement lx HAX.out (by have := HLX.out; omega) W)
              obtain ⟨R, hR⟩ : ∃ R, T (stm lx) = R := ⟨_, rfl⟩
              simp only [StrT, HX2.out, hR] at CT
              have HR := Hd.mk hR
              have hen := encode_T sg (by omega)
              obtain ⟨SG, hSG⟩ : ∃ SG, T [sg] = SG := ⟨_, rfl⟩
              rw [hSG] at hen
              have hsgs : SG.size = 1 := by rw [← hSG, T_size]; rfl
              obtain ⟨Y, hY⟩ : ∃ Y, X2 ++ SG = Y := ⟨_, rfl⟩
              obtain ⟨Z, hZ⟩ : ∃ Z, IN ++ Y = Z := ⟨_, rfl⟩
              have hy1 : ¬ 9223372036854775807 < X2.size + SG.size := by omega
              have hYs : Y.size ≤ 101 := by rw [← hY, ByteArray.size_append]; omega
              have hz1 : ¬ 9223372036854775807 < IN.size + Y.size := by omega
              have hsw : IntKind.i32.wrap (sg : Int) = (sg : Int) := by rw [IntKind.wrap_i32]; omega
              have HZ : Hd (Z = T (flat sg (Ls ++ [(lx, stm lx)]))) := ⟨by rw [← hZ, ← hY, ← hSG, ← HIN.out, ← HX2.out, T_append, T_append, flat_snoc]⟩
              obtain ⟨j0, hj, hy0', hy1', hy2'⟩ := info_of infoStr
              have J := Hd.mk (And.intro hj (And.intro hy0' (And.intro hy1' hy2')))
              clear hR hSG hj hy0' hy1' hy2' hYs hsgs
              go_wp2_with fail
              with_reducible refine (CT.out _).mono ?_
              rintro e w8 ⟨rfl, hb8⟩
              have HB8 := Hd.mk ((HB7.out.trans (hb8.mono HB7.out.size)).alloc (Nat.le_trans HB7.out.size hb8.size) (.cells #[.string R] 9))
              have HO8 := Hd.mk ((own_below HO7.out hb8).alloc (.cells #[.string R] 9))
              have hh := Hd.mk (Blk.new w8 #[.string R] 9)
              clear hb8 HB7 HO7 CT
              go_wp2_with (at_builtin; refine wpList_append_one rfl (.tmp 91) (.tmp 94) 28 rfl Tryd.underlying28 J.out.1 J.out.2.1 J.out.2.2.1 J.out.2.2.2 rfl rfl HO8.out (by simp [Act.eval, Act.put]) hh.out rfl (by unfold maxLen; omega) (by omega) HB8.out.size ?_)
              intro v9 w9 own9 g9
              obtain ⟨A9, c9, rfl, _, _⟩ := own_slice own9
              have HO9 := Hd.mk own9
              have HB9 := Hd.mk (below_grown_own HB8.out HO8.out HB8.out.size (Nat.le_refl _) g9)
              clear own9 g9 hh
              go_wp2
              go_roundw
              case rel =>
                have e1 : (Ls ++ [(lx, stm lx)]).length = k + 1 := by have := HK.out; simp; omega
                refine ⟨Ls ++ [(lx, stm lx)], by rw [e1]; go_num, by rw [e1]; omega, by rw [e1]; omega, by rw [HZ.out], ?_, good_snoc HG.out HST.out HLX.out, HB9.out⟩
                rw [e1, strs_snoc, HR.out]
                exact HO9.out
              case measure => simp [intOf]; omega
          · have hqi : ¬ (k : Int) < m := by omega
            have HST : Hd (Stmt sg false l' (stm l')) := ⟨PX.out.stm false⟩
            have HLX : Hd (l'.length ≤ 100) := ⟨by omega⟩
            have HAX : Hd (Asc7 l') := ⟨PX.out.asc⟩
            have hXb : X.size ≤ 100 := by omega
            clear hL61 hX61 PX
            have CT := Hd.mk (fun W => scStatement l' HAX.out (by have := HLX.out; omega) W)
            obtain ⟨R, hR⟩ : ∃ R, T (stm l') = R := ⟨_, rfl⟩
            simp only [StrT, HX.out, hR] at CT
            have HR := Hd.mk hR
            have hen := encode_T sg (by omega)
            obtain ⟨SG, hSG⟩ : ∃ SG, T [sg] = SG := ⟨_, rfl⟩
            rw [hSG] at hen
            have hsgs : SG.size = 1 := by rw [← hSG, T_size]; rfl
            obtain ⟨Y, hY⟩ : ∃ Y, X ++ SG = Y := ⟨_, rfl⟩
            obtain ⟨Z, hZ⟩ : ∃ Z, IN ++ Y = Z := ⟨_, rfl⟩
            have hy1 : ¬ 9223372036854775807 < X.size + SG.size := by omega
            have hYs : Y.size ≤ 101 := by rw [← hY, ByteArray.size_append]; omega
            have hz1 : ¬ 9223372036854775807 < IN.size + Y.size := by omega
            have hsw : IntKind.i32.wrap (sg : Int) = (sg : Int) := by rw [IntKind.wrap_i32]; omega
            have HZ : Hd (Z = T (flat sg (Ls ++ [(l', stm l')]))) := ⟨by rw [← hZ, ← hY, ← hSG, ← HIN.out, ← HX.out, T_append, T_append, flat_snoc]⟩
            obtain ⟨j0, hj, hy0', hy1', hy2'⟩ := info_of infoStr
            have J := Hd.mk (And.intro hj (And.intro hy0' (And.intro hy1' hy2')))
            clear hR hSG hj hy0' hy1' hy2' hYs hsgs
            go_wp2_with fail
            with_reducible refine (CT.out _).mono ?_
            rintro e w8 ⟨rfl, hb8⟩
            have HB8 := Hd.mk ((HB5.out.trans (hb8.mono HB5.out.size)).alloc (Nat.le_trans HB5.out.size hb8.size) (.cells #[.string R] 9))
            have HO8 := Hd.mk ((own_below HO5.out hb8).alloc (.cells #[.string R] 9))
            have hh := Hd.mk (Blk.new w8 #[.string R] 9)
            clear hb8 HB5 HO5 CT
            go_wp2_with (at_builtin; refine wpList_append_one rfl (.tmp 91) (.tmp 94) 28 rfl Tryd.underlying28 J.out.1 J.out.2.1 J.out.2.2.1 J.out.2.2.2 rfl rfl HO8.out (by simp [Act.eval, Act.put]) hh.out rfl (by unfold maxLen; omega) (by omega) HB8.out.size ?_)
            intro v9 w9 own9 g9
            obtain ⟨A9, c9, rfl, _, _⟩ := own_slice own9
            have HO9 := Hd.mk own9
            have HB9 := Hd.mk (below_grown_own HB8.out HO8.out HB8.out.size (Nat.le_refl _) g9)
            clear own9 g9 hh
            go_wp2
            go_roundw
            case rel =>
              have e1 : (Ls ++ [(l', stm l')]).length = k + 1 := by have := HK.out; simp; omega
              refine ⟨Ls ++ [(l', stm l')], by rw [e1]; go_num, by rw [e1]; omega, by rw [e1]; omega, by rw [HZ.out], ?_, good_snoc HG.out HST.out HLX.out, HB9.out⟩
              rw [e1, strs_snoc, HR.out]
              exact HO9.out
            case measure => simp [intOf]; omega
        · have e45 : ((c : Int) == 45) = false := by simp; omega
          have PX := Hd.mk (prep_id HP.out (by omega) (by rw [hc]; exact h45))
          obtain ⟨X, rfl⟩ : ∃ X, X = S1 := ⟨_, rfl⟩
          have HX : Hd (T l = X) := ⟨HS1.out⟩
          have hL61 : l.length ≤ 61 := by omega
          obtain ⟨l', hl'⟩ : ∃ l', l = l' := ⟨_, rfl⟩
          rw [hl'] at PX HX hL61
          clear hS2 hS1 hsg2 hss hs1 hsl hz h0 hl' hl60 hc h45
          go_wp2_with fail
          with_reducible refine (C2.out _).mono ?_
          rintro e w6 ⟨rfl, hb6⟩
          have HB6 := Hd.mk (HB5.out.trans (hb6.mono HB5.out.size))
          have HO6 := Hd.mk (own_below HO5.out hb6)
          obtain ⟨W0, hW0⟩ : ∃ W0, w6 = W0 := ⟨_, rfl⟩
          rw [hW0] at HB6 HO6 ⊢
          have HB5 := HB6; have HO5 := HO6
          clear hb6 hW0 C2 HB6 HO6
          have hxs : X.size = l'.length := by rw [← HX.out, T_size]
          have hX61 : X.size ≤ 61 := by omega
          clear hxs
          by_cases hqm : k < m
          · obtain ⟨ay, hay, hy, _⟩ := (RB.out.below HB5.out).at_ k hqm
            have hqi : (k : Int) < m := by omega
            have hqz := SB.out.2 k hqm
            obtain ⟨qi, hq1⟩ : ∃ qi, qs.getD k ByteArray.empty = qi := ⟨_, rfl⟩
            rw [hq1] at hy hqz
            have C3 := Hd.mk (scPlain qi 0 20 (by decide) (by decide) hqz W0)
            rw [show ((0 : Nat) : Int) = 0 from rfl, show ((20 : Nat) : Int) = 20 from rfl] at C3
            subst hay
            clear hq1 hqz
            go_wp2_with fail
            with_reducible refine C3.out.mono ?_
            intro e w7 h7
            obtain ⟨q, rfl, hQ, hq20, hb7⟩ := h7
            have HB7 := Hd.mk ((HB5.out.trans (hb7.mono HB5.out.size)).alloc (Nat.le_trans HB5.out.size hb7.size) (.cells #[.string ⟨#[39]⟩, .string ⟨#[34]⟩] 9))
            have HO7 := Hd.mk ((own_below HO5.out hb7).alloc (.cells #[.string ⟨#[39]⟩, .string ⟨#[34]⟩] 9))
            have HQ := Hd.mk hQ
            have hqs := T_size q
            obtain ⟨Q, hQT⟩ : ∃ Q, T q = Q := ⟨_, rfl⟩
            rw [hQT] at hqs ⊢
            have hQ20 : Q.size ≤ 20 := by omega
            have HSGN := HSG.out
            unfold Sign at HSGN
            obtain ⟨mc, MB, hmc, hMB, hpar⟩ : ∃ (mc : Nat) (MB : ByteArray), (mc = 39 ∨ mc = 34) ∧ T [mc] = MB ∧ (((Q.size : Int) % 2 = 0 ∧ MB = ⟨#[39]⟩) ∨ ((Q.size : Int) % 2 = 1 ∧ MB = ⟨#[34]⟩)) := by
              rcases (by omega : Q.size % 2 = 0 ∨ Q.size % 2 = 1) with h | h
              · exact ⟨39, ⟨#[39]⟩, .inl rfl, rfl, .inl ⟨by omega, rfl⟩⟩
              · exact ⟨34, ⟨#[34]⟩, .inr rfl, rfl, .inr ⟨by omega, rfl⟩⟩
            have hMBs : MB.size = 1 := by rw [← hMB, T_size]; rfl
            obtain ⟨M1, hM1⟩ : ∃ M1, (⟨#[32]⟩ : ByteArray) ++ MB = M1 := ⟨_, rfl⟩
            obtain ⟨M2, hM2⟩ : ∃ M2, M1 ++ Q = M2 := ⟨_, rfl⟩
            obtain ⟨M3, hM3⟩ : ∃ M3, M2 ++ MB = M3 := ⟨_, rfl⟩
            obtain ⟨M4, hM4⟩ : ∃ M4, M3 ++ (⟨#[32]⟩ : ByteArray) = M4 := ⟨_, rfl⟩
            obtain ⟨X2, hX2⟩ : ∃ X2, X ++ M4 = X2 := ⟨_, rfl⟩
            have z32 : (⟨#[32]⟩ : ByteArray).size = 1 := rfl
            have s1 : M1.size = 2 := by rw [← hM1, ByteArray.size_append]; omega
            have s2 : M2.size ≤ 22 := by rw [← hM2, ByteArray.size_append]; omega
            have s3 : M3.size ≤ 23 := by rw [← hM3, ByteArray.size_append]; omega
            have s4 : M4.size ≤ 24 := by rw [← hM4, ByteArray.size_append]; omega
            have HX2 : Hd (T (l' ++ 32 :: mc :: (q ++ [mc, 32])) = X2) := ⟨by
              rw [← hX2, ← hM4, ← hM3, ← hM2, ← hM1, ← hMB, ← hQT, ← HX.out, show (⟨#[32]⟩ : ByteArray) = T [32] from rfl]
              simp only [T_append]
              congr 1
              simp⟩
            have HST : Hd (Stmt sg false (l' ++ 32 :: mc :: (q ++ [mc, 32])) (stm (l' ++ 32 :: mc :: (q ++ [mc, 32])))) := ⟨stmt_quoted PX.out HQ.out hmc (by omega) false⟩
            have HLX : Hd ((l' ++ 32 :: mc :: (q ++ [mc, 32])).length ≤ 100) := ⟨by simp; omega⟩
            have hXb : X2.size ≤ 100 := by rw [← HX2.out, T_size]; exact HLX.out
            have HAX : Hd (Asc7 (l' ++ 32 :: mc :: (q ++ [mc, 32]))) := ⟨HST.out.asc⟩
            have n1 : ¬ 9223372036854775807 < 1 + MB.size := by omega
            have n2 : ¬ 9223372036854775807 < M1.size + Q.size := by omega
            have n3 : ¬ 9223372036854775807 < M2.size + MB.size := by omega
            have n4 : ¬ 9223372036854775807 < M3.size + 1 := by omega
            have n5 : ¬ 9223372036854775807 < X.size + M4.size := by omega
            obtain ⟨lx, hlx⟩ : ∃ lx, l' ++ 32 :: mc :: (q ++ [mc, 32]) = lx := ⟨_, rfl⟩
            rw [hlx] at HX2 HST HLX HAX
            clear hlx hQ hq20 hb7 hqs hQT hmc hMB C3 hy PX hL61 HSGN s1 s2 s3 s4 hMBs z32
            rcases hpar with ⟨hpar, rfl⟩ | ⟨hpar, rfl⟩
            all_goals
              have CT := Hd.mk (fun W => scStatement lx HAX.out (by have := HLX.out; omega) W)
              obtain ⟨R, hR⟩ : ∃ R, T (stm lx) = R := ⟨_, rfl⟩
              simp only [StrT, HX2.out, hR] at CT
              have HR := Hd.mk hR
              have hen := encode_T sg (by omega)
              obtain ⟨SG, hSG⟩ : ∃ SG, T [sg] = SG := ⟨_, rfl⟩
              rw [hSG] at hen
              have hsgs : SG.size = 1 := by rw [← hSG, T_size]; rfl
              obtain ⟨Y, hY⟩ : ∃ Y, X2 ++ SG = Y := ⟨_, rfl⟩
              obtain ⟨Z, hZ⟩ : ∃ Z, IN ++ Y = Z := ⟨_, rfl⟩
              have hy1 : ¬ 9223372036854775807 < X2.size + SG.size := by omega
              have hYs : Y.size ≤ 101 := by rw [← hY, ByteArray.size_append]; omega
              have hz1 : ¬ 9223372036854775807 < IN.size + Y.size := by omega
              have hsw : IntKind.i32.wrap (sg : Int) = (sg : Int) := by rw [IntKind.wrap_i32]; omega
              have HZ : Hd (Z = T (flat sg (Ls ++ [(lx, stm lx)]))) := ⟨by rw [← hZ, ← hY, ← hSG, ← HIN.out, ← HX2.out, T_append, T_append, flat_snoc]⟩
              obtain ⟨j0, hj, hy0', hy1', hy2'⟩ := info_of infoStr
              have J := Hd.mk (And.intro hj (And.intro hy0' (And.intro hy1' hy2')))
              clear hR hSG hj hy0' hy1' hy2' hYs hsgs
              go_wp2_with fail
              with_reducible refine (CT.out _).mono ?_
              rintro e w8 ⟨rfl, hb8⟩
              have HB8 := Hd.mk ((HB7.out.trans (hb8.mono HB7.out.size)).alloc (Nat.le_trans HB7.out.size hb8.size) (.cells #[.string R] 9))
              have HO8 := Hd.mk ((own_below HO7.out hb8).alloc (.cells #[.string R] 9))
              have hh := Hd.mk (Blk.new w8 #[.string R] 9)
              clear hb8 HB7 HO7 CT
              go_wp2_with (at_builtin; refine wpList_append_one rfl (.tmp 91) (.tmp 94) 28 rfl Tryd.underlying28 J.out.1 J.out.2.1 J.out.2.2.1 J.out.2.2.2 rfl rfl HO8.out (by simp [Act.eval, Act.put]) hh.out rfl (by unfold maxLen; omega) (by omega) HB8.out.size ?_)
              intro v9 w9 own9 g9
              obtain ⟨A9, c9, rfl, _, _⟩ := own_slice own9
              have HO9 := Hd.mk own9
              have HB9 := Hd.mk (below_grown_own HB8.out HO8.out HB8.out.size (Nat.le_refl _) g9)
              clear own9 g9 hh
              go_wp2
              go_roundw
              case rel =>
                have e1 : (Ls ++ [(lx, stm lx)]).length = k + 1 := by have := HK.out; simp; omega
                refine ⟨Ls ++ [(lx, stm lx)], by rw [e1]; go_num, by rw [e1]; omega, by rw [e1]; omega, by rw [HZ.out], ?_, good_snoc HG.out HST.out HLX.out, HB9.out⟩
                rw [e1, strs_snoc, HR.out]
                exact HO9.out
              case measure => simp [intOf]; omega
          · have hqi : ¬ (k : Int) < m := by omega
            have HST : Hd (Stmt sg false l' (stm l')) := ⟨PX.out.stm false⟩
            have HLX : Hd (l'.length ≤ 100) := ⟨by omega⟩
            have HAX : Hd (Asc7 l') := ⟨PX.out.asc⟩
            have hXb : X.size ≤ 100 := by omega
            clear hL61 hX61 PX
            have CT := Hd.mk (fun W => scStatement l' HAX.out (by have := HLX.out; omega) W)
            obtain ⟨R, hR⟩ : ∃ R, T (stm l') = R := ⟨_, rfl⟩
            simp only [StrT, HX.out, hR] at CT
            have HR := Hd.mk hR
            have hen := encode_T sg (by omega)
            obtain ⟨SG, hSG⟩ : ∃ SG, T [sg] = SG := ⟨_, rfl⟩
            rw [hSG] at hen
            have hsgs : SG.size = 1 := by rw [← hSG, T_size]; rfl
            obtain ⟨Y, hY⟩ : ∃ Y, X ++ SG = Y := ⟨_, rfl⟩
            obtain ⟨Z, hZ⟩ : ∃ Z, IN ++ Y = Z := ⟨_, rfl⟩
            have hy1 : ¬ 9223372036854775807 < X.size + SG.size := by omega
            have hYs : Y.size ≤ 101 := by rw [← hY, ByteArray.size_append]; omega
            have hz1 : ¬ 9223372036854775807 < IN.size + Y.size := by omega
            have hsw : IntKind.i32.wrap (sg : Int) = (sg : Int) := by rw [IntKind.wrap_i32]; omega
            have HZ : Hd (Z = T (flat sg (Ls ++ [(l', stm l')]))) := ⟨by rw [← hZ, ← hY, ← hSG, ← HIN.out, ← HX.out, T_append, T_append, flat_snoc]⟩
            obtain ⟨j0, hj, hy0', hy1', hy2'⟩ := info_of infoStr
            have J := Hd.mk (And.intro hj (And.intro hy0' (And.intro hy1' hy2')))
            clear hR hSG hj hy0' hy1' hy2' hYs hsgs
            go_wp2_with fail
            with_reducible refine (CT.out _).mono ?_
            rintro e w8 ⟨rfl, hb8⟩
            have HB8 := Hd.mk ((HB5.out.trans (hb8.mono HB5.out.size)).alloc (Nat.le_trans HB5.out.size hb8.size) (.cells #[.string R] 9))
            have HO8 := Hd.mk ((own_below HO5.out hb8).alloc (.cells #[.string R] 9))
            have hh := Hd.mk (Blk.new w8 #[.string R] 9)
            clear hb8 HB5 HO5 CT
            go_wp2_with (at_builtin; refine wpList_append_one rfl (.tmp 91) (.tmp 94) 28 rfl Tryd.underlying28 J.out.1 J.out.2.1 J.out.2.2.1 J.out.2.2.2 rfl rfl HO8.out (by simp [Act.eval, Act.put]) hh.out rfl (by unfold maxLen; omega) (by omega) HB8.out.size ?_)
            intro v9 w9 own9 g9
            obtain ⟨A9, c9, rfl, _, _⟩ := own_slice own9
            have HO9 := Hd.mk own9
            have HB9 := Hd.mk (below_grown_own HB8.out HO8.out HB8.out.size (Nat.le_refl _) g9)
            clear own9 g9 hh
            go_wp2
            go_roundw
            case rel =>
              have e1 : (Ls ++ [(l', stm l')]).length = k + 1 := by have := HK.out; simp; omega
              refine ⟨Ls ++ [(l', stm l')], by rw [e1]; go_num, by rw [e1]; omega, by rw [e1]; omega, by rw [HZ.out], ?_, good_snoc HG.out HST.out HLX.out, HB9.out⟩
              rw [e1, strs_snoc, HR.out]
              exact HO9.out
            case measure => simp [intOf]; omega
    · have hout : (k < n ∧ ¬ (k : Int) < 10) ∨ ¬ (k : Int) < n := by omega
      have hu2 : u.size ≤ 2147483647 := by omega
      have hw32 : IntKind.i32.wrap (sg : Int) = (sg : Int) := by rw [IntKind.wrap_i32]; omega
      have C1 := Hd.mk (scPlain u sg 30 (by have := HSG.out; unfold Sign at this; omega) (by decide) hu2 wr)
      rw [show ((30 : Nat) : Int) = 30 from rfl] at C1
      rcases hout with ⟨h1, h10⟩ | h1
      all_goals
        first | (have h1i : (k : Int) < n := by omega) | skip
        go_wp2_with fail
        with_reducible refine C1.out.mono ?_
        intro e w4 h4
        obtain ⟨tl, rfl, hP, hl30, hb4⟩ := h4
        have HB4 := Hd.mk (HB.out.trans (hb4.mono HB.out.size))
        have HO4 := Hd.mk (own_below HO.out hb4)
        have HP := Hd.mk hP
        have C2 := Hd.mk (fun W => scStatement tl hP.asc (by omega) W)
        have hts := T_size tl
        obtain ⟨TL, hTL⟩ : ∃ TL, T tl = TL := ⟨_, rfl⟩
        rw [hTL] at hts ⊢
        simp only [StrT, hTL] at C2
        clear hb4 hP C1
        by_cases ht0 : tl = []
        · subst ht0
          have hT0 : TL = ⟨#[]⟩ := by rw [← hTL]; rfl
          subst hT0
          obtain ⟨W0, hW0⟩ : ∃ W0, w4 = W0 := ⟨_, rfl⟩
          rw [hW0] at HB4 HO4 ⊢
          have HT : Hd (([] : List Nat) = [] ∨ Left sg []) := ⟨.inl rfl⟩
          have HTZ : Hd (T ([] : List Nat) = ⟨#[]⟩) := ⟨rfl⟩
          clear hTL hts hl30 C2 hW0
          obtain ⟨D, hD⟩ : ∃ D, IN ++ (⟨#[]⟩ : ByteArray) = D := ⟨_, rfl⟩
          have hd1 : ¬ 9223372036854775807 < IN.size + 0 := by omega
          have HD : Hd (T (flat sg Ls ++ []) = D) := ⟨by rw [← hD, ← HIN.out, ← HTZ.out, T_append]⟩
          have hfl := flat_len sg Ls (fun p hp => (HG.out p hp).2)
          have hK := HK.out
          have hd256 : ∀ x ∈ flat sg Ls ++ [], x < 256 := by
            intro x hx
            rcases List.mem_append.1 hx with h | h
            · simp only [flat, List.mem_flatMap] at h
              obtain ⟨p, hp, hxp⟩ := h
              rcases List.mem_append.1 hxp with h | h
              · exact (HG.out p hp).1.asc.lt x h
              · simp at h; omega
            · simp at h
          obtain ⟨c5, w6, hcv, hrd, hb6⟩ := bytes_T W0 (flat sg Ls ++ []) hd256 (by simp; omega)
          rw [HD.out] at hcv
          have C3 := Hd.mk (scanScript (c := c5) (sep := sg) (com := false) (L := Ls) (tail := []) (by have := HSG.out; unfold Sign at this; omega) (fun p hp => (HG.out p hp).1) HT.out rfl (by omega) hrd (by simp; omega))
          obtain ⟨M, hM⟩ : ∃ M, (flat sg Ls ++ []).length = M := ⟨_, rfl⟩
          rw [hM] at hcv C3
          have HB6 := Hd.mk (HB4.out.trans (hb6.mono HB4.out.size))
          have HO6 := Hd.mk (own_below HO4.out hb6)
          clear hrd hb6 hd256 hM hfl hK
          go_wp2_with fail
          with_reducible refine C3.out.mono ?_
          intro e w7 h7
          obtain ⟨vo, Al, cl, rfl, ownG, hRl, hb7⟩ := h7
          obtain ⟨Ag, cg, rfl, _, _⟩ := own_slice ownG
          have HB7 := Hd.mk (HB6.out.trans (hb7.mono HB6.out.size))
          have HO7 := Hd.mk (own_below HO6.out hb7)
          have OG := Hd.mk ownG; have RL := Hd.mk hRl
          obtain ⟨w8, hcv8, hb8, C4⟩ := script_two w7
          have HB8 := Hd.mk (HB7.out.trans (hb8.mono HB7.out.size))
          have HO8 := Hd.mk (own_below HO7.out hb8)
          have OG8 := Hd.mk (own_below OG.out hb8); have RL8 := Hd.mk (RL.out.below hb8)
          have C4 := Hd.mk C4
          rw [HK.out]
          clear hcv C3 ownG hRl hb7 hb8 HB6 HO6 OG RL HO7
          go_wp2_with fail
          with_reducible refine C4.out.mono ?_
          intro e w9 h9
          obtain ⟨v9, A9, c9, rfl, own9, hR9, hb9⟩ := h9
          obtain ⟨Ao, co, rfl, _, _⟩ := own_slice own9
          have HB9 := Hd.mk (HB8.out.trans (hb9.mono HB8.out.size))
          have HO9 := Hd.mk (own_below HO8.out hb9)
          have OG9 := Hd.mk (own_below OG8.out hb9); have RL9 := RL8.out.below hb9
          have hcs := str_run (P := Tryd.prog) (src := 24) (dst := 9) (c := cl) Tryd.underlying24 Tryd.underlying5 Tryd.underlying9 RL9
          rw [T_nums, HTZ.out] at hcs
          try rw [List.length_nil] at hcs
          have HKL := Hd.mk (show (strs Ls).length = k by have := HK.out; simp [strs]; exact this)
          simp only [List.length_cons, List.length_nil]
          clear own9 hR9 hb9 C4 OG8 RL8 RL9 hcv8 HO8 HB8
          go_wp2
          go_loop [153] (fun i => ∃ j : Nat, j ≤ k ∧ i = .int .i64 j) (fun i => k - (intOf i).toNat)
          case atStart => exact ⟨0, by omega, rfl⟩
          case round =>
            obtain ⟨j, hj, rfl⟩ := hrel
            by_cases hjk : j < k
            · obtain ⟨g1, q1, hv1, _, hc1, _, _⟩ := own_at OG9.out j (by have := HKL.out; omega)
              obtain ⟨g2, q2, hv2, _, hc2, _, _⟩ := own_at HO9.out j (by have := HKL.out; omega)
              simp only [Value.slice.injEq] at hv1 hv2
              obtain ⟨rfl, _, _⟩ := hv1
              obtain ⟨rfl, _, _⟩ := hv2
              have hji : (j : Int) < k := by omega
              obtain ⟨X, hX⟩ : ∃ X, (strs Ls)[j]'(by have := HKL.out; omega) = .string X := by
                have hjl : j < Ls.length := by have := HK.out; omega
                exact ⟨T (Ls[j]).2, by simp [strs]⟩
              rw [hX] at hc1 hc2
              clear hX
              go_wp2
              go_round
              case rel => exact ⟨j + 1, by omega, by go_num⟩
              case measure => simp [intOf]; omega
            · obtain rfl : j = k := by omega
              go_wp2
              go_ret
              exact ⟨rfl, HB9.out⟩
        · have htl : 0 < TL.size := by rw [hts]; exact List.length_pos_iff.2 ht0
          have hnl := toList_ne htl
          have hie : TL.toList.isEmpty = false := by
            cases h : TL.toList with
            | nil => exact absurd h hnl
            | cons a b => rfl
          obtain ⟨S2, hS2⟩ : ∃ S2, T (stm tl) = S2 := ⟨_, rfl⟩
          simp only [hS2] at C2
          go_wp2_with fail
          with_reducible refine (C2.out _).mono ?_
          rintro e w5 ⟨rfl, hb5⟩
          have HB5 := Hd.mk (HB4.out.trans (hb5.mono HB4.out.size))
          have HO5 := Hd.mk (own_below HO4.out hb5)
          clear hb5 HB4 HO4 C2
          have HB4 := HB5; have HO4 := HO5
          obtain ⟨W0, hW0⟩ : ∃ W0, w5 = W0 := ⟨_, rfl⟩
          rw [hW0] at HB4 HO4 ⊢
          by_cases hs0 : stm tl = []
          · have hS20 : S2 = ⟨#[]⟩ := by rw [← hS2, hs0]; rfl
            subst hS20
            have HT : Hd (([] : List Nat) = [] ∨ Left sg []) := ⟨.inl rfl⟩
            have HTZ : Hd (T ([] : List Nat) = ⟨#[]⟩) := ⟨rfl⟩
            clear hTL hts hl30 hW0 hS2 hs0 HB5 HO5 ht0
            obtain ⟨D, hD⟩ : ∃ D, IN ++ (⟨#[]⟩ : ByteArray) = D := ⟨_, rfl⟩
            have hd1 : ¬ 9223372036854775807 < IN.size + 0 := by omega
            have HD : Hd (T (flat sg Ls ++ []) = D) := ⟨by rw [← hD, ← HIN.out, ← HTZ.out, T_append]⟩
            have hfl := flat_len sg Ls (fun p hp => (HG.out p hp).2)
            have hK := HK.out
            have hd256 : ∀ x ∈ flat sg Ls ++ [], x < 256 := by
              intro x hx
              rcases List.mem_append.1 hx with h | h
              · simp only [flat, List.mem_flatMap] at h
                obtain ⟨p, hp, hxp⟩ := h
                rcases List.mem_append.1 hxp with h | h
                · exact (HG.out p hp).1.asc.lt x h
                · simp at h; omega
              · simp at h
            obtain ⟨c5, w6, hcv, hrd, hb6⟩ := bytes_T W0 (flat sg Ls ++ []) hd256 (by simp; omega)
            rw [HD.out] at hcv
            have C3 := Hd.mk (scanScript (c := c5) (sep := sg) (com := false) (L := Ls) (tail := []) (by have := HSG.out; unfold Sign at this; omega) (fun p hp => (HG.out p hp).1) HT.out rfl (by omega) hrd (by simp; omega))
            obtain ⟨M, hM⟩ : ∃ M, (flat sg Ls ++ []).length = M := ⟨_, rfl⟩
            rw [hM] at hcv C3
            have HB6 := Hd.mk (HB4.out.trans (hb6.mono HB4.out.size))
            have HO6 := Hd.mk (own_below HO4.out hb6)
            clear hrd hb6 hd256 hM hfl hK
            go_wp2_with fail
            with_reducible refine C3.out.mono ?_
            intro e w7 h7
            obtain ⟨vo, Al, cl, rfl, ownG, hRl, hb7⟩ := h7
            obtain ⟨Ag, cg, rfl, _, _⟩ := own_slice ownG
            have HB7 := Hd.mk (HB6.out.trans (hb7.mono HB6.out.size))
            have HO7 := Hd.mk (own_below HO6.out hb7)
            have OG := Hd.mk ownG; have RL := Hd.mk hRl
            obtain ⟨w8, hcv8, hb8, C4⟩ := script_two w7
            have HB8 := Hd.mk (HB7.out.trans (hb8.mono HB7.out.size))
            have HO8 := Hd.mk (own_below HO7.out hb8)
            have OG8 := Hd.mk (own_below OG.out hb8); have RL8 := Hd.mk (RL.out.below hb8)
            have C4 := Hd.mk C4
            rw [HK.out]
            clear hcv C3 ownG hRl hb7 hb8 HB6 HO6 OG RL HO7
            go_wp2_with fail
            with_reducible refine C4.out.mono ?_
            intro e w9 h9
            obtain ⟨v9, A9, c9, rfl, own9, hR9, hb9⟩ := h9
            obtain ⟨Ao, co, rfl, _, _⟩ := own_slice own9
            have HB9 := Hd.mk (HB8.out.trans (hb9.mono HB8.out.size))
            have HO9 := Hd.mk (own_below HO8.out hb9)
            have OG9 := Hd.mk (own_below OG8.out hb9); have RL9 := RL8.out.below hb9
            have hcs := str_run (P := Tryd.prog) (src := 24) (dst := 9) (c := cl) Tryd.underlying24 Tryd.underlying5 Tryd.underlying9 RL9
            rw [T_nums, HTZ.out] at hcs
            try rw [List.length_nil] at hcs
            have HKL := Hd.mk (show (strs Ls).length = k by have := HK.out; simp [strs]; exact this)
            simp only [List.length_cons, List.length_nil]
            clear own9 hR9 hb9 C4 OG8 RL8 RL9 hcv8 HO8 HB8
            go_wp2
            go_loop [153] (fun i => ∃ j : Nat, j ≤ k ∧ i = .int .i64 j) (fun i => k - (intOf i).toNat)
            case atStart => exact ⟨0, by omega, rfl⟩
            case round =>
              obtain ⟨j, hj, rfl⟩ := hrel
              by_cases hjk : j < k
              · obtain ⟨g1, q1, hv1, _, hc1, _, _⟩ := own_at OG9.out j (by have := HKL.out; omega)
                obtain ⟨g2, q2, hv2, _, hc2, _, _⟩ := own_at HO9.out j (by have := HKL.out; omega)
                simp only [Value.slice.injEq] at hv1 hv2
                obtain ⟨rfl, _, _⟩ := hv1
                obtain ⟨rfl, _, _⟩ := hv2
                have hji : (j : Int) < k := by omega
                obtain ⟨X, hX⟩ : ∃ X, (strs Ls)[j]'(by have := HKL.out; omega) = .string X := by
                  have hjl : j < Ls.length := by have := HK.out; omega
                  exact ⟨T (Ls[j]).2, by simp [strs]⟩
                rw [hX] at hc1 hc2
                clear hX
                go_wp2
                go_round
                case rel => exact ⟨j + 1, by omega, by go_num⟩
                case measure => simp [intOf]; omega
              · obtain rfl : j = k := by omega
                go_wp2
                go_ret
                exact ⟨rfl, HB9.out⟩
          · have hsz2 : 0 < S2.size := by rw [← hS2, T_size]; exact List.length_pos_iff.2 hs0
            have hnl2 := toList_ne hsz2
            have hie2 : S2.toList.isEmpty = false := by
              cases h : S2.toList with
              | nil => exact absurd h hnl2
              | cons a b => rfl
            have HT : Hd (tl = [] ∨ Left sg tl) := ⟨.inr (stm_tail_left HP.out hs0)⟩
            have HTZ : Hd (T tl = TL) := ⟨hTL⟩
            have hTL30 : TL.size ≤ 30 := by omega
            have htl30 : tl.length ≤ 30 := hl30
            clear hTL hts hW0 hS2 hs0 HB5 HO5 ht0
            obtain ⟨D, hD⟩ : ∃ D, IN ++ TL = D := ⟨_, rfl⟩
            have hd1 : ¬ 9223372036854775807 < IN.size + TL.size := by omega
            have HD : Hd (T (flat sg Ls ++ tl) = D) := ⟨by rw [← hD, ← HIN.out, ← HTZ.out, T_append]⟩
            have hfl := flat_len sg Ls (fun p hp => (HG.out p hp).2)
            have hK := HK.out
            have hd256 : ∀ x ∈ flat sg Ls ++ tl, x < 256 := by
              intro x hx
              rcases List.mem_append.1 hx with h | h
              · simp only [flat, List.mem_flatMap] at h
                obtain ⟨p, hp, hxp⟩ := h
                rcases List.mem_append.1 hxp with h | h
                · exact (HG.out p hp).1.asc.lt x h
                · simp at h; omega
              · exact HP.out.asc.lt x h
            obtain ⟨c5, w6, hcv, hrd, hb6⟩ := bytes_T W0 (flat sg Ls ++ tl) hd256 (by simp; omega)
            rw [HD.out] at hcv
            have C3 := Hd.mk (scanScript (c := c5) (sep := sg) (com := false) (L := Ls) (tail := tl) (by have := HSG.out; unfold Sign at this; omega) (fun p hp => (HG.out p hp).1) HT.out rfl (by omega) hrd (by simp; omega))
            obtain ⟨M, hM⟩ : ∃ M, (flat sg Ls ++ tl).length = M := ⟨_, rfl⟩
            rw [hM] at hcv C3
            have HB6 := Hd.mk (HB4.out.trans (hb6.mono HB4.out.size))
            have HO6 := Hd.mk (own_below HO4.out hb6)
            clear hrd hb6 hd256 hM hfl hK
            go_wp2_with fail
            with_reducible refine C3.out.mono ?_
            intro e w7 h7
            obtain ⟨vo, Al, cl, rfl, ownG, hRl, hb7⟩ := h7
            obtain ⟨Ag, cg, rfl, _, _⟩ := own_slice ownG
            have HB7 := Hd.mk (HB6.out.trans (hb7.mono HB6.out.size))
            have HO7 := Hd.mk (own_below HO6.out hb7)
            have OG := Hd.mk ownG; have RL := Hd.mk hRl
            obtain ⟨w8, hcv8, hb8, C4⟩ := script_two w7
            have HB8 := Hd.mk (HB7.out.trans (hb8.mono HB7.out.size))
            have HO8 := Hd.mk (own_below HO7.out hb8)
            have OG8 := Hd.mk (own_below OG.out hb8); have RL8 := Hd.mk (RL.out.below hb8)
            have C4 := Hd.mk C4
            rw [HK.out]
            clear hcv C3 ownG hRl hb7 hb8 HB6 HO6 OG RL HO7
            go_wp2_with fail
            with_reducible refine C4.out.mono ?_
            intro e w9 h9
            obtain ⟨v9, A9, c9, rfl, own9, hR9, hb9⟩ := h9
            obtain ⟨Ao, co, rfl, _, _⟩ := own_slice own9
            have HB9 := Hd.mk (HB8.out.trans (hb9.mono HB8.out.size))
            have HO9 := Hd.mk (own_below HO8.out hb9)
            have OG9 := Hd.mk (own_below OG8.out hb9); have RL9 := RL8.out.below hb9
            have hcs := str_run (P := Tryd.prog) (src := 24) (dst := 9) (c := cl) Tryd.underlying24 Tryd.underlying5 Tryd.underlying9 RL9
            rw [T_nums, HTZ.out] at hcs
            try rw [List.length_nil] at hcs
            have HKL := Hd.mk (show (strs Ls).length = k by have := HK.out; simp [strs]; exact this)
            simp only [List.length_cons, List.length_nil]
            clear own9 hR9 hb9 C4 OG8 RL8 RL9 hcv8 HO8 HB8
            go_wp2
            go_loop [153] (fun i => ∃ j : Nat, j ≤ k ∧ i = .int .i64 j) (fun i => k - (intOf i).toNat)
            case atStart => exact ⟨0, by omega, rfl⟩
            case round =>
              obtain ⟨j, hj, rfl⟩ := hrel
              by_cases hjk : j < k
              · obtain ⟨g1, q1, hv1, _, hc1, _, _⟩ := own_at OG9.out j (by have := HKL.out; omega)
                obtain ⟨g2, q2, hv2, _, hc2, _, _⟩ := own_at HO9.out j (by have := HKL.out; omega)
                simp only [Value.slice.injEq] at hv1 hv2
                obtain ⟨rfl, _, _⟩ := hv1
                obtain ⟨rfl, _, _⟩ := hv2
                have hji : (j : Int) < k := by omega
                obtain ⟨X, hX⟩ : ∃ X, (strs Ls)[j]'(by have := HKL.out; omega) = .string X := by
                  have hjl : j < Ls.length := by have := HK.out; omega
                  exact ⟨T (Ls[j]).2, by simp [strs]⟩
                rw [hX] at hc1 hc2
                clear hX
                go_wp2
                go_round
                case rel => exact ⟨j + 1, by omega, by go_num⟩
                case measure => simp [intOf]; omega
              · obtain rfl : j = k := by omega
                go_wp2
                go_ret
                exact ⟨rfl, HB9.out⟩
/-- A []string as a row hands it over. -/
def StrsIn (W : World) (a : Option Addr) (len cap : Nat) (ss : List ByteArray) : Prop := len ≤ cap ∧ cap ≤ maxLen ∧ ss.length = len ∧ (∀ i, i < len → ∃ x, a = some x ∧ W.cell? (x.add i) = some (.string (ss.getD i ByteArray.empty))) ∧ ∀ s ∈ ss, s.size ≤ maxLen
theorem strsIn_nil (W : World) : StrsIn W none 0 0 [] := ⟨Nat.le_refl _, Nat.zero_le _, rfl, fun i hi => by omega, fun s hs => by simp at hs⟩
theorem strsIn_some {W : World} {x : Addr} {l c : Nat} {ss : List ByteArray} (hl : l ≤ c) (hm : c ≤ maxLen) (hz : ss.length = c) (hcell : ∀ i, i < ss.length → W.cell? (x.add i) = some (.string (ss.getD i ByteArray.empty))) (hws : ∀ s ∈ ss, s.size ≤ maxLen) : StrsIn W (some x) l c (ss.take l) := by
  refine ⟨hl, hm, by simp; omega, fun i hi => ⟨x, rfl, ?_⟩, fun s hs => hws s (List.mem_of_mem_take hs)⟩
  rw [hcell i (by omega)]
  simp [List.getD_eq_getElem?_getD, List.getElem?_take, hi]
theorem StrsIn.row {W : World} {a : Option Addr} {len cap : Nat} {ss : List ByteArray} (h : StrsIn W a len cap ss) : StrRow W a len ss :=
  ⟨h.2.2.1, fun i hi => by
    obtain ⟨x, h1, h2⟩ := h.2.2.2.1 i hi
    refine ⟨x, h1, h2, ?_⟩
    rcases Nat.lt_or_ge x.block W.heap.size with h3 | h3
    · exact h3
    · unfold World.cell? at h2
      rw [Array.getElem?_eq_none (by rw [add_block]; exact h3)] at h2
      cases h2⟩
theorem StrsIn.size {W : World} {a : Option Addr} {len cap : Nat} {ss : List ByteArray} (h : StrsIn W a len cap ss) (i : Nat) (hi : i < len) : (ss.getD i ByteArray.empty).size ≤ 9223372036854775807 := by
  have h3 := h.2.2.1
  have := h.2.2.2.2 (ss[i]'(by omega)) (List.getElem_mem _)
  unfold maxLen at this
  rw [List.getD_eq_getElem?_getD, List.getElem?_eq_getElem (by omega)]
  simpa using this
theorem StrsIn.lens {W : World} {a : Option Addr} {len cap : Nat} {ss : List ByteArray} (h : StrsIn W a len cap ss) : len ≤ 9223372036854775807 := by
  have h1 := h.1; have h2 := h.2.1
  unfold maxLen at h2
  omega
theorem FnScript (a0 : Option Addr) (len0 cap0 : Nat) (z0 : List ByteArray) (a1 : Option Addr) (len1 cap1 : Nat) (z1 : List ByteArray) (x : Int) (u : ByteArray) (W : World) (w0 : StrsIn W a0 len0 cap0 z0) (w1 : StrsIn W a1 len1 cap1 z1) (hx : (Lit.int .u8 x).wf = true) (hu : u.size ≤ 140737488351232) :
    Calls Tryd.prog 4 #[.slice a0 len0 cap0, .slice a1 len1 cap1, .int .u8 x, .string u] W fun e w' => e = .returned (.bool true) ∧ Below W.heap.size W w' := by
  have hb := bounds_u8 hx
  obtain ⟨k, rfl⟩ : ∃ k : Nat, x = k := ⟨x.toNat, by omega⟩
  exact script_walk w0.row w1.row w0.lens w1.lens w0.1 w1.1 w0.size w1.size (by omega) (by omega)
end Go.Proofs.YtfbdbbkodgijiaaDoor.Kb
