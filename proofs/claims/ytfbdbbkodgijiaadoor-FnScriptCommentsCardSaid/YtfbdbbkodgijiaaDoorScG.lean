/- Statements of a text: the specification's words: ScPlain, ScStatement. -/
import Derived.Test.YtfbdbbkodgijiaaDoorScF
namespace Go.Proofs.YtfbdbbkodgijiaaDoor.Kb
open Go Go.RowKit
set_option linter.unusedVariables false
set_option linter.unusedSimpArgs false
set_option maxHeartbeats 4000000
theorem and127 : ∀ y : Fin 256, bits .and .u8 ((y.1 : Nat) : Int) 127 = (((y.1 % 128 : Nat)) : Int) := by decide +kernel
set_option maxRecDepth 100000 in
theorem scSpace (x : Nat) (hx : x < 256) (w : World) : Calls Tryd.prog 12 #[.int .u8 x] w fun e w' => e = .returned (.bool (sp x)) ∧ w' = w := by
  rcases (by omega : x < 9 ∨ (9 ≤ x ∧ x ≤ 13) ∨ (13 < x ∧ x ≠ 32) ∨ x = 32) with h | ⟨h, h2⟩ | ⟨h, h2⟩ | rfl
  · have HX : Hd (sp x = false) := ⟨by unfold sp; simp; omega⟩
    have e1 : ¬ (9 : Int) ≤ x := by omega
    have e2 : ((x : Int) == 32) = false := by simp; omega
    clear h hx
    go_enter Tryd.func12, Tryd.ntmps12
    go_wp2
    go_ret
    exact ⟨by rw [HX.out]; rfl, rfl⟩
  · have HX : Hd (sp x = true) := ⟨by unfold sp; simp; omega⟩
    have e1 : (9 : Int) ≤ x := by omega
    have e2 : (x : Int) ≤ 13 := by omega
    clear h h2 hx
    go_enter Tryd.func12, Tryd.ntmps12
    go_wp2
    go_ret
    exact ⟨by rw [HX.out]; rfl, rfl⟩
  · have HX : Hd (sp x = false) := ⟨by unfold sp; simp; omega⟩
    have e1 : (9 : Int) ≤ x := by omega
    have e3 : ¬ (x : Int) ≤ 13 := by omega
    have e2 : ((x : Int) == 32) = false := by simp; omega
    clear h h2 hx
    go_enter Tryd.func12, Tryd.ntmps12
    go_wp2
    go_ret
    exact ⟨by rw [HX.out]; rfl, rfl⟩
  · go_enter Tryd.func12, Tryd.ntmps12
    go_wp2
    go_ret
    exact ⟨rfl, rfl⟩
theorem drop_snoc (l : List Nat) (x : Nat) : (l ++ [x]).dropWhile sp = if l.dropWhile sp = [] then [x].dropWhile sp else l.dropWhile sp ++ [x] := by
  induction l with
  | nil => simp
  | cons y l ih =>
    by_cases h : sp y = true
    · rw [List.cons_append, List.dropWhile_cons_of_pos h, List.dropWhile_cons_of_pos h]; exact ih
    · simp [List.dropWhile_cons, h]
theorem drop_head (l : List Nat) : l.dropWhile sp = [] ∨ ∃ c r, l.dropWhile sp = c :: r ∧ sp c = false := by
  obtain ⟨ws, b, rfl, hw, hb, hst⟩ := stm_split l
  have e : (ws ++ b).dropWhile sp = b.dropWhile sp := by
    clear hb hst
    induction ws with
    | nil => rfl
    | cons x ws ih => simp [hw x (by simp), ih fun y hy => hw y (by simp [hy])]
  rw [e]
  rcases hb with rfl | ⟨c, r, rfl, hc⟩
  · exact .inl rfl
  · exact .inr ⟨c, r, by simp [hc], hc⟩
theorem stm_nil (l : List Nat) : stm l = [] ↔ l.dropWhile sp = [] := by
  constructor
  · intro h
    rcases drop_head l with h1 | ⟨c, r, h1, hc⟩
    · exact h1
    · exfalso
      unfold stm at h
      rw [h1] at h
      have : c ≠ 10 := by rintro rfl; simp [sp] at hc
      simp [this] at h
  · intro h; unfold stm; rw [h]; rfl
theorem stm_snoc (l : List Nat) (x : Nat) : stm (l ++ [x]) = if x ≠ 10 ∧ (stm l ≠ [] ∨ sp x = false) then stm l ++ [x] else stm l := by
  have e := drop_snoc l x
  have hn := stm_nil l
  by_cases h0 : l.dropWhile sp = []
  · rw [if_pos h0] at e
    have hs : stm l = [] := hn.2 h0
    rw [hs]
    unfold stm
    rw [e]
    by_cases hx : sp x = true
    · simp [hx]
    · have hx10 : x ≠ 10 := by rintro rfl; simp [sp] at hx
      simp [hx, hx10]
  · rw [if_neg h0] at e
    have hs : stm l ≠ [] := fun h => h0 (hn.1 h)
    unfold stm at hs ⊢
    rw [e, List.filter_append]
    by_cases hx : x = 10
    · simp [hx]
    · simp [hx, hs]
theorem stm_len (l : List Nat) : (stm l).length ≤ l.length := by
  unfold stm
  exact Nat.le_trans (List.length_filter_le _ _) (List.dropWhile_suffix sp |>.length_le)
theorem stm_asc {l : List Nat} (h : Asc7 l) : Asc7 (stm l) := fun x hx => h x ((List.dropWhile_suffix sp).subset (List.mem_filter.1 hx).1)
theorem T_get (l : List Nat) (h : ∀ x ∈ l, x < 256) (k : Nat) (hk : k < l.length) (hk2 : k < (T l).size) : ((T l)[k]'hk2).toNat = l[k] := by
  rw [at_get, T_at l h, List.getD_eq_getElem?_getD, List.getElem?_eq_getElem hk]
  rfl
def StrT (t : List Nat) (w : World) (e : Ending) (w' : World) : Prop := e = .returned (.string (T t)) ∧ Below w.heap.size w w'
/-- string(b) of an own row. -/
theorem own_str {w : World} {b n : Nat} {v : Value} {xs : List Nat} (h : w.ownsRow b 5 1 v n (bc (nb xs))) (hn : n ≤ 1000000) : (convert 24 9 v).run Tryd.prog w = .ok (.string (T xs)) w := by
  obtain ⟨A, c, rfl, _, _, hr, _, _⟩ := own_rd h (by omega)
  have := str_run (P := Tryd.prog) (src := 24) (dst := 9) (c := c) Tryd.underlying24 Tryd.underlying5 Tryd.underlying9 hr
  rwa [T_nums] at this
set_option maxRecDepth 100000 in
theorem scStatement (l : List Nat) (h7 : Asc7 l) (hl : l.length ≤ 1000) (w : World) : Calls Tryd.prog 7 #[.string (T l)] w fun e w' => StrT (stm l) w e w' := by
  obtain ⟨i0, hi, hz0, hz1, hz2⟩ := info_of infoB
  have I := Hd.mk (And.intro hi (And.intro hz0 (And.intro hz1 hz2)))
  have HG : Hd (∀ (s : ByteArray) (_ : s = T l) k (hk : k < l.length) (hk2 : k < s.size), (s[k]'hk2).toNat = l[k]) := ⟨fun s hs k hk hk2 => by subst hs; exact T_get l h7.lt k hk hk2⟩
  have hsz := T_size l
  have H7 := Hd.mk h7
  obtain ⟨s, hs⟩ : ∃ s, T l = s := ⟨_, rfl⟩
  rw [hs] at hsz ⊢
  have HS := Hd.mk hs.symm
  obtain ⟨n, hn⟩ : ∃ n, l.length = n := ⟨_, rfl⟩
  have HN := Hd.mk hn
  rw [hn] at hsz hl
  subst hsz
  clear hi hz0 hz1 hz2 h7 hs hn
  go_enter Tryd.func7, Tryd.ntmps7
  go_wp2
  go_loopw [3, 4] (fun v i W => ∃ k : Nat, k ≤ s.size ∧ i = .int .i64 k ∧ W.ownsRow w.heap.size 5 1 v (stm (l.take k)).length (bc (nb (stm (l.take k)))) ∧ Below w.heap.size w W) (fun _ i _ => s.size - (intOf i).toNat)
  case atStart => exact ⟨0, Nat.zero_le _, rfl, by simpa [stm, nb] using World.ownsRow_nil w _ _ _, Below.refl _ _⟩
  case round =>
    obtain ⟨k, hk, rfl, hown, hb⟩ := hrel
    obtain ⟨A, c, rfl, _, _⟩ := own_slice hown
    by_cases hlt : k < s.size
    · have hkl : k < l.length := by rw [HN.out]; exact hlt
      have hg := HG.out s HS.out k hkl hlt
      have e := stm_snoc (l.take k) l[k]
      rw [List.take_append_getElem hkl] at e
      have hx7 := H7.out l[k] (List.getElem_mem hkl)
      have hle := stm_len (l.take k)
      rw [List.length_take] at hle
      obtain ⟨x, hx⟩ : ∃ x, l[k] = x := ⟨_, rfl⟩
      rw [hx] at hg e hx7
      obtain ⟨t, ht⟩ : ∃ t, stm (l.take k) = t := ⟨_, rfl⟩
      rw [ht] at e hle hown ⊢
      obtain ⟨m, hm⟩ : ∃ m, t.length = m := ⟨_, rfl⟩
      rw [hm] at hown hle ⊢
      have HM := Hd.mk hm
      have hcase : (stm (l.take (k + 1)) = t ∧ x = 10) ∨ (stm (l.take (k + 1)) = t ∧ x ≠ 10 ∧ m = 0 ∧ sp x = true) ∨ (stm (l.take (k + 1)) = t ++ [x] ∧ x ≠ 10 ∧ 0 < m) ∨ (stm (l.take (k + 1)) = t ++ [x] ∧ x ≠ 10 ∧ m = 0 ∧ sp x = false) := by
        rw [e]
        by_cases h10 : x = 10
        · exact .inl ⟨by simp [h10], h10⟩
        · by_cases ht0 : t = []
          · subst ht0
            cases hsx : sp x
            · exact .inr (.inr (.inr ⟨by simp [h10], h10, by simpa using hm.symm, rfl⟩))
            · exact .inr (.inl ⟨by simp, h10, by simpa using hm.symm, rfl⟩)
          · exact .inr (.inr (.inl ⟨by simp [h10, ht0], h10, by rw [← hm]; exact List.length_pos_iff.2 ht0⟩))
      have C := Hd.mk (fun W => scSpace x (by omega) W)
      clear e ht hx hm hkl
      rcases hcase with ⟨hn, rfl⟩ | ⟨hn, h10, hm0, hsp⟩ | ⟨hn, h10, hm0⟩ | ⟨hn, h10, hm0, hsp⟩
      · have HN2 := Hd.mk hn; have HO := Hd.mk hown; have HB := Hd.mk hb
        clear hn hown hb
        go_wp2
        go_roundw
        case rel => exact ⟨k + 1, by omega, by go_num, by rw [HN2.out, HM.out]; exact HO.out, HB.out⟩
        case measure => simp [intOf]; omega
      · have HN2 := Hd.mk hn; have HO := Hd.mk hown; have HB := Hd.mk hb
        have e10 : ((x : Int) != 10) = true := by simp; omega
        rw [hsp] at C
        subst hm0
        clear hn hown hb h10 hsp
        go_wp2_with fail
        with_reducible refine (C.out _).mono ?_
        rintro e w1 ⟨rfl, rfl⟩
        go_wp2
        go_roundw
        case rel => exact ⟨k + 1, by omega, by go_num, by rw [HN2.out, HM.out]; exact HO.out, HB.out⟩
        case measure => simp [intOf]; omega
      · have e10 : ((x : Int) != 10) = true := by simp; omega
        have hm1 : (0 : Int) < m := by omega
        have HO2 := Hd.mk (hown.alloc (.cells #[.int .u8 x] 5)); have HB2 := Hd.mk (hb.alloc hb.size (.cells #[.int .u8 x] 5))
        have HN2 := Hd.mk hn
        clear hn hown hb h10
        go_wp2_with (at_builtin; refine wpList_append_one rfl (.tmp 27) (.tmp 29) 24 rfl Tryd.underlying24 I.out.1 I.out.2.1 I.out.2.2.1 I.out.2.2.2 rfl rfl HO2.out (by simp [Act.eval, Act.put]) (Blk.new wr #[.int .u8 x] 5) rfl (by unfold maxLen; omega) (by omega) HB2.out.size ?_)
        intro v2 w2 own2 g2
        have HO3 := Hd.mk own2
        have HB3 := Hd.mk (below_grown_own HB2.out HO2.out HB2.out.size (Nat.le_refl _) g2)
        clear own2 g2
        go_wp2
        go_roundw
        case rel =>
          refine ⟨k + 1, by omega, by go_num, ?_, HB3.out⟩
          rw [HN2.out]
          have := HO3.out
          simpa [nb_append, nb, HM.out] using this
        case measure => simp [intOf]; omega
      · have e10 : ((x : Int) != 10) = true := by simp; omega
        have HO2 := Hd.mk (hown.alloc (.cells #[.int .u8 x] 5)); have HB2 := Hd.mk (hb.alloc hb.size (.cells #[.int .u8 x] 5))
        have HN2 := Hd.mk hn
        rw [hsp] at C
        subst hm0
        clear hn hown hb h10 hsp
        go_wp2_with fail
        with_reducible refine (C.out _).mono ?_
        rintro e w1 ⟨rfl, rfl⟩
        go_wp2_with (at_builtin; refine wpList_append_one rfl (.tmp 27) (.tmp 29) 24 rfl Tryd.underlying24 I.out.1 I.out.2.1 I.out.2.2.1 I.out.2.2.2 rfl rfl HO2.out (by simp [Act.eval, Act.put]) (Blk.new w1 #[.int .u8 x] 5) rfl (by unfold maxLen; omega) (by omega) HB2.out.size ?_)
        intro v2 w2 own2 g2
        have HO3 := Hd.mk own2
        have HB3 := Hd.mk (below_grown_own HB2.out HO2.out HB2.out.size (Nat.le_refl _) g2)
        clear own2 g2
        go_wp2
        go_roundw
        case rel =>
          refine ⟨k + 1, by omega, by go_num, ?_, HB3.out⟩
          rw [HN2.out]
          have := HO3.out
          simpa [nb_append, nb, HM.out] using this
        case measure => simp [intOf]; omega
    · obtain rfl : k = s.size := by omega
      have ht : l.take s.size = l := by rw [← HN.out]; exact List.take_length
      rw [ht] at hown ⊢
      have hll := stm_len l
      have s1 := own_str hown (by have := HN.out; omega)
      have HB := Hd.mk hb
      clear hown hb ht
      go_wp2
      go_ret
      exact ⟨rfl, HB.out⟩
theorem plain_snoc {sign x : Nat} {l : List Nat} (h : Plain sign l) (hx : okc sign x) (hl : ¬ (x = 45 ∧ l.getD (l.length - 1) 0 = 45)) : Plain sign (l ++ [x]) := by
  refine ⟨fun y hy => ?_, fun i => ?_⟩
  · rcases List.mem_append.1 hy with h1 | h1
    · exact h.ok y h1
    · simp at h1; subst h1; exact hx
  · have ha := h.apart i
    simp only [List.getD_eq_getElem?_getD] at ha hl ⊢
    rcases Nat.lt_trichotomy (i + 1) l.length with h1 | h1 | h1
    · rw [List.getElem?_append_left (by omega), List.getElem?_append_left h1]; exact ha
    · rw [List.getElem?_append_left (by omega), List.getElem?_append_right (by omega)]
      rw [show i = l.length - 1 by omega]
      rw [show l.length - 1 + 1 - l.length = 0 by omega]
      simp only [List.getElem?_cons_zero, Option.getD_some]
      intro hc; exact hl ⟨hc.2, hc.1⟩
    · intro hc
      have h2 := hc.2
      rw [List.getElem?_append_right (by omega), List.getElem?_eq_none (by simp; omega)] at h2
      simp at h2
theorem plain_nil (sign : Nat) : Plain sign [] := ⟨by simp, by simp⟩
def IsPlain (sign most : Nat) (w : World) (e : Ending) (w' : World) : Prop := ∃ l, e = .returned (.string (T l)) ∧ Plain sign l ∧ l.length ≤ most ∧ Below w.heap.size w w'
set_option maxRecDepth 100000 in
theorem scPlain (s : ByteArray) (sign most : Nat) (hsg : sign ≠ 120 ∧ sign < 256) (hm : most ≤ 1000) (hsz : s.size ≤ 2147483647) (w : World) : Calls Tryd.prog 6 #[.string s, .int .u8 sign, .int .i64 most] w fun e w' => IsPlain sign most w e w' := by
  obtain ⟨i0, hi, hz0, hz1, hz2⟩ := info_of infoB
  have I := Hd.mk (And.intro hi (And.intro hz0 (And.intro hz1 hz2)))
  have HSG := Hd.mk hsg
  clear hi hz0 hz1 hz2 hsg
  go_enter Tryd.func6, Tryd.ntmps6
  go_wp2
  go_loopw [7, 8] (fun v i W => ∃ (k : Nat) (l : List Nat), k ≤ s.size ∧ i = .int .i64 k ∧ l.length = k ∧ k ≤ most ∧ Plain sign l ∧ W.ownsRow w.heap.size 5 1 v k (bc (nb l)) ∧ Below w.heap.size w W) (fun _ i _ => s.size - (intOf i).toNat)
  case atStart => exact ⟨0, [], Nat.zero_le _, rfl, rfl, Nat.zero_le _, plain_nil _, World.ownsRow_nil w _ _ _, Below.refl _ _⟩
  case round =>
    obtain ⟨k, l, hk, rfl, hlk, hkm, hP, hown, hb⟩ := hrel
    obtain ⟨A, c, rfl, hkc, _⟩ := own_slice hown
    have HO := Hd.mk hown; have HB := Hd.mk hb; have HP := Hd.mk hP; have HLK := Hd.mk hlk
    by_cases hlt : k < s.size ∧ k < most
    · obtain ⟨h1, h2⟩ := hlt
      have h1i : (k : Int) < s.size := by omega
      have h2i : (k : Int) < most := by omega
      have hb256 : (s[k]'h1).toNat < 256 := UInt8.toNat_lt _
      have b0 : bits .and .u8 (((s[k]'h1).toNat : Nat) : Int) 127 = (((s[k]'h1).toNat % 128 : Nat) : Int) := and127 ⟨(s[k]'h1).toNat, hb256⟩
      obtain ⟨y, hy⟩ : ∃ y, (s[k]'h1).toNat = y := ⟨_, rfl⟩
      rw [hy] at b0
      obtain ⟨x, hx⟩ : ∃ x, y % 128 = x := ⟨_, rfl⟩
      rw [hx] at b0
      have hx7 : x < 128 := by omega
      have hlast : k = 0 ∨ ∃ g z : Nat, A = some ⟨g, 0, none⟩ ∧ wr.cell? ⟨g, k - 1, none⟩ = some (.int .u8 z) ∧ l.getD (l.length - 1) 0 = z := by
        rcases Nat.eq_zero_or_pos k with h0 | h0
        · exact .inl h0
        · refine .inr ?_
          obtain ⟨g, c', hv, _, hc, _, _⟩ := own_at hown (k - 1) (by simp [nb]; omega)
          simp only [Value.slice.injEq] at hv
          refine ⟨g, l[k - 1]'(by omega), hv.1, ?_, ?_⟩
          · rw [hc]; simp [nb]
          · have e1 : l.length - 1 = k - 1 := by omega
            rw [e1, List.getD_eq_getElem?_getD, List.getElem?_eq_getElem (by omega)]; rfl
      have hc : x = sign ∨ (x ≠ sign ∧ x = 39) ∨ (x ≠ sign ∧ x = 34) ∨ (x ≠ sign ∧ x = 92) ∨ (x ≠ sign ∧ x ≠ 39 ∧ x ≠ 34 ∧ x ≠ 92 ∧ x < 32 ∧ x ≠ 9 ∧ x ≠ 10) ∨ (x ≠ sign ∧ x = 127) ∨ (x ≠ sign ∧ x = 45 ∧ 0 < k ∧ l.getD (l.length - 1) 0 = 45) ∨ (x ≠ sign ∧ x = 9) ∨ (x ≠ sign ∧ x = 10) ∨ (x ≠ sign ∧ x ≠ 39 ∧ x ≠ 34 ∧ x ≠ 92 ∧ 32 ≤ x ∧ x ≠ 127 ∧ x ≠ 45) ∨ (x ≠ sign ∧ x = 45 ∧ k = 0) ∨ (x ≠ sign ∧ x = 45 ∧ 0 < k ∧ l.getD (l.length - 1) 0 ≠ 45) := by
        by_cases a0 : x = sign
        · exact .inl a0
        by_cases a1 : x = 39
        · exact .inr (.inl ⟨a0, a1⟩)
        by_cases a2 : x = 34
        · exact .inr (.inr (.inl ⟨a0, a2⟩))
        by_cases a3 : x = 92
        · exact .inr (.inr (.inr (.inl ⟨a0, a3⟩)))
        by_cases a4 : x = 127
        · exact .inr (.inr (.inr (.inr (.inr (.inl ⟨a0, a4⟩)))))
        by_cases a9 : x = 9
        · exact .inr (.inr (.inr (.inr (.inr (.inr (.inr (.inl ⟨a0, a9⟩)))))))
        by_cases a10 : x = 10
        · exact .inr (.inr (.inr (.inr (.inr (.inr (.inr (.inr (.inl ⟨a0, a10⟩))))))))
        by_cases a5 : x < 32
        · exact .inr (.inr (.inr (.inr (.inl ⟨a0, a1, a2, a3, a5, a9, a10⟩))))
        by_cases a6 : x = 45
        · by_cases a7 : k = 0
          · exact .inr (.inr (.inr (.inr (.inr (.inr (.inr (.inr (.inr (.inr (.inl ⟨a0, a6, a7⟩))))))))))
          · by_cases a8 : l.getD (l.length - 1) 0 = 45
            · exact .inr (.inr (.inr (.inr (.inr (.inr (.inl ⟨a0, a6, by omega, a8⟩))))))
            · exact .inr (.inr (.inr (.inr (.inr (.inr (.inr (.inr (.inr (.inr (.inr (⟨a0, a6, by omega, a8⟩)))))))))))
        · exact .inr (.inr (.inr (.inr (.inr (.inr (.inr (.inr (.inr (.inl ⟨a0, a1, a2, a3, by omega, a4, a6⟩)))))))))
      rcases hc with hx0 | hx0 | hx0 | hx0 | hx0 | hx0 | hx0 | hx0 | hx0 | hx0 | hx0 | hx0
      · have hok : okc sign 120 := ⟨by omega, by have := HSG.out; omega, by omega, by omega, by omega⟩
        have hap : ¬ (120 = 45 ∧ l.getD (l.length - 1) 0 = 45) := by omega
        have HPN := Hd.mk (plain_snoc hP hok hap)
        have es : ((x : Int) == (sign : Int)) = true := by simp; omega
        have HO2 := Hd.mk (hown.alloc (.cells #[.int .u8 120] 5)); have HB2 := Hd.mk (hb.alloc hb.size (.cells #[.int .u8 120] 5))
        clear hx0 hok hap hown hb hP hlk hlast hx7 hx hb256
        go_wp2_with (at_builtin; refine wpList_append_one rfl (.tmp 75) (.tmp 77) 24 rfl Tryd.underlying24 I.out.1 I.out.2.1 I.out.2.2.1 I.out.2.2.2 rfl rfl HO2.out (by simp [Act.eval, Act.put]) (Blk.new wr #[.int .u8 120] 5) rfl (by unfold maxLen; omega) (by omega) HB2.out.size ?_)
        intro v2 w2 own2 g2
        have HO3 := Hd.mk own2
        have HB3 := Hd.mk (below_grown_own HB2.out HO2.out HB2.out.size (Nat.le_refl _) g2)
        clear own2 g2
        go_wp2
        go_roundw
        case rel => exact ⟨k + 1, l ++ [120], by omega, by go_num, by have := HLK.out; simp; omega, by omega, HPN.out, by have := HO3.out; simpa [nb_append, nb] using this, HB3.out⟩
        case measure => simp [intOf]; omega
      · have hok : okc sign 120 := ⟨by omega, by have := HSG.out; omega, by omega, by omega, by omega⟩
        have hap : ¬ (120 = 45 ∧ l.getD (l.length - 1) 0 = 45) := by omega
        have HPN := Hd.mk (plain_snoc hP hok hap)
        have es : ((x : Int) == (sign : Int)) = false := by simp; omega
        have e39 : ((x : Int) == 39) = true := by simp; omega
        have HO2 := Hd.mk (hown.alloc (.cells #[.int .u8 120] 5)); have HB2 := Hd.mk (hb.alloc hb.size (.cells #[.int .u8 120] 5))
        clear hx0 hok hap hown hb hP hlk hlast hx7 hx hb256
        go_wp2_with (at_builtin; refine wpList_append_one rfl (.tmp 75) (.tmp 77) 24 rfl Tryd.underlying24 I.out.1 I.out.2.1 I.out.2.2.1 I.out.2.2.2 rfl rfl HO2.out (by simp [Act.eval, Act.put]) (Blk.new wr #[.int .u8 120] 5) rfl (by unfold maxLen; omega) (by omega) HB2.out.size ?_)
        intro v2 w2 own2 g2
        have HO3 := Hd.mk own2
        have HB3 := Hd.mk (below_grown_own HB2.out HO2.out HB2.out.size (Nat.le_refl _) g2)
        clear own2 g2
        go_wp2
        go_roundw
        case rel => exact ⟨k + 1, l ++ [120], by omega, by go_num, by have := HLK.out; simp; omega, by omega, HPN.out, by have := HO3.out; simpa [nb_append, nb] using this, HB3.out⟩
        case measure => simp [intOf]; omega
      · have hok : okc sign 120 := ⟨by omega, by have := HSG.out; omega, by omega, by omega, by omega⟩
        have hap : ¬ (120 = 45 ∧ l.getD (l.length - 1) 0 = 45) := by omega
        have HPN := Hd.mk (plain_snoc hP hok hap)
        have es : ((x : Int) == (sign : Int)) = false := by simp; omega
        have e39 : ((x : Int) == 39) = false := by simp; omega
        have e34 : ((x : Int) == 34) = true := by simp; omega
        have HO2 := Hd.mk (hown.alloc (.cells #[.int .u8 120] 5)); have HB2 := Hd.mk (hb.alloc hb.size (.cells #[.int .u8 120] 5))
        clear hx0 hok hap hown hb hP hlk hlast hx7 hx hb256
        go_wp2_with (at_builtin; refine wpList_append_one rfl (.tmp 75) (.tmp 77) 24 rfl Tryd.underlying24 I.out.1 I.out.2.1 I.out.2.2.1 I.out.2.2.2 rfl rfl HO2.out (by simp [Act.eval, Act.put]) (Blk.new wr #[.int .u8 120] 5) rfl (by unfold maxLen; omega) (by omega) HB2.out.size ?_)
        intro v2 w2 own2 g2
        have HO3 := Hd.mk own2
        have HB3 := Hd.mk (below_grown_own HB2.out HO2.out HB2.out.size (Nat.le_refl _) g2)
        clear own2 g2
        go_wp2
        go_roundw
        case rel => exact ⟨k + 1, l ++ [120], by omega, by go_num, by have := HLK.out; simp; omega, by omega, HPN.out, by have := HO3.out; simpa [nb_append, nb] using this, HB3.out⟩
        case measure => simp [intOf]; omega
      · have hok : okc sign 120 := ⟨by omega, by have := HSG.out; omega, by omega, by omega, by omega⟩
        have hap : ¬ (120 = 45 ∧ l.getD (l.length - 1) 0 = 45) := by omega
        have HPN := Hd.mk (plain_snoc hP hok hap)
        have es : ((x : Int) == (sign : Int)) = false := by simp; omega
        have e39 : ((x : Int) == 39) = false := by simp; omega
        have e34 : ((x : Int) == 34) = false := by simp; omega
        have e92 : ((x : Int) == 92) = true := by simp; omega
        have HO2 := Hd.mk (hown.alloc (.cells #[.int .u8 120] 5)); have HB2 := Hd.mk (hb.alloc hb.size (.cells #[.int .u8 120] 5))
        clear hx0 hok hap hown hb hP hlk hlast hx7 hx hb256
        go_wp2_with (at_builtin; refine wpList_append_one rfl (.tmp 75) (.tmp 77) 24 rfl Tryd.underlying24 I.out.1 I.out.2.1 I.out.2.2.1 I.out.2.2.2 rfl rfl HO2.out (by simp [Act.eval, Act.put]) (Blk.new wr #[.int .u8 120] 5) rfl (by unfold maxLen; omega) (by omega) HB2.out.size ?_)
        intro v2 w2 own2 g2
        have HO3 := Hd.mk own2
        have HB3 := Hd.mk (below_grown_own HB2.out HO2.out HB2.out.size (Nat.le_refl _) g2)
        clear own2 g2
        go_wp2
        go_roundw
        case rel => exact ⟨k + 1, l ++ [120], by omega, by go_num, by have := HLK.out; simp; omega, by omega, HPN.out, by have := HO3.out; simpa [nb_append, nb] using this, HB3.out⟩
        case measure => simp [intOf]; omega
      · have hok : okc sign 120 := ⟨by omega, by have := HSG.out; omega, by omega, by omega, by omega⟩
        have hap : ¬ (120 = 45 ∧ l.getD (l.length - 1) 0 = 45) := by omega
        have HPN := Hd.mk (plain_snoc hP hok hap)
        have es : ((x : Int) == (sign : Int)) = false := by simp; omega
        have e39 : ((x : Int) == 39) = false := by simp; omega
        have e34 : ((x : Int) == 34) = false := by simp; omega
        have e92 : ((x : Int) == 92) = false := by simp; omega
        have l32 : (x : Int) < 32 := by omega
        have n9 : ((x : Int) != 9) = true := by simp; omega
        have n10 : ((x : Int) != 10) = true := by simp; omega
        have HO2 := Hd.mk (hown.alloc (.cells #[.int .u8 120] 5)); have HB2 := Hd.mk (hb.alloc hb.size (.cells #[.int .u8 120] 5))
        clear hx0 hok hap hown hb hP hlk hlast hx7 hx hb256
        go_wp2_with (at_builtin; refine wpList_append_one rfl (.tmp 75) (.tmp 77) 24 rfl Tryd.underlying24 I.out.1 I.out.2.1 I.out.2.2.1 I.out.2.2.2 rfl rfl HO2.out (by simp [Act.eval, Act.put]) (Blk.new wr #[.int .u8 120] 5) rfl (by unfold maxLen; omega) (by omega) HB2.out.size ?_)
        intro v2 w2 own2 g2
        have HO3 := Hd.mk own2
        have HB3 := Hd.mk (below_grown_own HB2.out HO2.out HB2.out.size (Nat.le_refl _) g2)
        clear own2 g2
        go_wp2
        go_roundw
        case rel => exact ⟨k + 1, l ++ [120], by omega, by go_num, by have := HLK.out; simp; omega, by omega, HPN.out, by have := HO3.out; simpa [nb_append, nb] using this, HB3.out⟩
        case measure => simp [intOf]; omega
      · have hok : okc sign 120 := ⟨by omega, by have := HSG.out; omega, by omega, by omega, by omega⟩
        have hap : ¬ (120 = 45 ∧ l.getD (l.length - 1) 0 = 45) := by omega
        have HPN := Hd.mk (plain_snoc hP hok hap)
        have es : ((x : Int) == (sign : Int)) = false := by simp; omega
        have e39 : ((x : Int) == 39) = false := by simp; omega
        have e34 : ((x : Int) == 34) = false := by simp; omega
        have e92 : ((x : Int) == 92) = false := by simp; omega
        have l32 : ¬ (x : Int) < 32 := by omega
        have e127 : ((x : Int) == 127) = true := by simp; omega
        have HO2 := Hd.mk (hown.alloc (.cells #[.int .u8 120] 5)); have HB2 := Hd.mk (hb.alloc hb.size (.cells #[.int .u8 120] 5))
        clear hx0 hok hap hown hb hP hlk hlast hx7 hx hb256
        go_wp2_with (at_builtin; refine wpList_append_one rfl (.tmp 75) (.tmp 77) 24 rfl Tryd.underlying24 I.out.1 I.out.2.1 I.out.2.2.1 I.out.2.2.2 rfl rfl HO2.out (by simp [Act.eval, Act.put]) (Blk.new wr #[.int .u8 120] 5) rfl (by unfold maxLen; omega) (by omega) HB2.out.size ?_)
        intro v2 w2 own2 g2
        have HO3 := Hd.mk own2
        have HB3 := Hd.mk (below_grown_own HB2.out HO2.out HB2.out.size (Nat.le_refl _) g2)
        clear own2 g2
        go_wp2
        go_roundw
        case rel => exact ⟨k + 1, l ++ [120], by omega, by go_num, by have := HLK.out; simp; omega, by omega, HPN.out, by have := HO3.out; simpa [nb_append, nb] using this, HB3.out⟩
        case measure => simp [intOf]; omega
      · have hok : okc sign 120 := ⟨by omega, by have := HSG.out; omega, by omega, by omega, by omega⟩
        have hap : ¬ (120 = 45 ∧ l.getD (l.length - 1) 0 = 45) := by omega
        have HPN := Hd.mk (plain_snoc hP hok hap)
        have es : ((x : Int) == (sign : Int)) = false := by simp; omega
        have e39 : ((x : Int) == 39) = false := by simp; omega
        have e34 : ((x : Int) == 34) = false := by simp; omega
        have e92 : ((x : Int) == 92) = false := by simp; omega
        have e127 : ((x : Int) == 127) = false := by simp; omega
        have l32 : ¬ (x : Int) < 32 := by omega
        have e45 : ((x : Int) == 45) = true := by simp; omega
        obtain ⟨g, z, rfl, hcz, hz⟩ := hlast.resolve_left (by omega)
        obtain ⟨j, rfl⟩ : ∃ j, k = j + 1 := ⟨k - 1, by omega⟩
        rw [show j + 1 - 1 = j by omega] at hcz
        have k0 : (0 : Int) < (j : Int) + 1 := by omega
        have hwj : IntKind.i64.wrap ((j : Int) + 1 - 1) = (j : Int) := by rw [IntWalk.i64_in _ (by omega)]; omega
        have ez : ((z : Int) == 45) = true := by simp; omega
        have HO2 := Hd.mk (hown.alloc (.cells #[.int .u8 120] 5)); have HB2 := Hd.mk (hb.alloc hb.size (.cells #[.int .u8 120] 5))
        clear hx0 hok hap hown hb hP hlk hlast hx7 hx hb256 hz
        go_wp2_with (at_builtin; refine wpList_append_one rfl (.tmp 75) (.tmp 77) 24 rfl Tryd.underlying24 I.out.1 I.out.2.1 I.out.2.2.1 I.out.2.2.2 rfl rfl HO2.out (by simp [Act.eval, Act.put]) (Blk.new wr #[.int .u8 120] 5) rfl (by unfold maxLen; omega) (by omega) HB2.out.size ?_)
        intro v2 w2 own2 g2
        have HO3 := Hd.mk own2
        have HB3 := Hd.mk (below_grown_own HB2.out HO2.out HB2.out.size (Nat.le_refl _) g2)
        clear own2 g2
        go_wp2
        go_roundw
        case rel => exact ⟨j + 1 + 1, l ++ [120], by omega, by go_num, by have := HLK.out; simp; omega, by omega, HPN.out, by have := HO3.out; simpa [nb_append, nb] using this, HB3.out⟩
        case measure => simp [intOf]; omega
      · have hok : okc sign x := ⟨by omega, by have := HSG.out; omega, by omega, by omega, by omega⟩
        have hap : ¬ (x = 45 ∧ l.getD (l.length - 1) 0 = 45) := by omega
        have HPN := Hd.mk (plain_snoc hP hok hap)
        have es : ((x : Int) == (sign : Int)) = false := by simp; omega
        have e39 : ((x : Int) == 39) = false := by simp; omega
        have e34 : ((x : Int) == 34) = false := by simp; omega
        have e92 : ((x : Int) == 92) = false := by simp; omega
        have e127 : ((x : Int) == 127) = false := by simp; omega
        have e45 : ((x : Int) == 45) = false := by simp; omega
        have l32 : (x : Int) < 32 := by omega
        have n9 : ((x : Int) != 9) = false := by simp; omega
        have HO2 := Hd.mk (hown.alloc (.cells #[.int .u8 x] 5)); have HB2 := Hd.mk (hb.alloc hb.size (.cells #[.int .u8 x] 5))
        clear hx0 hok hap hown hb hP hlk hlast hx7 hx hb256
        go_wp2_with (at_builtin; refine wpList_append_one rfl (.tmp 75) (.tmp 77) 24 rfl Tryd.underlying24 I.out.1 I.out.2.1 I.out.2.2.1 I.out.2.2.2 rfl rfl HO2.out (by simp [Act.eval, Act.put]) (Blk.new wr #[.int .u8 x] 5) rfl (by unfold maxLen; omega) (by omega) HB2.out.size ?_)
        intro v2 w2 own2 g2
        have HO3 := Hd.mk own2
        have HB3 := Hd.mk (below_grown_own HB2.out HO2.out HB2.out.size (Nat.le_refl _) g2)
        clear own2 g2
        go_wp2
        go_roundw
        case rel => exact ⟨k + 1, l ++ [x], by omega, by go_num, by have := HLK.out; simp; omega, by omega, HPN.out, by have := HO3.out; simpa [nb_append, nb] using this, HB3.out⟩
        case measure => simp [intOf]; omega
      · have hok : okc sign x := ⟨by omega, by have := HSG.out; omega, by omega, by omega, by omega⟩
        have hap : ¬ (x = 45 ∧ l.getD (l.length - 1) 0 = 45) := by omega
        have HPN := Hd.mk (plain_snoc hP hok hap)
        have es : ((x : Int) == (sign : Int)) = false := by simp; omega
        have e39 : ((x : Int) == 39) = false := by simp; omega
        have e34 : ((x : Int) == 34) = false := by simp; omega
        have e92 : ((x : Int) == 92) = false := by simp; omega
        have e127 : ((x : Int) == 127) = false := by simp; omega
        have e45 : ((x : Int) == 45) = false := by simp; omega
        have l32 : (x : Int) < 32 := by omega
        have n9 : ((x : Int) != 9) = true := by simp; omega
        have n10 : ((x : Int) != 10) = false := by simp; omega
        have HO2 := Hd.mk (hown.alloc (.cells #[.int .u8 x] 5)); have HB2 := Hd.mk (hb.alloc hb.size (.cells #[.int .u8 x] 5))
        clear hx0 hok hap hown hb hP hlk hlast hx7 hx hb256
        go_wp2_with (at_builtin; refine wpList_append_one rfl (.tmp 75) (.tmp 77) 24 rfl Tryd.underlying24 I.out.1 I.out.2.1 I.out.2.2.1 I.out.2.2.2 rfl rfl HO2.out (by simp [Act.eval, Act.put]) (Blk.new wr #[.int .u8 x] 5) rfl (by unfold maxLen; omega) (by omega) HB2.out.size ?_)
        intro v2 w2 own2 g2
        have HO3 := Hd.mk own2
        have HB3 := Hd.mk (below_grown_own HB2.out HO2.out HB2.out.size (Nat.le_refl _) g2)
        clear own2 g2
        go_wp2
        go_roundw
        case rel => exact ⟨k + 1, l ++ [x], by omega, by go_num, by have := HLK.out; simp; omega, by omega, HPN.out, by have := HO3.out; simpa [nb_append, nb] using this, HB3.out⟩
        case measure => simp [intOf]; omega
      · have hok : okc sign x := ⟨by omega, by have := HSG.out; omega, by omega, by omega, by omega⟩
        have hap : ¬ (x = 45 ∧ l.getD (l.length - 1) 0 = 45) := by omega
        have HPN := Hd.mk (plain_snoc hP hok hap)
        have es : ((x : Int) == (sign : Int)) = false := by simp; omega
        have e39 : ((x : Int) == 39) = false := by simp; omega
        have e34 : ((x : Int) == 34) = false := by simp; omega
        have e92 : ((x : Int) == 92) = false := by simp; omega
        have e127 : ((x : Int) == 127) = false := by simp; omega
        have e45 : ((x : Int) == 45) = false := by simp; omega
        have l32 : ¬ (x : Int) < 32 := by omega
        have HO2 := Hd.mk (hown.alloc (.cells #[.int .u8 x] 5)); have HB2 := Hd.mk (hb.alloc hb.size (.cells #[.int .u8 x] 5))
        clear hx0 hok hap hown hb hP hlk hlast hx7 hx hb256
        go_wp2_with (at_builtin; refine wpList_append_one rfl (.tmp 75) (.tmp 77) 24 rfl Tryd.underlying24 I.out.1 I.out.2.1 I.out.2.2.1 I.out.2.2.2 rfl rfl HO2.out (by simp [Act.eval, Act.put]) (Blk.new wr #[.int .u8 x] 5) rfl (by unfold maxLen; omega) (by omega) HB2.out.size ?_)
        intro v2 w2 own2 g2
        have HO3 := Hd.mk own2
        have HB3 := Hd.mk (below_grown_own HB2.out HO2.out HB2.out.size (Nat.le_refl _) g2)
        clear own2 g2
        go_wp2
        go_roundw
        case rel => exact ⟨k + 1, l ++ [x], by omega, by go_num, by have := HLK.out; simp; omega, by omega, HPN.out, by have := HO3.out; simpa [nb_append, nb] using this, HB3.out⟩
        case measure => simp [intOf]; omega
      · have hok : okc sign x := ⟨by omega, by have := HSG.out; omega, by omega, by omega, by omega⟩
        have hap : ¬ (x = 45 ∧ l.getD (l.length - 1) 0 = 45) := by rintro ⟨_, h⟩; have := hx0.2.2; rw [show l = [] from List.eq_nil_of_length_eq_zero (by omega)] at h; simp at h
        have HPN := Hd.mk (plain_snoc hP hok hap)
        have es : ((x : Int) == (sign : Int)) = false := by simp; omega
        have e39 : ((x : Int) == 39) = false := by simp; omega
        have e34 : ((x : Int) == 34) = false := by simp; omega
        have e92 : ((x : Int) == 92) = false := by simp; omega
        have e127 : ((x : Int) == 127) = false := by simp; omega
        have l32 : ¬ (x : Int) < 32 := by omega
        have e45 : ((x : Int) == 45) = true := by simp; omega
        have k0 : ¬ (0 : Int) < (k : Int) := by omega
        have HO2 := Hd.mk (hown.alloc (.cells #[.int .u8 x] 5)); have HB2 := Hd.mk (hb.alloc hb.size (.cells #[.int .u8 x] 5))
        clear hx0 hok hap hown hb hP hlk hlast hx7 hx hb256
        go_wp2_with (at_builtin; refine wpList_append_one rfl (.tmp 75) (.tmp 77) 24 rfl Tryd.underlying24 I.out.1 I.out.2.1 I.out.2.2.1 I.out.2.2.2 rfl rfl HO2.out (by simp [Act.eval, Act.put]) (Blk.new wr #[.int .u8 x] 5) rfl (by unfold maxLen; omega) (by omega) HB2.out.size ?_)
        intro v2 w2 own2 g2
        have HO3 := Hd.mk own2
        have HB3 := Hd.mk (below_grown_own HB2.out HO2.out HB2.out.size (Nat.le_refl _) g2)
        clear own2 g2
        go_wp2
        go_roundw
        case rel => exact ⟨k + 1, l ++ [x], by omega, by go_num, by have := HLK.out; simp; omega, by omega, HPN.out, by have := HO3.out; simpa [nb_append, nb] using this, HB3.out⟩
        case measure => simp [intOf]; omega
      · have hok : okc sign x := ⟨by omega, by have := HSG.out; omega, by omega, by omega, by omega⟩
        have hap : ¬ (x = 45 ∧ l.getD (l.length - 1) 0 = 45) := by omega
        have HPN := Hd.mk (plain_snoc hP hok hap)
        have es : ((x : Int) == (sign : Int)) = false := by simp; omega
        have e39 : ((x : Int) == 39) = false := by simp; omega
        have e34 : ((x : Int) == 34) = false := by simp; omega
        have e92 : ((x : Int) == 92) = false := by simp; omega
        have e127 : ((x : Int) == 127) = false := by simp; omega
        have l32 : ¬ (x : Int) < 32 := by omega
        have e45 : ((x : Int) == 45) = true := by simp; omega
        obtain ⟨g, z, rfl, hcz, hz⟩ := hlast.resolve_left (by omega)
        obtain ⟨j, rfl⟩ : ∃ j, k = j + 1 := ⟨k - 1, by omega⟩
        rw [show j + 1 - 1 = j by omega] at hcz
        have k0 : (0 : Int) < (j : Int) + 1 := by omega
        have hwj : IntKind.i64.wrap ((j : Int) + 1 - 1) = (j : Int) := by rw [IntWalk.i64_in _ (by omega)]; omega
        have ez : ((z : Int) == 45) = false := by simp; omega
        have HO2 := Hd.mk (hown.alloc (.cells #[.int .u8 x] 5)); have HB2 := Hd.mk (hb.alloc hb.size (.cells #[.int .u8 x] 5))
        clear hx0 hok hap hown hb hP hlk hlast hx7 hx hb256 hz
        go_wp2_with (at_builtin; refine wpList_append_one rfl (.tmp 75) (.tmp 77) 24 rfl Tryd.underlying24 I.out.1 I.out.2.1 I.out.2.2.1 I.out.2.2.2 rfl rfl HO2.out (by simp [Act.eval, Act.put]) (Blk.new wr #[.int .u8 x] 5) rfl (by unfold maxLen; omega) (by omega) HB2.out.size ?_)
        intro v2 w2 own2 g2
        have HO3 := Hd.mk own2
        have HB3 := Hd.mk (below_grown_own HB2.out HO2.out HB2.out.size (Nat.le_refl _) g2)
        clear own2 g2
        go_wp2
        go_roundw
        case rel => exact ⟨j + 1 + 1, l ++ [x], by omega, by go_num, by have := HLK.out; simp; omega, by omega, HPN.out, by have := HO3.out; simpa [nb_append, nb] using this, HB3.out⟩
        case measure => simp [intOf]; omega
    · by_cases h1 : k < s.size
      · have h1i : (k : Int) < s.size := by omega
        have h2i : ¬ (k : Int) < most := by omega
        have s1 := own_str hown (by omega)
        clear hown hb hP hlk
        go_wp2
        go_ret
        exact ⟨l, rfl, HP.out, by rw [HLK.out]; omega, HB.out⟩
      · have h1i : ¬ (k : Int) < s.size := by omega
        have s1 := own_str hown (by omega)
        clear hown hb hP hlk
        go_wp2
        go_ret
        exact ⟨l, rfl, HP.out, by rw [HLK.out]; omega, HB.out⟩
end Go.Proofs.YtfbdbbkodgijiaaDoor.Kb
