/- Characters of a law's own (CeFit, ceChars): i32 rows. -/
import Derived.Test.YtmgckcngedpgoaaDoorOwnr
import Derived.Laws.Cover4
import Derived.Lib.ConvBytes
namespace Go.Proofs.YtmgckcngedpgoaaDoor.Kb
open Go Go.RowKit
set_option linter.unusedVariables false
set_option linter.unusedSimpArgs false
set_option maxHeartbeats 2000000
/-- A slice reads as these characters. -/
structure RdI (w : World) (A : Option Addr) (n : Nat) (xs : List Int) : Prop where
  len : xs.length = n
  at_ : ∀ j (h : j < xs.length), ∃ ad, A = some ad ∧ w.cell? (ad.add j) = some (.int .i32 xs[j]) ∧ ad.block < w.heap.size
theorem RdI.below {w w' : World} {A : Option Addr} {n : Nat} {xs : List Int} (h : RdI w A n xs) (hb : Below w.heap.size w w') : RdI w' A n xs := by
  refine ⟨h.len, fun j hj => ?_⟩
  obtain ⟨ad, h1, h2, h3⟩ := h.at_ j hj
  refine ⟨ad, h1, ?_, Nat.lt_of_lt_of_le h3 hb.size⟩
  have hb' : (ad.add j).block < w.heap.size := by rw [add_block]; exact h3
  rw [World.cell?_of_block (w := w) (hb.block _ hb')]
  exact h2
theorem own_rdi {w : World} {B n : Nat} {e : TypeId} {v : Value} {xs : List Int} (h : w.ownsRow B e 1 v n (xs.map (Value.int .i32))) : ∃ A c, v = .slice A n c ∧ n ≤ c ∧ c ≤ maxLen ∧ RdI w A n xs := by
  obtain ⟨h1, h2⟩ := h
  have hl : xs.length = n := by simpa using h1
  rcases h2 with ⟨rfl, h0⟩ | ⟨g, cap, cur, rfl, hg, hh, h3, h4, h5, h6⟩
  · subst h0
    obtain rfl : xs = [] := List.eq_nil_of_length_eq_zero hl
    exact ⟨none, 0, rfl, Nat.le_refl _, Nat.zero_le _, ⟨rfl, fun j hj => by simp at hj⟩⟩
  · refine ⟨_, cap, rfl, h3, h4, ⟨hl, fun j hj => ⟨_, rfl, ?_, (Array.getElem?_eq_some_iff.1 hh).1⟩⟩⟩
    refine Blk.cellz hh j ?_
    have : (cur.toList.take (n * 1))[j]? = (xs.map (Value.int .i32))[j]? := by rw [h6]
    rw [List.getElem?_take, if_pos (by omega)] at this
    rw [← Array.getElem?_toList, this]
    simp [hj]
/-- A number brought into the characters. -/
def fit1 (r : Int) : Int := if (55296 ≤ r % 4294967296 % 1114112 ∧ r % 4294967296 % 1114112 ≤ 57343) ∨ r % 4294967296 % 1114112 = 65533 then 65534 else r % 4294967296 % 1114112
theorem fit1_ok (r : Int) : 0 ≤ fit1 r ∧ fit1 r ≤ 1114111 ∧ ¬ (55296 ≤ fit1 r ∧ fit1 r ≤ 57343) ∧ fit1 r ≠ 65533 := by unfold fit1; split <;> omega
set_option maxRecDepth 100000 in
theorem ceIsL (r : Int) (w : World) (h0 : 0 ≤ r) (h1 : r ≤ 1114111) (b : Bool) (hb : decide (55296 ≤ r ∧ r ≤ 57343) = !b) :
    Calls Tryd.prog 22 #[.int .i32 r] w fun e w' => e = .returned (.bool b) ∧ w' = w := by
  rcases (by omega : r < 55296 ∨ 57343 < r ∨ (55296 ≤ r ∧ r ≤ 57343)) with hA | hA | hA
  · obtain rfl : b = true := by cases b <;> simp at hb ⊢; omega
    clear hb
    go_enter Tryd.func22, Tryd.ntmps22
    go_wp2
    go_ret
    exact ⟨rfl, rfl⟩
  · obtain rfl : b = true := by cases b <;> simp at hb ⊢; omega
    clear hb
    have hA' : ¬ r < 55296 := by omega
    go_enter Tryd.func22, Tryd.ntmps22
    go_wp2
    go_ret
    exact ⟨rfl, rfl⟩
  · obtain rfl : b = false := by cases b <;> simp at hb ⊢; omega
    clear hb
    obtain ⟨hA1, hA2⟩ := hA
    go_enter Tryd.func22, Tryd.ntmps22
    go_wp2
    go_ret
    exact ⟨by simp; omega, rfl⟩
theorem infoI : (Tryd.prog.info? 21).map (fun i => (i.zero, i.size, i.bytes)) = some (some (.int .i32 0), 1, 4) := by kernel_rfl
set_option maxRecDepth 100000 in
theorem ceFit (A : Option Addr) (n c : Nat) (xs : List Int) (w : World) (hl : n ≤ 2147483647) (hr : RdI w A n xs) :
    Calls Tryd.prog 9 #[.slice A n c] w fun e w' => ∃ v, e = .returned v ∧ w'.ownsRow w.heap.size 21 1 v n ((xs.map fit1).map (Value.int .i32)) ∧ Below w.heap.size w w' := by
  obtain ⟨i0, hi, hz0, hz1, hz2⟩ := info_of infoI
  have I := Hd.mk (And.intro hi (And.intro hz0 (And.intro hz1 hz2)))
  clear hi hz0 hz1 hz2
  have HR := Hd.mk hr
  clear hr
  go_enter Tryd.func9, Tryd.ntmps9
  go_wp2
  go_loopw [3, 8] (fun v i wr => ∃ k : Nat, k ≤ n ∧ i = .int .i64 k ∧ wr.ownsRow w.heap.size 21 1 v k (((xs.take k).map fit1).map (Value.int .i32)) ∧ Below w.heap.size w wr)
    (fun _ i _ => n - (intOf i).toNat)
  case atStart => exact ⟨0, by omega, rfl, by simpa using World.ownsRow_nil _ _ _ _, Below.refl _ _⟩
  case round =>
    obtain ⟨k, hk, rfl, hown, hb⟩ := hrel
    have hr2 := HR.out.below hb
    have hxl := HR.out.len
    have HB := Hd.mk hb
    clear hb
    by_cases hkl : k < n
    · have hkx : k < xs.length := by omega
      obtain ⟨ad, rfl, hc, _⟩ := hr2.at_ k hkx
      obtain ⟨r, hr⟩ : ∃ r, xs[k]'hkx = r := ⟨_, rfl⟩
      rw [hr] at hc
      have ek : (xs.take (k + 1)).map fit1 = (xs.take k).map fit1 ++ [fit1 r] := by
        rw [List.take_succ_eq_append_getElem hkx, hr]; simp
      have hm : (r % 4294967296).tmod 1114112 = r % 4294967296 % 1114112 := Int.tmod_eq_emod_of_nonneg (by omega)
      have hw32 : wrap32 (r % 4294967296 % 1114112) = r % 4294967296 % 1114112 := by unfold wrap32; omega
      have hf : fit1 r = if (55296 ≤ r % 4294967296 % 1114112 ∧ r % 4294967296 % 1114112 ≤ 57343) ∨ r % 4294967296 % 1114112 = 65533 then 65534 else r % 4294967296 % 1114112 := rfl
      have q0 : 0 ≤ r % 4294967296 % 1114112 := by omega
      have q1 : r % 4294967296 % 1114112 ≤ 1114111 := by omega
      obtain ⟨x, hx⟩ : ∃ x, r % 4294967296 % 1114112 = x := ⟨_, rfl⟩
      simp only [hx] at hm hw32 hf q0 q1
      have O := Hd.mk hown; have EK := Hd.mk ek; have HX := Hd.mk hx
      clear hown ek hx hr hxl hr2
      rcases (by omega : (55296 ≤ x ∧ x ≤ 57343) ∨ x = 65533 ∨ (¬ (55296 ≤ x ∧ x ≤ 57343) ∧ x ≠ 65533)) with hS | hS | hS
      · have C := Hd.mk (ceIsL x wr q0 q1 false (by simp [hS.1, hS.2]))
        rw [if_pos (.inl hS)] at hf
        have HF := Hd.mk hf
        clear hf hS
        go_wp2_with fail
        with_reducible refine C.out.mono ?_
        rintro e w1 ⟨rfl, rfl⟩
        clear C
        go_wp2_with (at_builtin; refine wpList_append_own _ rfl _ _ 35 rfl w.heap.size 21 i0 (.int .i32 0) 1 4 Tryd.underlying35 I.out.1 I.out.2.1 I.out.2.2.1 I.out.2.2.2 rfl (by decide) _ _ _ rfl (O.out.alloc _) ⟨w1.heap.size, 0, none⟩ 1 1 [.int .i32 65534] rfl rfl ?c1 ?c2 ?c3 ?c4 ?c5 ?_)
        case c1 => exact fun j u hu => (Blk.new w1 #[.int .i32 65534] 21).cellz j (by simpa using hu)
        case c2 => exact fun u hu => by obtain rfl := List.mem_singleton.1 hu; rfl
        case c3 => unfold maxLen; omega
        case c4 => omega
        case c5 => exact Nat.le_trans HB.out.size (by simp)
        intro v' w2 hown' hgrow _
        have HO2 := Hd.mk hown'
        have HB2 := Hd.mk ((HB.out.alloc HB.out.size _).grown hgrow (Nat.le_trans HB.out.size (by simp)) (fun k hk => (O.out.lt k hk).1))
        clear hown' hgrow O
        go_wp2
        go_roundw
        case rel =>
          refine ⟨k + 1, by omega, by go_num, ?_, HB2.out⟩
          rw [EK.out, List.map_append, HF.out]
          have ho := HO2.out
          simpa [List.map_take] using ho
        case measure => simp [intOf]; omega
      · subst hS
        have C := Hd.mk (ceIsL 65533 wr q0 q1 true (by decide))
        rw [if_pos (.inr rfl)] at hf
        have HF := Hd.mk hf
        clear hf
        go_wp2_with fail
        with_reducible refine C.out.mono ?_
        rintro e w1 ⟨rfl, rfl⟩
        clear C
        go_wp2_with (at_builtin; refine wpList_append_own _ rfl _ _ 35 rfl w.heap.size 21 i0 (.int .i32 0) 1 4 Tryd.underlying35 I.out.1 I.out.2.1 I.out.2.2.1 I.out.2.2.2 rfl (by decide) _ _ _ rfl (O.out.alloc _) ⟨w1.heap.size, 0, none⟩ 1 1 [.int .i32 65534] rfl rfl ?c1 ?c2 ?c3 ?c4 ?c5 ?_)
        case c1 => exact fun j u hu => (Blk.new w1 #[.int .i32 65534] 21).cellz j (by simpa using hu)
        case c2 => exact fun u hu => by obtain rfl := List.mem_singleton.1 hu; rfl
        case c3 => unfold maxLen; omega
        case c4 => omega
        case c5 => exact Nat.le_trans HB.out.size (by simp)
        intro v' w2 hown' hgrow _
        have HO2 := Hd.mk hown'
        have HB2 := Hd.mk ((HB.out.alloc HB.out.size _).grown hgrow (Nat.le_trans HB.out.size (by simp)) (fun k hk => (O.out.lt k hk).1))
        clear hown' hgrow O
        go_wp2
        go_roundw
        case rel =>
          refine ⟨k + 1, by omega, by go_num, ?_, HB2.out⟩
          rw [EK.out, List.map_append, HF.out]
          have ho := HO2.out
          simpa [List.map_take] using ho
        case measure => simp [intOf]; omega
      · have C := Hd.mk (ceIsL x wr q0 q1 true (by simp; omega))
        rw [if_neg (by omega)] at hf
        have HF := Hd.mk hf
        have hS2 := hS.2
        clear hf hS
        go_wp2_with fail
        with_reducible refine C.out.mono ?_
        rintro e w1 ⟨rfl, rfl⟩
        clear C
        go_wp2_with (at_builtin; refine wpList_append_own _ rfl _ _ 35 rfl w.heap.size 21 i0 (.int .i32 0) 1 4 Tryd.underlying35 I.out.1 I.out.2.1 I.out.2.2.1 I.out.2.2.2 rfl (by decide) _ _ _ rfl (O.out.alloc _) ⟨w1.heap.size, 0, none⟩ 1 1 [.int .i32 x] rfl rfl ?c1 ?c2 ?c3 ?c4 ?c5 ?_)
        case c1 => exact fun j u hu => (Blk.new w1 #[.int .i32 x] 21).cellz j (by simpa using hu)
        case c2 => exact fun u hu => by obtain rfl := List.mem_singleton.1 hu; rfl
        case c3 => unfold maxLen; omega
        case c4 => omega
        case c5 => exact Nat.le_trans HB.out.size (by simp)
        intro v' w2 hown' hgrow _
        have HO2 := Hd.mk hown'
        have HB2 := Hd.mk ((HB.out.alloc HB.out.size _).grown hgrow (Nat.le_trans HB.out.size (by simp)) (fun k hk => (O.out.lt k hk).1))
        clear hown' hgrow O
        go_wp2
        go_roundw
        case rel =>
          refine ⟨k + 1, by omega, by go_num, ?_, HB2.out⟩
          rw [EK.out, List.map_append, HF.out]
          have ho := HO2.out
          simpa [List.map_take] using ho
        case measure => simp [intOf]; omega
    · obtain rfl : k = n := by omega
      go_wp2
      refine bodyPost_ret (v := _) (by simp [results, Tryd.results9, go_sem]; rfl) rfl ⟨_, rfl, ?_, HB.out⟩
      rw [List.take_of_length_le (by omega)] at hown
      exact hown
end Go.Proofs.YtmgckcngedpgoaaDoor.Kb
