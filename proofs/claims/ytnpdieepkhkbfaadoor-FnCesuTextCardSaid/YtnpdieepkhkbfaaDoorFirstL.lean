/- FnCesuFirst: the law (under way: region 5). -/
import Derived.Test.YtnpdieepkhkbfaaDoorFirstH
namespace Go.Proofs.YtnpdieepkhkbfaaDoor.Kb
open Go Go.RowKit
set_option linter.unusedVariables false
set_option linter.unusedSimpArgs false
set_option maxHeartbeats 2000000
theorem rdi_one (w : World) (a : Int) : RdI (w.alloc (.cells #[.int .i32 a] 21)) (some ⟨w.heap.size, 0, none⟩) 1 [a] :=
  ⟨rfl, fun j hj => ⟨_, rfl, by
    have : j = 0 := by simp at hj; exact hj
    subst this
    exact (Blk.new w #[.int .i32 a] 21).cellz 0 rfl, by simp⟩⟩
theorem own_rd0 {w : World} {B n : Nat} {e : TypeId} {v : Value} {xs : List Int} (h : w.ownsRow B e 1 v n (bc xs)) (hs : n ≤ 140737488351232) (h0 : 0 < n) : ∃ g c, v = .slice (some ⟨g, 0, none⟩) n c ∧ n ≤ c ∧ Rd w [] (some ⟨g, 0, none⟩) n xs := by
  obtain ⟨A, c, rfl, h1, h2, h3, _, _⟩ := own_rd h hs
  obtain ⟨_, h6⟩ := h
  rcases h6 with ⟨_, rfl⟩ | ⟨g, cap, cur, h7, _⟩
  · omega
  · cases h7
    exact ⟨g, c, rfl, h1, h3⟩
theorem own_blk {w : World} {base n s k : Nat} {e : TypeId} {v : Value} {xs : List Value} (h : w.ownsRow base e s v n xs) (hk : v.ownBlock = some k) : base ≤ k := by
  rcases h.2 with ⟨rfl, _⟩ | ⟨g, cap, cur, rfl, hg, _⟩
  · simp [Value.ownBlock] at hk
  · simp [Value.ownBlock] at hk
    omega
theorem tabs_below {w w' : World} (hT : Go.Lib.Utf8Tabs 0 1 w) (hb : Below w.heap.size w w') (hg : 2 ≤ w.heap.size) : Go.Lib.Utf8Tabs 0 1 w' :=
  ⟨fun k hk => by rw [World.cell?_of_block (w := w) (hb.block 0 (by omega))]; exact hT.1 k hk, fun i hi => ⟨(World.cell?_of_block (w := w) (a := ⟨1, 2 * i, none⟩) (hb.block 1 (by omega))).trans (hT.2 i hi).1, (World.cell?_of_block (w := w) (a := ⟨1, 2 * i + 1, none⟩) (hb.block 1 (by omega))).trans (hT.2 i hi).2⟩⟩
theorem encC_byteL (r : Int) (h0 : 0 ≤ r) (h1 : r ≤ 1114111) : ∀ x ∈ encC r, 0 ≤ x ∧ x < 256 := by
  unfold encC encU enc1 hiS loS
  intro x hx
  repeat' split at hx
  all_goals
    simp at hx
    omega
theorem call_first {v : Value} {w4 : World} {B m : Nat} {r : Int} {e : TypeId} {xs : List Int} (own : w4.ownsRow B e 1 v ((encC r).length + m) (bc (encC r) ++ bc xs)) (hm : m ≤ 60) (hby : ∀ x ∈ xs, 0 ≤ x ∧ x < 256) (hT : Go.Lib.Utf8Tabs 0 1 w4) (hg : 2 ≤ w4.heap.size)
    (hf : 0 ≤ r ∧ r ≤ 1114111 ∧ ¬ (55296 ≤ r ∧ r ≤ 57343) ∧ r ≠ 65533) (hl : (encC r).length ≤ 6 ∧ 0 < (encC r).length) :
    Calls Tryd.prog 7 #[v] w4 fun e w' => FirstOut r (encC r).length w4 e w' := by
  have own' : w4.ownsRow B e 1 v ((encC r).length + m) (bc (encC r ++ xs)) := by simpa using own
  obtain ⟨g, c, rfl, h1, h2⟩ := own_rd0 own' (by omega) (by omega)
  refine ce_first g 0 _ c (encC r ++ xs) xs r w4 h2 h1 rfl ?_ hT hg hf.1 hf.2.1 hf.2.2.1
  intro x hx
  rcases List.mem_append.1 hx with hx | hx
  · exact encC_byteL r hf.1 hf.2.1 x hx
  · exact hby x hx
set_option maxRecDepth 100000 in
theorem law_first (a : Int) (A : Option Addr) (n c m : Nat) (xs : List Int) (w : World) (hm : n ≤ 60 ∧ m = n ∨ 60 < n ∧ m = 60) (hbig : n ≤ 2147483647) (hnc : n ≤ c) (hcc : c ≤ 9223372036854775807) (hr : Rd w [] A m xs) (hby : ∀ x ∈ xs, 0 ≤ x ∧ x < 256) (hT : Go.Lib.Utf8Tabs 0 1 w) (hg : 2 ≤ w.heap.size) :
    Calls Tryd.prog 3 #[.int .i32 a, .slice A n c] w fun e w' => e = .returned (.bool true) ∧ Below w.heap.size w w' := by
  have hf := fit1_ok a
  have C := Hd.mk (ceFit (some ⟨w.heap.size, 0, none⟩) 1 1 [a] _ (by decide) (rdi_one w a))
  have HR := Hd.mk hr; have HT := Hd.mk hT; have HM := Hd.mk (And.intro (show m ≤ 60 by omega) (And.intro hby hg))
  have hnb : ¬ (2147483647 : Int) < n := by omega
  clear hr hT hby hg
  go_enter Tryd.func3, Tryd.ntmps3
  go_wp2_with fail
  with_reducible refine C.out.mono ?_
  rintro e w1 ⟨v, rfl, hown, hb⟩
  obtain ⟨A1, c1, rfl, k1, k2, hr1⟩ := own_rdi hown
  obtain ⟨ad, rfl, hc0, _⟩ := hr1.at_ 0 (by simp)
  obtain ⟨r, hrr⟩ : ∃ r, fit1 a = r := ⟨_, rfl⟩
  have hc1 : w1.cell? ad = some (.int .i32 r) := by rw [show ad = ad.add 0 by unfold Addr.add; simp]; rw [hc0]; simp [hrr]
  rw [hrr] at hf
  have C1 := Hd.mk (ceRune r w1 hf.1 hf.2.1)
  have HB1 := Hd.mk (((Below.refl _ w).alloc (Nat.le_refl _) (.cells #[.int .i32 a] 21)).trans (hb.mono (by simp)))
  have HF := Hd.mk hf
  clear hown hb hr1 hc0 hrr hf k1 k2 C
  go_wp2_with fail
  with_reducible refine C1.out.mono ?_
  rintro e w2 ⟨A2, c2, rfl, hr2, k2, k3, hb2⟩
  have HB2 := Hd.mk (HB1.out.trans (hb2.mono HB1.out.size)); have R2 := Hd.mk hr2
  clear hb2 hr2 C1
  obtain ⟨j0, hj0, hj1, hj2, hj3⟩ := info_of infoB
  have J := Hd.mk (And.intro hj0 (And.intro hj1 (And.intro hj2 hj3)))
  have own0 : (w2.alloc (.cells #[] 5)).ownsRow w2.heap.size 5 1 (.slice (some ⟨w2.heap.size, 0, none⟩) 0 0) 0 [] := World.ownsRow_lit w2 #[] 0 (Nat.le_refl _) (by decide) rfl
  have O0 := Hd.mk (show (w2.alloc (.cells #[] 5)).drew.ownsRow w2.heap.size 5 1 (.slice (some ⟨w2.heap.size, 0, none⟩) 0 0) 0 [] from own0)
  have R3 := Hd.mk (R2.out.below (((Below.refl _ w2).alloc (Nat.le_refl _) (.cells #[] 5)).drew))
  have hl6 : (encC r).length ≤ 6 ∧ 0 < (encC r).length := by
    unfold encC; split
    · have := encU_len r; omega
    · simp
  have HL6 := Hd.mk hl6
  clear own0 hj0 hj1 hj2 hj3 hl6
  have hmi : min (n : Int) 60 = m := by omega
  have hmc : (m : Int) ≤ c := by omega
  rcases hm with ⟨hm, rfl⟩ | ⟨hm, rfl⟩
  case' inr => have h60 : (60 : Int) ≤ c := by omega
  all_goals
    go_wp2_with fail
    go_region_law (first | (refine step_append_rd rfl (.tmp 20) (.tmp 21) 22 rfl w2.heap.size 5 j0 (.int .u8 0) Tryd.underlying22 J.out.1 J.out.2.1 J.out.2.2.1 J.out.2.2.2 rfl (.slice (some ⟨w2.heap.size, 0, none⟩) 0 0) 0 [] (by simp [Act.eval, Act.put]) O0.out (some A2) (encC r).length c2 (encC r) (by simp [Act.eval, Act.put]) R3.out (by have := HL6.out; omega) (by simp) ?_; intro v1 w3 own1 G1; have O1 := Hd.mk (show w3.ownsRow w2.heap.size 5 1 v1 (encC r).length (bc (encC r)) by simpa using own1); have HB3 := Hd.mk (HB2.out.trans ((((Below.refl _ w2).alloc (Nat.le_refl _) (.cells #[] 5)).drew.grown G1 (by simp) (fun k hk => by simp [Value.ownBlock] at hk; omega)).mono HB2.out.size)); have G3 := Hd.mk G1; clear own1 G1) | (refine step_append_rd rfl (.tmp 22) (.tmp 27) 22 rfl w2.heap.size 5 j0 (.int .u8 0) Tryd.underlying22 J.out.1 J.out.2.1 J.out.2.2.1 J.out.2.2.2 rfl v1 (encC r).length (bc (encC r)) (by simp [Act.eval, Act.put]) O1.out A m c xs (by simp [Act.eval, Act.put]) (HR.out.below HB3.out) (by have := HL6.out; omega) (by have := G3.out.size; simp at this; omega) ?_; intro v2 w4 own2 G2; have O2 := Hd.mk own2; have G4 := Hd.mk G2; clear own2 G2) | (refine step_append_rd rfl (.tmp 22) (.tmp 27) 22 rfl w2.heap.size 5 j0 (.int .u8 0) Tryd.underlying22 J.out.1 J.out.2.1 J.out.2.2.1 J.out.2.2.2 rfl v1 (encC r).length (bc (encC r)) (by simp [Act.eval, Act.put]) O1.out A 60 c xs (by simp [Act.eval, Act.put]) (HR.out.below HB3.out) (by have := HL6.out; omega) (by have := G3.out.size; simp at this; omega) ?_; intro v2 w4 own2 G2; have O2 := Hd.mk own2; have G4 := Hd.mk G2; clear own2 G2) | (go_simp; go_at_call 7; have HB4 := Hd.mk (HB3.out.grown G4.out HB3.out.size (fun k hk => Nat.le_trans HB2.out.size (own_blk O1.out hk))); have C9 := Hd.mk (call_first O2.out HM.out.1 HM.out.2.1 (tabs_below HT.out HB4.out HM.out.2.2) (Nat.le_trans HM.out.2.2 HB4.out.size) HF.out HL6.out); (with_reducible refine C9.out.mono ?_); rintro e w5 ⟨rfl, hb5⟩; have HB5 := Hd.mk (HB4.out.trans (hb5.mono HB4.out.size)); clear hb5 C9))
  all_goals
    go_wp2
    go_ret
    exact ⟨by simp, HB5.out⟩
theorem lt_of_cellL {w : World} {a : Addr} {v : Value} (h : w.cell? a = some v) : a.block < w.heap.size := by
  rcases Nat.lt_or_ge a.block w.heap.size with h' | h'
  · exact h'
  · simp [World.cell?, Array.getElem?_eq_none h'] at h
theorem rd_row_inL {a : Option Addr} {len cap : Nat} {zs : List Int} {w : World} (h : (a = none ∧ len = 0 ∧ cap = 0 ∧ zs = []) ∨ ∃ x, a = some x ∧ len ≤ cap ∧ cap ≤ maxLen ∧ zs.length = cap ∧ (∀ i, i < zs.length → w.cell? (x.add i) = some (.int .u8 (zs.getD i 0))) ∧ ∀ n ∈ zs, (Lit.int .u8 n).wf = true) (hs : len * 1 ≤ 140737488351232) (m : Nat) (hm : m ≤ len) :
    len ≤ cap ∧ cap ≤ maxLen ∧ Rd w [] a m (zs.take m) ∧ ∀ x ∈ zs.take m, 0 ≤ x ∧ x < 256 := by
  rcases h with ⟨rfl, rfl, rfl, rfl⟩ | ⟨x, rfl, h1, h2, h3, h4, h5⟩
  · exact ⟨Nat.le_refl _, by decide, ⟨by simp; omega, by omega, fun j hj => by simp at hj⟩, by simp⟩
  · refine ⟨h1, h2, ⟨by simp; omega, by omega, fun j hj => ?_⟩, ?_⟩
    · simp at hj
      have hc := h4 j (by omega)
      refine ⟨x, rfl, ?_, ?_, by simp⟩
      · rw [hc, List.getD_eq_getElem?_getD, List.getElem?_eq_getElem (by omega)]
        simp
      · have := lt_of_cellL hc
        rwa [add_block] at this
    · intro y hy
      have := bounds_u8 (h5 y (List.mem_of_mem_take hy))
      omega
theorem FnCesuFirst (a : Int) (A : Option Addr) (len cap : Nat) (zs : List Int) (w : World) (hw : (Lit.int .i32 a).wf = true) (h : (A = none ∧ len = 0 ∧ cap = 0 ∧ zs = []) ∨ ∃ x, A = some x ∧ len ≤ cap ∧ cap ≤ maxLen ∧ zs.length = cap ∧ (∀ i, i < zs.length → w.cell? (x.add i) = some (.int .u8 (zs.getD i 0))) ∧ ∀ n ∈ zs, (Lit.int .u8 n).wf = true) (hs : len * 1 ≤ 140737488351232) (hL : laidMetH Tryd.prog YtnpdieepkhkbfaaDoor.Rows.fnCesuFirstRow.laid w) :
    Calls Tryd.prog 3 #[.int .i32 a, .slice A len cap] w fun e w' => e = .returned (.bool true) ∧ Below w.heap.size w w' := by
  by_cases hbig : len > 2147483647
  · have hbig' : (2147483647 : Int) < len := by omega
    clear h hs hL
    go_enter Tryd.func3, Tryd.ntmps3
    go_wp2
    go_ret
    exact ⟨rfl, Below.refl _ _⟩
  obtain ⟨m, hm⟩ : ∃ m : Nat, len ≤ 60 ∧ m = len ∨ 60 < len ∧ m = 60 := by
    by_cases h : len ≤ 60
    · exact ⟨len, .inl ⟨h, rfl⟩⟩
    · exact ⟨60, .inr ⟨by omega, rfl⟩⟩
  obtain ⟨h1, h2, h3, h4⟩ := rd_row_inL h hs m (by omega)
  unfold maxLen at h2
  have hT := Door.tabs w hL
  have hg : 2 ≤ w.heap.size := lt_of_cellL (hT.2 0 (by decide)).1
  exact law_first a A len cap m (zs.take m) w hm (by omega) h1 h2 h3 h4 hT hg
end Go.Proofs.YtnpdieepkhkbfaaDoor.Kb
