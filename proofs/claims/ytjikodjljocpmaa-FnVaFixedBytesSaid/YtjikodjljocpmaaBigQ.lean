/- math/big: a carry added to a row of words into another row; addVW. -/
import Derived.Test.YtjikodjljocpmaaBigP
import Derived.Test.YtjikodjljocpmaaRinv
namespace Go.Proofs.Ytjikodjljocpmaa.Kb
open Go Go.RowKit
set_option linter.unusedVariables false
set_option linter.unusedSimpArgs false
set_option maxHeartbeats 1000000
theorem run_neq_ptr_other {P : Program} (w : World) {tp te : TypeId} {j : TypeInfo} {a b : Addr} {ca cb : Array Value} {ta tb : TypeId} (hp : P.underlying tp = some (.pointer te)) (hte : P.info? te = some j) (hsz : j.size ≠ 0)
    (hne : a ≠ b) (ha : w.heap[a.block]? = some (.cells ca ta (0, 0))) (hb : w.heap[b.block]? = some (.cells cb tb (0, 0))) :
    (binOp .neq tp (.pointer (some a)) (.pointer (some b))).run P w = .ok (.bool true) w := by
  have h : ∀ d : Nat, (Op.equalIn (d + 1) tp (.pointer (some a)) (.pointer (some b))).run P w = .ok false w := fun d => by
    simp [Op.equalIn, run_underlying hp, sizeOf, typeInfo, hte, hsz, run_sameAddr_other w hne ha hb]
  simp only [binOp]
  simp [Op.equal, Op.maxDepth, h 9999]
theorem gb_sets (g : Nat) : ∀ (cs : List Value) (o : Nat) (w : World), w.grownBy (w.setCells g o cs) (some g)
  | [], _, w => World.grownBy.refl _ _
  | v :: cs, o, w => (gb_set w g o v).trans (gb_sets g cs (o + 1) _)
theorem Blk.sets {g N : Nat} {t : List Value} {ty : TypeId} : ∀ (cs : List Value) (p : Nat) (w : World) (f : Nat → Value), Blk w g (mapR f N t) ty → p + cs.length ≤ N →
    Blk (w.setCells g p cs) g (mapR (fun j => if p ≤ j ∧ j < p + cs.length then cs.getD (j - p) undef else f j) N t) ty
  | [], p, w, f, h, _ => h.cast (mapR_congr fun j hj => by rw [if_neg (by simp)])
  | v :: cs, p, w, f, h, hp => by
    rw [List.length_cons] at hp
    refine (Blk.sets cs (p + 1) _ _ ((h.set p v).cast (by rw [mapR_set (by omega)])) (by omega)).cast (mapR_congr fun j hj => ?_)
    rw [List.length_cons]
    by_cases h1 : p + 1 ≤ j ∧ j < p + 1 + cs.length
    · rw [if_pos h1, if_pos (by omega)]
      obtain ⟨d, rfl⟩ : ∃ d, j = p + 1 + d := ⟨j - (p + 1), by omega⟩
      rw [show p + 1 + d - (p + 1) = d by omega, show p + 1 + d - p = d + 1 by omega]
      rfl
    · rw [if_neg h1]
      by_cases h2 : j = p
      · subst h2
        rw [if_pos rfl, if_pos (by omega), Nat.sub_self]; rfl
      · rw [if_neg h2, if_neg (by omega)]
/-- The words p up to m of a number, as cells. -/
def wordsL (a p m : Nat) : List Value := (List.range (m - p)).map fun j => .int .u64 (limb WB a (p + j) : Nat)
theorem wordsL_len (a p m : Nat) : (wordsL a p m).length = m - p := by simp [wordsL]
theorem wordsL_get {a p m j : Nat} (h : j < m - p) : (wordsL a p m)[j]? = some (.int .u64 (limb WB a (p + j) : Nat)) := by simp [wordsL, h]
theorem sizeW : (Try.prog.info? 91).map (·.size) = some 1 := by kernel_rfl
/-- copy of the words from p on, from one row to another. -/
theorem copyW (g gx o p k cz cx N M a : Nat) (f h : Nat → Value) (t s : List Value) (ty : TypeId) (d x : Option Addr) (W : World) (hz : Blk W g (mapR f N t) 91) (hx : Blk W gx (mapR h M s) 91) (hpk : p ≤ k) (hN : o + k ≤ N) (hM : o + k ≤ M)
    (hd : p < k → d = some ⟨g, o + p, none⟩) (hx2 : p < k → x = some ⟨gx, o + p, none⟩) (hh : ∀ j, o ≤ j → j < o + k → h j = .int .u64 (limb WB a j)) :
    (Builtin.copy_ #[77, 77] ty #[.slice d (k - p) cz, .slice x (k - p) cx]).run Try.prog W = .ok (goInt (k - p : Nat)) (W.setCells g (o + p) (wordsL a (o + p) (o + k))) := by
  rcases Nat.lt_or_ge p k with hlt | hge
  · rw [hd hlt, hx2 hlt]
    have e : (wordsL a (o + p) (o + k)).length = k - p := by rw [wordsL_len]; omega
    have := run_copy_cells (P := Try.prog) W 77 77 ty 91 g (o + p) (k - p) cz ⟨gx, o + p, none⟩ (k - p) cx (wordsL a (o + p) (o + k)) Try.underlying77 sizeW (by rw [e]; exact (Nat.min_self _).symm)
      (fun j v hv => by
        have hj : j < k - p := by
          rcases Nat.lt_or_ge j (k - p) with h1 | h1
          · exact h1
          · rw [List.getElem?_eq_none (by rw [e]; exact h1)] at hv; cases hv
        rw [wordsL_get (by omega)] at hv
        cases hv
        rw [Addr.add]
        have h2 := hx.cell (o + p + j) (mapR_get (by omega))
        rw [hh (o + p + j) (by omega) (by omega)] at h2
        by_cases h0 : j = 0
        · subst h0; rw [if_pos rfl]; exact h2
        · rw [if_neg h0]; exact h2)
      (fun j hj => by
        rw [e] at hj
        rw [hz.cell (o + p + j) (mapR_get (by omega))]; rfl)
      (fun j hj => hz.free _)
      (fun v hv => by
        unfold wordsL at hv
        obtain ⟨j, _, rfl⟩ := List.mem_map.1 hv
        rfl)
    rw [e] at this
    exact this
  · obtain rfl : p = k := by omega
    have e : wordsL a (o + p) (o + p) = [] := by unfold wordsL; rw [Nat.sub_self]; rfl
    rw [e]
    have := run_copy_none (P := Try.prog) W 77 77 ty 91 d x (p - p) cz (p - p) cx Try.underlying77 sizeW (by rw [Nat.sub_self]; rfl)
    rw [Nat.sub_self] at this ⊢
    exact this
theorem blk_tail {W : World} {g N o p k a b : Nat} {f : Nat → Value} {t : List Value} (hW : Blk W g (mapR (fun j => if o ≤ j ∧ j < o + p then .int .u64 (limb WB (a + b) j) else f j) N t) 91) (hb : ∀ j, o ≤ j → limb WB b j = 0) (hc : cin WB a b (o + p) = 0) (hN : o + k ≤ N) (hp : p ≤ k) :
    Blk (W.setCells g (o + p) (wordsL a (o + p) (o + k))) g (mapR (fun j => if o ≤ j ∧ j < o + k then .int .u64 (limb WB (a + b) j) else f j) N t) 91 := by
  refine (Blk.sets (wordsL a (o + p) (o + k)) (o + p) W _ hW (by rw [wordsL_len]; omega)).cast (mapR_congr fun j hj => ?_)
  rw [wordsL_len]
  by_cases h1 : o + p ≤ j ∧ j < o + p + (o + k - (o + p))
  · rw [if_pos h1, if_pos (by omega), List.getD_eq_getElem?_getD, wordsL_get (by omega), limb_keep (fun j hj => hb j (by omega)) hc h1.1, show o + p + (j - (o + p)) = j by omega]
    rfl
  · rw [if_neg h1]
    by_cases h2 : o ≤ j ∧ j < o + p
    · rw [if_pos h2, if_pos (by omega)]
    · rw [if_neg h2, if_neg (by omega)]
theorem blk_put {W : World} {g N o p a b : Nat} {f : Nat → Value} {t : List Value} {v : Value} (hW : Blk W g (mapR (fun j => if o ≤ j ∧ j < o + p then .int .u64 (limb WB (a + b) j) else f j) N t) 91) (hN : o + p < N) (hv : v = .int .u64 (limb WB (a + b) (o + p))) :
    Blk (W.setCell ⟨g, o + p, none⟩ v) g (mapR (fun j => if o ≤ j ∧ j < o + (p + 1) then .int .u64 (limb WB (a + b) j) else f j) N t) 91 := by
  refine (hW.set (o + p) v).cast ?_
  rw [mapR_set hN]
  refine mapR_congr fun j hj => ?_
  by_cases h1 : j = o + p
  · subst h1
    rw [if_pos rfl, if_pos (by omega), hv]
  · rw [if_neg h1]
    by_cases h2 : o ≤ j ∧ j < o + p
    · rw [if_pos h2, if_pos (by omega)]
    · rw [if_neg h2, if_neg (by omega)]
set_option maxRecDepth 100000 in
theorem addVWo (g gx o k cz cx N M a b : Nat) (f h : Nat → Value) (t s : List Value) (w : World) (hz : Blk w g (mapR f N t) 91) (hx : Blk w gx (mapR h M s) 91) (hgx : gx ≠ g) (hN : o + k ≤ N) (hM : o + k ≤ M) (hN2 : N ≤ 9223372036854775807) (hk0 : 0 < k) (hcz : k ≤ cz) (hcx : k ≤ cx)
    (hf : ∀ j, o ≤ j → j < o + k → h j = .int .u64 (limb WB a j)) (hb : ∀ j, o ≤ j → limb WB b j = 0) :
    Calls Try.prog 77 #[.slice (some ⟨g, o, none⟩) k cz, .slice (some ⟨gx, o, none⟩) k cx, .int .u64 (cin WB a b o : Nat)] w fun e w' => VWOut w g a b o (o + k) f N t e w' := by
  obtain ⟨jW, hj, hj2, hj3, _⟩ := info_of infoW
  have HNE := Hd.mk (fun (W : World) (hw : (∃ cs, Blk W g cs 91) ∧ ∃ cs, Blk W gx cs 91) => (show (binOp .neq 137 (.pointer (some ⟨g, o, none⟩)) (.pointer (some ⟨gx, o, none⟩))).run Try.prog W = .ok (.bool true) W from by
    obtain ⟨⟨cs, h1⟩, cs', h2⟩ := hw
    exact run_neq_ptr_other W Try.underlying137 hj (by rw [hj3]; decide) (a := ⟨g, o, none⟩) (b := ⟨gx, o, none⟩) (by intro e; cases e; exact hgx rfl) h1 h2))
  have HZ := Hd.mk hz; have HF := Hd.mk hf; have HB := Hd.mk hb; have HX := Hd.mk hx; have GX := Hd.mk hgx
  have d0 : w.cell? ⟨gx, o, none⟩ = some (.int .u64 (limb WB a o)) := by
    have := hx.cell o (mapR_get (by omega))
    rw [hf o (Nat.le_refl _) (by omega)] at this
    exact this
  have f0 := hz.free o
  obtain ⟨e0, d1⟩ : ∃ v, w.cell? ⟨g, o, none⟩ = some v := ⟨_, hz.cell o (mapR_get (by omega))⟩
  have HS1 := Hd.mk (show Blk (w.setCell ⟨g, o, none⟩ (.int .u64 (limb WB (a + b) o))) g (mapR (fun j => if o ≤ j ∧ j < o + 1 then .int .u64 (limb WB (a + b) j) else f j) N t) 91 from
    blk_put (p := 0) (hz.cast (mapR_congr fun j hj => by rw [if_neg (by omega)])) (by omega) rfl)
  have HX1 := Hd.mk (hx.set_ne (p := ⟨g, o, none⟩) (fun e => hgx e.symm) (.int .u64 (limb WB (a + b) o)))
  have GB1 := Hd.mk (gb_set w g o (.int .u64 (limb WB (a + b) o)))
  have C' := Hd.mk (fun w => (show Calls Try.prog 83 #[.int .u64 (limb WB a o : Nat), .int .u64 (cin WB a b o : Nat), .int .u64 0] w fun e w' => e = .returned (.tuple #[.int .u64 (limb WB (a + b) o : Nat), .int .u64 (cin WB a b (o + 1) : Nat)]) ∧ w = w' from by
    refine (bitsAdd (limb WB a o) (cin WB a b o) 0 (by omega) w).mono ?_
    rintro e w' ⟨rfl, rfl⟩
    rw [sum_limb WB1, cin_succ WB1, hb o (Nat.le_refl _), show limb WB a o + cin WB a b o + 0 = cin WB a b o + limb WB a o + 0 by omega]
    exact ⟨rfl, rfl⟩))
  have hc1 := cin_le WB1 a b (o + 1)
  have i1 : (1 : Int) ≤ k := by omega
  have i2 : (1 : Int) ≤ cz := by omega
  have i3 : (1 : Int) ≤ cx := by omega
  have i4 : (k : Int) ≤ cz := by omega
  have i5 : (k : Int) ≤ cx := by omega
  have HR := Hd.mk (fun (d x : Option Addr) (p : Nat) (F : Nat → Value) (hp : p ≤ k) (h1 : p < k → d = some ⟨g, o + p, none⟩) (h2 : p < k → x = some ⟨gx, o + p, none⟩) (ty : TypeId) (W : World) (hW1 : Blk W g (mapR F N t) 91) (hW2 : Blk W gx (mapR h M s) 91) => copyW g gx o p k (cz - p) (cx - p) N M a _ h t s ty d x W hW1 hW2 hp hN hM h1 h2 hf)
  clear hz hf hb hx
  rcases (show cin WB a b (o + 1) = 0 ∨ cin WB a b (o + 1) = 1 by omega) with hc | hc
  · have RS := Hd.mk (show cin WB a b (o + k) = 0 by
      have := carry_none (a := a) (b := b) (p := o + 1) (fun j hj => HB.out j (by omega)) hc (k - 1)
      rwa [show o + 1 + (k - 1) = o + k by omega] at this)
    have HCC := Hd.mk hc
    rw [hc] at C'
    clear hc hc1
    have FIN := Hd.mk (blk_tail HS1.out.drew.drew HB.out HCC.out hN hk0)
    have FG := Hd.mk ((gb_drew (gb_drew GB1.out)).trans (gb_sets g (wordsL a (o + 1) (o + k)) (o + 1) _))
    go_enter Try.func77, Try.ntmps77
    go_wp2_with fail
    with_reducible refine (C'.out _).mono ?_
    rintro e w2 ⟨rfl, rfl⟩
    go_wp2_with fail
    refine wp_region_held_drew (S := (fun W => (∃ cs, Blk W g cs 91) ∧ ∃ cs, Blk W gx cs 91)) (by kernel_rfl) ?_ (fun hHeld => ?_)
    · exact ⟨⟨_, HS1.out.drew⟩, _, HX1.out.drew⟩
    refine wpAnyH_take_d (i := 0) (some 34) (v := ?_) rfl rfl (by kernel_rfl) (by kernel_rfl) (by kernel_rfl) (fun _ _ _ h => h) (Or.inl ⟨by rfl, ?_⟩) hHeld ?_
    rotate_left
    · (intro w' hSw; (try dsimp only at hSw); go_simp; all_goals (with_reducible rfl))
    (try simp only [Act.put, List.setIfInBounds_toArray, List.set_cons_zero, List.set_cons_succ])
    refine wpAnyH_take_d (i := 1) (some 35) (v := ?_) rfl rfl (by kernel_rfl) (by kernel_rfl) (by kernel_rfl) (fun _ _ _ h => h) (Or.inl ⟨by rfl, ?_⟩) hHeld ?_
    rotate_left
    · (intro w' hSw; (try dsimp only at hSw); go_simp; all_goals (with_reducible rfl))
    (try simp only [Act.put, List.setIfInBounds_toArray, List.set_cons_zero, List.set_cons_succ])
    refine wpAnyH_take_d (i := 2) (some 36) (v := ?_) rfl rfl (by kernel_rfl) (by kernel_rfl) (by kernel_rfl) (fun _ _ _ h => h) (Or.inl ⟨by rfl, ?_⟩) hHeld ?_
    rotate_left
    · (intro w' hSw; (try dsimp only at hSw); go_simp; all_goals (with_reducible rfl))
    (try simp only [Act.put, List.setIfInBounds_toArray, List.set_cons_zero, List.set_cons_succ])
    refine wpAnyH_take_d (i := 3) (some 37) (v := ?_) rfl rfl (by kernel_rfl) (by kernel_rfl) (by kernel_rfl) (fun _ _ _ h => h) (Or.inl ⟨by rfl, ?_⟩) hHeld ?_
    rotate_left
    · (intro w' hSw; (try dsimp only at hSw); go_simp; all_goals (with_reducible rfl))
    (try simp only [Act.put, List.setIfInBounds_toArray, List.set_cons_zero, List.set_cons_succ])
    refine wpAnyH_take_d (i := 4) (some 38) (v := ?_) rfl rfl (by kernel_rfl) (by kernel_rfl) (by kernel_rfl) (fun _ _ _ h => h) (Or.inl ⟨by rfl, ?_⟩) hHeld ?_
    rotate_left
    · (intro w' hSw; have e8 := HNE.out w' hSw; go_simp; all_goals (with_reducible rfl))
    (try simp only [Act.put, List.setIfInBounds_toArray, List.set_cons_zero, List.set_cons_succ])
    refine wpAnyH_done (by kernel_rfl) ?_ _
    go_wp2_with fail
    refine wp_region_held_drew (S := (fun W => True)) (by kernel_rfl) ?_ (fun hHeld => ?_)
    · exact trivial
    refine wpAnyH_take_d (i := 0) (some 39) (v := ?_) rfl rfl (by kernel_rfl) (by kernel_rfl) (by kernel_rfl) (fun _ _ _ h => h) (Or.inl ⟨by rfl, ?_⟩) hHeld ?_
    rotate_left
    · (intro w' hSw; (try dsimp only at hSw); go_simp; all_goals (with_reducible rfl))
    (try simp only [Act.put, List.setIfInBounds_toArray, List.set_cons_zero, List.set_cons_succ])
    refine wpAnyH_take_d (i := 1) (some 40) (v := ?_) rfl rfl (by kernel_rfl) (by kernel_rfl) (by kernel_rfl) (fun _ _ _ h => h) (Or.inl ⟨by rfl, ?_⟩) hHeld ?_
    rotate_left
    · (intro w' hSw; (try dsimp only at hSw); go_simp; all_goals (with_reducible rfl))
    (try simp only [Act.put, List.setIfInBounds_toArray, List.set_cons_zero, List.set_cons_succ])
    refine wpAnyH_take_d (i := 2) (some 41) (v := ?_) rfl rfl (by kernel_rfl) (by kernel_rfl) (by kernel_rfl) (fun _ _ _ h => h) (Or.inl ⟨by rfl, ?_⟩) hHeld ?_
    rotate_left
    · (intro w' hSw; (try dsimp only at hSw); go_simp; all_goals (with_reducible rfl))
    (try simp only [Act.put, List.setIfInBounds_toArray, List.set_cons_zero, List.set_cons_succ])
    refine wpAnyH_take_d (i := 3) (some 42) (v := ?_) rfl rfl (by kernel_rfl) (by kernel_rfl) (by kernel_rfl) (fun _ _ _ h => h) (Or.inl ⟨by rfl, ?_⟩) hHeld ?_
    rotate_left
    · (intro w' hSw; (try dsimp only at hSw); go_simp; all_goals (with_reducible rfl))
    (try simp only [Act.put, List.setIfInBounds_toArray, List.set_cons_zero, List.set_cons_succ])
    refine wpAnyH_ready (rs := [4]) (by kernel_rfl) (by simp) ?_
    refine AllReadyH.cons rfl (fun K hK => ?_) AllReadyH.nil
    refine Lib.wp_copy_run _ _ _ 77 77 rfl _ _ rfl rfl (HR.out _ _ 1 _ (by omega) (by intro hlt; first | rfl | (simp; omega)) (by intro hlt; first | rfl | (simp; omega)) _ _ HS1.out.drew.drew HX1.out.drew.drew) ?_
    refine hK.out _ _ ?_ (fun hHeld => ?_)
    · exact trivial
    clear hK K
    (try simp only [Act.put, List.setIfInBounds_toArray, List.set_cons_zero, List.set_cons_succ])
    refine wpAnyH_done (by kernel_rfl) ?_ _
    go_wp2
    all_goals (go_ret; exact ⟨by rw [RS.out]; rfl, FIN.out, FG.out⟩)
  · have HCC := Hd.mk hc
    rw [hc] at C'
    clear hc hc1
    go_enter Try.func77, Try.ntmps77
    go_wp2_with fail
    with_reducible refine (C'.out _).mono ?_
    rintro e w2 ⟨rfl, rfl⟩
    clear C'
    go_wp2_with fail
    go_loopw [9, 10] (fun i _ wr => ∃ j : Nat, 1 ≤ j ∧ j ≤ k ∧ i = .int .i64 j ∧ cin WB a b (o + j) = 1 ∧ Blk wr g (mapR (fun p => if o ≤ p ∧ p < o + j then .int .u64 (limb WB (a + b) p) else f p) N t) 91 ∧ Blk wr gx (mapR h M s) 91 ∧ w.grownBy wr (some g)) (fun i _ _ => k - (intOf i).toNat)
    case atStart => exact ⟨1, by omega, by omega, rfl, HCC.out, HS1.out, HX1.out, GB1.out⟩
    case round =>
      obtain ⟨j, hj1, hjk, rfl, hcj, hbk, hxk, hgb⟩ := hrel
      have HK := Hd.mk hbk; have HXK := Hd.mk hxk; have HG := Hd.mk hgb; have HCJ := Hd.mk hcj
      clear hbk hxk hgb hcj
      by_cases hlt : j < k
      · have d1 : wr.cell? ⟨gx, o + j, none⟩ = some (.int .u64 (limb WB a (o + j))) := by
          have := HXK.out.cell (o + j) (mapR_get (by omega))
          rw [HF.out (o + j) (by omega) (by omega)] at this
          exact this
        obtain ⟨e0, d0⟩ : ∃ v, wr.cell? ⟨g, o + j, none⟩ = some v := ⟨_, HK.out.cell (o + j) (mapR_get (by omega))⟩
        have f1 := HK.out.free (o + j)
        have hx := WBlt a (o + j)
        have HB' := Hd.mk (HB.out (o + j) (by omega))
        by_cases hm : limb WB a (o + j) = 18446744073709551615
        · obtain ⟨r1, r2⟩ := limb_roll HB'.out HCJ.out hm
          rw [hm] at d1
          have R1 := Hd.mk r1; have R2 := Hd.mk r2
          clear r1 r2 hm hx
          go_wp2
          go_roundw
          case rel => exact ⟨j + 1, by omega, by omega, by go_num, R2.out, blk_put HK.out (by omega) (by rw [R1.out]; rfl), HXK.out.set_ne (fun e => GX.out e.symm) _, HG.out.trans (gb_set _ _ _ _)⟩
          case measure => simp [intOf]; omega
        · obtain ⟨r1, r2⟩ := limb_up HB'.out HCJ.out hm
          have R2 := Hd.mk r2
          have RS := Hd.mk (show cin WB a b (o + k) = 0 by
            have := carry_none (a := a) (b := b) (p := o + j + 1) (fun j hj => HB.out j (by omega)) r2 (k - (j + 1))
            rwa [show o + j + 1 + (k - (j + 1)) = o + k by omega] at this)
          generalize hX : limb WB a (o + j) = x at *
          have HS2 := Hd.mk (show Blk (wr.setCell ⟨g, o + j, none⟩ (.int .u64 ((x : Int) + 1))) g _ 91 from blk_put (v := .int .u64 ((x : Int) + 1)) HK.out (by omega) (by rw [r1]; simp))
          have HX2 := Hd.mk (HXK.out.set_ne (p := ⟨g, o + j, none⟩) (fun e => GX.out e.symm) (.int .u64 ((x : Int) + 1)))
          have GB2 := Hd.mk (HG.out.trans (gb_set wr g (o + j) (.int .u64 ((x : Int) + 1))))
          have HM := Hd.mk hm
          clear r1 r2 hm
          have hm1 : x ≠ 18446744073709551615 := HM.out
          have hm2 : ((x : Int) != 18446744073709551615) = true := by simp; omega
          have k1 : (0 : Int) ≤ (j : Int) + 1 := by omega
          have k2 : (j : Int) + 1 ≤ k := by omega
          have k3 : (j : Int) + 1 ≤ cz := by omega
          have k4 : (j : Int) + 1 ≤ cx := by omega
          have k5 : IntKind.i64.wrap ((j : Int) + 1) = (j : Int) + 1 := by rw [IntKind.wrap_i64]; omega
          clear hX
          have FIN := Hd.mk (blk_tail HS2.out.drew.drew HB.out R2.out hN (by omega))
          have FG := Hd.mk ((gb_drew (gb_drew GB2.out)).trans (gb_sets g (wordsL a (o + (j + 1)) (o + k)) (o + (j + 1)) _))
          go_wp2_with fail
          refine wp_region_held_drew (S := (fun W => (∃ cs, Blk W g cs 91) ∧ ∃ cs, Blk W gx cs 91)) (by kernel_rfl) ?_ (fun hHeld => ?_)
          · exact ⟨⟨_, HS2.out.drew⟩, _, HX2.out.drew⟩
          refine wpAnyH_take_d (i := 0) (some 61) (v := ?_) rfl rfl (by kernel_rfl) (by kernel_rfl) (by kernel_rfl) (fun _ _ _ h => h) (Or.inl ⟨by rfl, ?_⟩) hHeld ?_
          rotate_left
          · (intro w' hSw; (try dsimp only at hSw); go_simp; all_goals (with_reducible rfl))
          (try simp only [Act.put, List.setIfInBounds_toArray, List.set_cons_zero, List.set_cons_succ])
          refine wpAnyH_take_d (i := 1) (some 62) (v := ?_) rfl rfl (by kernel_rfl) (by kernel_rfl) (by kernel_rfl) (fun _ _ _ h => h) (Or.inl ⟨by rfl, ?_⟩) hHeld ?_
          rotate_left
          · (intro w' hSw; (try dsimp only at hSw); go_simp; all_goals (with_reducible rfl))
          (try simp only [Act.put, List.setIfInBounds_toArray, List.set_cons_zero, List.set_cons_succ])
          refine wpAnyH_take_d (i := 2) (some 63) (v := ?_) rfl rfl (by kernel_rfl) (by kernel_rfl) (by kernel_rfl) (fun _ _ _ h => h) (Or.inl ⟨by rfl, ?_⟩) hHeld ?_
          rotate_left
          · (intro w' hSw; (try dsimp only at hSw); go_simp; all_goals (with_reducible rfl))
          (try simp only [Act.put, List.setIfInBounds_toArray, List.set_cons_zero, List.set_cons_succ])
          refine wpAnyH_take_d (i := 3) (some 64) (v := ?_) rfl rfl (by kernel_rfl) (by kernel_rfl) (by kernel_rfl) (fun _ _ _ h => h) (Or.inl ⟨by rfl, ?_⟩) hHeld ?_
          rotate_left
          · (intro w' hSw; (try dsimp only at hSw); go_simp; all_goals (with_reducible rfl))
          (try simp only [Act.put, List.setIfInBounds_toArray, List.set_cons_zero, List.set_cons_succ])
          refine wpAnyH_take_d (i := 4) (some 65) (v := ?_) rfl rfl (by kernel_rfl) (by kernel_rfl) (by kernel_rfl) (fun _ _ _ h => h) (Or.inl ⟨by rfl, ?_⟩) hHeld ?_
          rotate_left
          · (intro w' hSw; have e8 := HNE.out w' hSw; go_simp; all_goals (with_reducible rfl))
          (try simp only [Act.put, List.setIfInBounds_toArray, List.set_cons_zero, List.set_cons_succ])
          refine wpAnyH_done (by kernel_rfl) ?_ _
          go_wp2_with fail
          refine wp_region_held_drew (S := (fun W => True)) (by kernel_rfl) ?_ (fun hHeld => ?_)
          · exact trivial
          refine wpAnyH_take_d (i := 0) (some 66) (v := ?_) rfl rfl (by kernel_rfl) (by kernel_rfl) (by kernel_rfl) (fun _ _ _ h => h) (Or.inl ⟨by rfl, ?_⟩) hHeld ?_
          rotate_left
          · (intro w' hSw; (try dsimp only at hSw); go_simp; all_goals (with_reducible rfl))
          (try simp only [Act.put, List.setIfInBounds_toArray, List.set_cons_zero, List.set_cons_succ])
          refine wpAnyH_take_d (i := 1) (some 67) (v := ?_) rfl rfl (by kernel_rfl) (by kernel_rfl) (by kernel_rfl) (fun _ _ _ h => h) (Or.inl ⟨by rfl, ?_⟩) hHeld ?_
          rotate_left
          · (intro w' hSw; (try dsimp only at hSw); go_simp; all_goals (with_reducible rfl))
          (try simp only [Act.put, List.setIfInBounds_toArray, List.set_cons_zero, List.set_cons_succ])
          refine wpAnyH_take_d (i := 2) (some 68) (v := ?_) rfl rfl (by kernel_rfl) (by kernel_rfl) (by kernel_rfl) (fun _ _ _ h => h) (Or.inl ⟨by rfl, ?_⟩) hHeld ?_
          rotate_left
          · (intro w' hSw; (try dsimp only at hSw); go_simp; all_goals (with_reducible rfl))
          (try simp only [Act.put, List.setIfInBounds_toArray, List.set_cons_zero, List.set_cons_succ])
          refine wpAnyH_take_d (i := 3) (some 69) (v := ?_) rfl rfl (by kernel_rfl) (by kernel_rfl) (by kernel_rfl) (fun _ _ _ h => h) (Or.inl ⟨by rfl, ?_⟩) hHeld ?_
          rotate_left
          · (intro w' hSw; (try dsimp only at hSw); go_simp; all_goals (with_reducible rfl))
          (try simp only [Act.put, List.setIfInBounds_toArray, List.set_cons_zero, List.set_cons_succ])
          refine wpAnyH_take_d (i := 4) (some 70) (v := ?_) rfl rfl (by kernel_rfl) (by kernel_rfl) (by kernel_rfl) (fun _ _ _ h => h) (Or.inl ⟨by rfl, ?_⟩) hHeld ?_
          rotate_left
          · (intro w' hSw; (try dsimp only at hSw); go_simp; all_goals (with_reducible rfl))
          (try simp only [Act.put, List.setIfInBounds_toArray, List.set_cons_zero, List.set_cons_succ])
          refine wpAnyH_take_d (i := 5) (some 71) (v := ?_) rfl rfl (by kernel_rfl) (by kernel_rfl) (by kernel_rfl) (fun _ _ _ h => h) (Or.inl ⟨by rfl, ?_⟩) hHeld ?_
          rotate_left
          · (intro w' hSw; (try dsimp only at hSw); go_simp; all_goals (with_reducible rfl))
          (try simp only [Act.put, List.setIfInBounds_toArray, List.set_cons_zero, List.set_cons_succ])
          refine wpAnyH_take_d (i := 6) (some 72) (v := ?_) rfl rfl (by kernel_rfl) (by kernel_rfl) (by kernel_rfl) (fun _ _ _ h => h) (Or.inl ⟨by rfl, ?_⟩) hHeld ?_
          rotate_left
          · (intro w' hSw; (try dsimp only at hSw); go_simp; all_goals (with_reducible rfl))
          (try simp only [Act.put, List.setIfInBounds_toArray, List.set_cons_zero, List.set_cons_succ])
          refine wpAnyH_take_d (i := 7) (some 73) (v := ?_) rfl rfl (by kernel_rfl) (by kernel_rfl) (by kernel_rfl) (fun _ _ _ h => h) (Or.inl ⟨by rfl, ?_⟩) hHeld ?_
          rotate_left
          · (intro w' hSw; (try dsimp only at hSw); go_simp; all_goals (with_reducible rfl))
          (try simp only [Act.put, List.setIfInBounds_toArray, List.set_cons_zero, List.set_cons_succ])
          refine wpAnyH_ready (rs := [8]) (by kernel_rfl) (by simp) ?_
          refine AllReadyH.cons rfl (fun K hK => ?_) AllReadyH.nil
          refine Lib.wp_copy_run _ _ _ 77 77 rfl _ _ rfl rfl (HR.out _ _ (j + 1) _ (by omega) (by intro hlt; first | rfl | (simp; omega)) (by intro hlt; first | rfl | (simp; omega)) _ _ HS2.out.drew.drew HX2.out.drew.drew) ?_
          refine hK.out _ _ ?_ (fun hHeld => ?_)
          · exact trivial
          clear hK K
          (try simp only [Act.put, List.setIfInBounds_toArray, List.set_cons_zero, List.set_cons_succ])
          refine wpAnyH_done (by kernel_rfl) ?_ _
          go_wp2
          all_goals (go_ret; exact ⟨by rw [RS.out]; rfl, FIN.out, FG.out⟩)
      · obtain rfl : j = k := by omega
        go_wp2
        go_ret
        exact ⟨by rw [HCJ.out]; rfl, HK.out, HG.out⟩
end Go.Proofs.Ytjikodjljocpmaa.Kb
