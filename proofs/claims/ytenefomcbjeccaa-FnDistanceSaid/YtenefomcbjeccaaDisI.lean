/- FnDistance: levenshtein.distance. -/
import Derived.Test.YtenefomcbjeccaaDisA
import Derived.IntWalk
namespace Go.Proofs.Ytenefomcbjeccaa.Kb
open Go Go.RowKit
set_option linter.unusedVariables false
set_option linter.unusedSimpArgs false
set_option maxHeartbeats 4000000
theorem infoN : (Try.prog.info? 3).map (fun i => (i.zero, i.size, i.bytes)) = some (some (.int .i64 0), 1, 8) := by kernel_rfl
theorem zs_mx (N : Nat) (P : Nat → Value) (z : Value) : zs N z = mx N P (fun _ => z) 0 := by
  unfold zs mx
  apply List.ext_getElem?
  intro i
  by_cases hi : i < N
  · simp [hi]
  · rw [List.getElem?_eq_none (by simp; omega), List.getElem?_eq_none (by simp; omega)]
theorem Blk.iterAt {w : World} {g : Nat} {cs : Array Value} {t : TypeId} (h : Blk w g cs t) {k : Nat} (hk : g ≠ k) (s : ByteArray) (pos : Nat) : Blk (w.iterAt k s pos) g cs t := (Go.Lib.iterAt_other w k g s pos hk).trans h
theorem iter_set {w : World} {k : Nat} {s : ByteArray} {pos : Nat} (h : w.heap[k]? = some (.stringIter s pos)) {p : Addr} (hk : k ≠ p.block) (v : Value) : (w.setCell p v).heap[k]? = some (.stringIter s pos) := (Below.heap_setCell _ _ _ _ hk).trans h
theorem iter_alloc {w : World} {k : Nat} {s : ByteArray} {pos : Nat} (h : w.heap[k]? = some (.stringIter s pos)) (o : Obj) : (w.alloc o).heap[k]? = some (.stringIter s pos) := by
  have := (Array.getElem?_eq_some_iff.1 h).1
  show (w.heap.push o)[k]? = _
  rw [Array.getElem?_push, if_neg (by omega)]
  exact h
theorem w64 (x : Nat) (h : x ≤ 10000) : IntKind.i64.wrap ((x : Int) + 1) = (x : Int) + 1 := by rw [IntKind.wrap_i64]; omega
theorem w64d (x : Nat) (h : x ≤ 10000) : IntKind.i64.wrap ((x : Int) + 1 - 1) = (x : Int) := by rw [IntKind.wrap_i64]; omega
theorem mx_full0 (N : Nat) (P Q R : Nat → Value) : mx N P Q 0 = mx N R Q 0 := by
  unfold mx
  simp
/-- A row of the table. -/
def rowV (M : Nat → Nat → Bool) (i : Nat) : Nat → Value := fun t => .int .i64 (G M i t)
/-- A distance is the result. -/
def DistOut (n : Nat) (w : World) (e : Ending) (w' : World) : Prop := e = .returned (.int .i64 n) ∧ Below w.heap.size w w'
set_option maxRecDepth 100000 in
theorem dist (a b : ByteArray) (w : World) (ha : a.size ≤ 100) (hb : b.size ≤ 100) (aa : Asc a) (ab : Asc b) :
    Calls Try.prog 37 #[.string a, .string b] w fun e w' => DistOut (G (fun i j => decide (at_ a i = at_ b j)) a.size b.size) w e w' := by
  obtain ⟨M, hM⟩ : ∃ M, (fun i j => decide (at_ a i = at_ b j)) = M := ⟨_, rfl⟩
  rw [hM]
  have C := Hd.mk (runeCount b w (by omega) ab)
  have AA := Hd.mk aa; have AB := Hd.mk ab; have HM := Hd.mk hM
  clear aa ab hM
  go_enter Try.func37, Try.ntmps37
  go_wp2_with fail
  with_reducible refine C.out.mono ?_
  rintro e w1 ⟨rfl, hb1⟩
  have HB1 := Hd.mk hb1
  clear hb1 C
  go_wp2_with (refine wpList_make_z rfl _ _ 28 rfl 3 (.int .i64 0) 8 Try.underlying28 infoN rfl .i64 .i64 _ _ (b.size + 1) rfl rfl (by omega) (by omega) (by omega) (by omega) ?_)
  intro w2 hB hl hsz
  obtain ⟨g, hg⟩ : ∃ g, w1.heap.size = g := ⟨_, rfl⟩
  have hgw : w.heap.size ≤ g := by rw [← hg]; exact HB1.out.size
  rw [hg] at hB hl hsz ⊢
  rw [zs_mx _ (fun t => .int .i64 t)] at hB
  have HB := Hd.mk hB; have HL := Hd.mk (HB1.out.trans (hl.mono (by omega)))
  clear hB hl hsz hg HB1
  go_wp2
  go_loopw [20] (fun i wr => ∃ k : Nat, k ≤ b.size + 1 ∧ i = .int .i64 k ∧ Blk wr g (mx (b.size + 1) (fun t => .int .i64 t) (fun _ => .int .i64 0) k).toArray 3 ∧ Below w.heap.size w wr) (fun i _ => b.size + 1 - (intOf i).toNat)
  case atStart => exact ⟨0, Nat.zero_le _, rfl, HB.out, HL.out⟩
  case round =>
    obtain ⟨k, hk, rfl, hB, hbw⟩ := hrel
    by_cases hlt : k < b.size + 1
    · have s0 : wr.cell? ⟨g, k, none⟩ = some (.int .i64 0) := hB.cell k (by simp only [List.getElem?_toArray]; rw [mx_get _ _ _ _ _ hlt, if_neg (Nat.lt_irrefl k)])
      have f0 := hB.free k
      have H2 := Hd.mk ((hB.set k (.int .i64 k)).cast (cs' := (mx (b.size + 1) (fun t => .int .i64 t) (fun _ => .int .i64 0) (k + 1)).toArray) (by
        rw [List.setIfInBounds_toArray, ← mx_set _ (fun t => Value.int .i64 t) _ k hlt]))
      have HB2 := Hd.mk (hbw.setCell (p := ⟨g, k, none⟩) hgw (.int .i64 k))
      clear hB hbw
      go_wp2
      go_roundw
      case rel => exact ⟨k + 1, by omega, by go_num, H2.out, HB2.out⟩
      case measure => simp [intOf]; omega
    · have ek : k = b.size + 1 := by omega
      subst ek
      have hB2 := hB.cast (cs' := (mx (b.size + 1) (fun _ => .nilIface) (rowV M 0) 0).toArray) (by
        congr 1
        exact mx_full _ _ _ _ _ (Nat.le_refl _))
      obtain ⟨ia, hia⟩ : ∃ ia, wr.heap.size = ia := ⟨_, rfl⟩
      have hgi : g < ia := by rw [← hia]; exact hB.lt
      have HB := Hd.mk (hB2.alloc (.stringIter a 0)); have HBW := Hd.mk (hbw.alloc hbw.size (.stringIter a 0))
      have HI := Hd.mk (World.iter_heap wr a 0)
      rw [hia] at HI
      clear hB hB2 hbw
      go_wp2
      obtain ⟨W, hW⟩ : ∃ W, W = wr.iter a 0 := ⟨_, rfl⟩
      rw [← hW] at HI ⊢
      have HB3 : Hd (Blk W g (mx (b.size + 1) (fun _ => .nilIface) (rowV M 0) 0).toArray 3) := ⟨by rw [hW]; exact HB.out⟩
      have HBW3 : Hd (Below w.heap.size w W) := ⟨by rw [hW]; exact HBW.out⟩
      clear HB HBW hia hW HL
      go_loopw [8] (fun _ wq => ∃ i : Nat, i ≤ a.size ∧ wq.heap[ia]? = some (.stringIter a i) ∧ Blk wq g (mx (b.size + 1) (fun _ => .nilIface) (rowV M i) 0).toArray 3 ∧ Below w.heap.size w wq) (fun _ w' => a.size - w'.iterPos ia)
      case atStart => exact ⟨0, Nat.zero_le _, HI.out, HB3.out, HBW3.out⟩
      case round =>
        obtain ⟨i, hi, hI, hB, hbw⟩ := hrel
        by_cases hilt : i < a.size
        · have hx : (a[i]'hilt).toNat < 128 := by rw [at_get]; exact AA.out i
          have hnx : ∀ ty, (Instr.next (.pointer (some ⟨ia, 0, none⟩)) true ty).run Try.prog wr = _ := fun ty => Go.Lib.run_next_ascii_at wr ia a i ty hI hilt hx
          simp only [at_get] at hnx
          have PI : Hd (wr.iterPos ia = i) := ⟨iterPos_of hI⟩
          have hB1 := hB.iterAt (k := ia) (by omega) a (i + 1)
          have hI1 := Go.Lib.iterAt_heap wr ia a i (i + 1) hI
          have hbw1 := Go.Lib.below_iterAt hbw (k := ia) (by omega) a (i + 1)
          obtain ⟨W1, hW1⟩ : ∃ W1, wr.iterAt ia a (i + 1) = W1 := ⟨_, rfl⟩
          simp only [hW1] at hnx
          rw [hW1] at hB1 hI1 hbw1
          have s0 : W1.cell? ⟨g, 0, none⟩ = some (.int .i64 i) := hB1.cell 0 (by simp only [List.getElem?_toArray]; rw [mx_get _ _ _ _ _ (by omega), if_neg (by omega)]; simp [rowV, G_zero])
          have f0 := hB1.free 0
          have hB2 := (hB1.set 0 (.int .i64 ((i : Int) + 1))).cast (cs' := (mx (b.size + 1) (rowV M (i + 1)) (rowV M i) 1).toArray) (by
            rw [List.setIfInBounds_toArray, ← mx_set _ (rowV M (i + 1)) _ 0 (by omega)]
            have e : rowV M (i + 1) 0 = .int .i64 ((i : Int) + 1) := by simp [rowV, G_zero]
            rw [e, mx_full0 _ (rowV M (i + 1))])
          have hI2 := iter_set hI1 (p := ⟨g, 0, none⟩) (by simp; omega) (.int .i64 ((i : Int) + 1))
          have hbw2 := hbw1.setCell (p := ⟨g, 0, none⟩) hgw (.int .i64 ((i : Int) + 1))
          clear hB1 hI1 hbw1 hB hI hbw hx hW1
          have h64 : i ≤ 100 := by omega
          go_wp2
          obtain ⟨ib, hib⟩ : ∃ ib, W1.heap.size = ib := ⟨_, rfl⟩
          have hsz : (W1.setCell ⟨g, 0, none⟩ (.int .i64 ((i : Int) + 1))).heap.size = ib := by rw [← hib]; simp [World.setCell]
          have hgib : g < ib := by rw [← hsz]; exact hB2.lt
          have hiib : ia < ib := by rw [← hsz]; exact (Array.getElem?_eq_some_iff.1 hI2).1
          have hJ := World.iter_heap (W1.setCell ⟨g, 0, none⟩ (.int .i64 ((i : Int) + 1))) b 0
          rw [hsz] at hJ
          have hB3 := hB2.alloc (.stringIter b 0)
          have hI3 := iter_alloc hI2 (.stringIter b 0)
          have hbw3 := hbw2.alloc hbw2.size (.stringIter b 0)
          obtain ⟨W3, hW3⟩ : ∃ W3, W3 = (W1.setCell ⟨g, 0, none⟩ (.int .i64 ((i : Int) + 1))).iter b 0 := ⟨_, rfl⟩
          change Blk ((W1.setCell ⟨g, 0, none⟩ (.int .i64 ((i : Int) + 1))).iter b 0) _ _ _ at hB3
          change ((W1.setCell ⟨g, 0, none⟩ (.int .i64 ((i : Int) + 1))).iter b 0).heap[ia]? = _ at hI3
          change Below _ _ ((W1.setCell ⟨g, 0, none⟩ (.int .i64 ((i : Int) + 1))).iter b 0) at hbw3
          rw [← hW3] at hJ hB3 hI3 hbw3 ⊢
          rw [hib]
          have J3 := Hd.mk hJ; have B3 := Hd.mk hB3; have I3 := Hd.mk hI3; have BW3 := Hd.mk hbw3
          clear hW3 hsz hib hJ hB3 hI3 hbw3 hB2 hI2 hbw2 hnx s0 f0
          go_loopw [9, 10] (fun jv dv wq => ∃ j : Nat, j ≤ b.size ∧ jv = .int .i64 ((j : Int) + 1) ∧ dv = .int .i64 (G M i j) ∧ wq.heap[ib]? = some (.stringIter b j) ∧ wq.heap[ia]? = some (.stringIter a (i + 1)) ∧ Blk wq g (mx (b.size + 1) (rowV M (i + 1)) (rowV M i) (j + 1)).toArray 3 ∧ Below w.heap.size w wq) (fun _ _ w' => b.size - w'.iterPos ib)
          case atStart => exact ⟨0, Nat.zero_le _, rfl, by rw [G_zero], J3.out, I3.out, B3.out, BW3.out⟩
          case round =>
            obtain ⟨j, hj, rfl, rfl, hJ, hI, hB, hbw⟩ := hrel
            by_cases hjlt : j < b.size
            · have hx : (b[j]'hjlt).toNat < 128 := by rw [at_get]; exact AB.out j
              have hnx : ∀ ty, (Instr.next (.pointer (some ⟨ib, 0, none⟩)) true ty).run Try.prog wr = _ := fun ty => Go.Lib.run_next_ascii_at wr ib b j ty hJ hjlt hx
              simp only [at_get] at hnx
              have hB1 := hB.iterAt (k := ib) (by omega) b (j + 1)
              have hJ1 := Go.Lib.iterAt_heap wr ib b j (j + 1) hJ
              have hI1 : (wr.iterAt ib b (j + 1)).heap[ia]? = some (.stringIter a (i + 1)) := (Go.Lib.iterAt_other wr ib ia b (j + 1) (by omega)).trans hI
              have hbw1 := Go.Lib.below_iterAt hbw (k := ib) (by omega) b (j + 1)
              obtain ⟨W4, hW4⟩ : ∃ W4, wr.iterAt ib b (j + 1) = W4 := ⟨_, rfl⟩
              simp only [hW4] at hnx
              rw [hW4] at hB1 hI1 hJ1 hbw1
              have cu : W4.cell? ⟨g, j + 1, none⟩ = some (.int .i64 (G M i (j + 1))) := hB1.cell (j + 1) (by simp only [List.getElem?_toArray]; rw [mx_get _ _ _ _ _ (by omega), if_neg (by omega)]; rfl)
              have cl : W4.cell? ⟨g, j, none⟩ = some (.int .i64 (G M (i + 1) j)) := hB1.cell j (by simp only [List.getElem?_toArray]; rw [mx_get _ _ _ _ _ (by omega), if_pos (by omega)]; rfl)
              have fu := hB1.free (j + 1); have fl := hB1.free j
              have hn := G_next M i j
              have a1 := G_adj M i j; have a2 := G_up M i j
              have b1 := G_le M i j; have b2 := G_le M i (j + 1); have b3 := G_le M (i + 1) j
              have hset : ∀ v : Nat, v = G M (i + 1) (j + 1) → Blk (W4.setCell ⟨g, j + 1, none⟩ (.int .i64 v)) g (mx (b.size + 1) (rowV M (i + 1)) (rowV M i) (j + 1 + 1)).toArray 3 := fun v hv => (hB1.set (j + 1) (.int .i64 v)).cast (by
                rw [List.setIfInBounds_toArray, ← mx_set _ (rowV M (i + 1)) _ (j + 1) (by omega), hv]; rfl)
              have HS := Hd.mk hset; have HJ := Hd.mk hJ1; have HI4 := Hd.mk hI1; have HBW := Hd.mk hbw1
              have hM2 : M i j = decide (at_ a i = at_ b j) := by rw [← HM.out]
              obtain ⟨d, hd⟩ : ∃ d, G M i j = d := ⟨_, rfl⟩
              obtain ⟨u, hu⟩ : ∃ u, G M i (j + 1) = u := ⟨_, rfl⟩
              obtain ⟨l, hl⟩ : ∃ l, G M (i + 1) j = l := ⟨_, rfl⟩
              rw [hd, hu, hl] at hn
              rw [hd, hu] at a1; rw [hd, hl] at a2
              rw [hd] at b1; rw [hu] at b2 cu; rw [hl] at b3 cl
              rw [hd]
              obtain ⟨p, hp⟩ : ∃ p, at_ a i = p := ⟨_, rfl⟩
              obtain ⟨q, hq⟩ : ∃ q, at_ b j = q := ⟨_, rfl⟩
              rw [hp, hq] at hM2
              simp only [hq] at hnx
              rw [hp]
              have wu := w64 u (by omega); have wl := w64 l (by omega); have wd := w64 d (by omega); have wj := w64 j (by omega); have wjd := w64d j (by omega)
              have hj1 : ((j : Int) + 1).toNat = j + 1 := by omega
              have hu' := Hd.mk hu
              have PJ : Hd (wr.iterPos ib = j) := ⟨iterPos_of hJ⟩
              have HP2 : Hd (∀ v, ((W4.setCell ⟨g, j + 1, none⟩ v).drew).iterPos ib = j + 1) := ⟨fun v => iterPos_of (iter_set hJ1 (by simp; omega) v)⟩
              have HN := Hd.mk hn
              clear hB hB1 hJ hJ1 hI hI1 hbw hbw1 hW4 hset hx hu hl hd hp hq hn
              by_cases hpq : p = q
              · have HM2 : M i j = true := by rw [hM2]; simp [hpq]
                have HN2 : G M (i + 1) (j + 1) = d := by rw [HN.out, if_pos HM2]
                clear hM2 HM2 HN
                subst hpq
                go_wp2
                go_region
                all_goals
                  go_wp2
                  go_roundw
                  case rel =>
                    rw [show (if (d : Int) < if l < u then (l : Int) + 1 else (u : Int) + 1 then (d : Int) else if l < u then (l : Int) + 1 else (u : Int) + 1) = ((d : Nat) : Int) by by_cases hlu : l < u <;> simp only [hlu, if_true, if_false] <;> split <;> omega]
                    exact ⟨j + 1, by omega, by go_num, by rw [hu'.out], iter_set HJ.out (by simp; omega) _, iter_set HI4.out (by simp; omega) _, HS.out d HN2.symm, (HBW.out.setCell (p := ⟨g, j + 1, none⟩) hgw _).drew⟩
                  case measure => rw [HP2.out, PJ.out]; omega
              · have HM2 : M i j = false := by rw [hM2]; simp [hpq]
                obtain ⟨v, hv⟩ : ∃ v, 1 + min d (min l u) = v := ⟨_, rfl⟩
                have HN2 : G M (i + 1) (j + 1) = v := by rw [HN.out, HM2, ← hv]; simp
                have HV := Hd.mk hv
                clear hM2 HM2 HN hv
                go_wp2
                go_region
                all_goals
                  go_wp2
                  go_roundw
                  case rel =>
                    have hv := HV.out
                    rw [show (if (d : Int) + 1 < if l < u then (l : Int) + 1 else (u : Int) + 1 then (d : Int) + 1 else if l < u then (l : Int) + 1 else (u : Int) + 1) = ((v : Nat) : Int) by by_cases hlu : l < u <;> simp only [hlu, if_true, if_false] <;> split <;> omega]
                    exact ⟨j + 1, by omega, by go_num, by rw [hu'.out], iter_set HJ.out (by simp; omega) _, iter_set HI4.out (by simp; omega) _, HS.out v HN2.symm, (HBW.out.setCell (p := ⟨g, j + 1, none⟩) hgw _).drew⟩
                  case measure => rw [HP2.out, PJ.out]; omega
            · obtain rfl : j = b.size := by omega
              have hnx : ∀ ty, (Instr.next (.pointer (some ⟨ib, 0, none⟩)) true ty).run Try.prog wr = _ := fun ty => Go.Lib.run_next_end_at wr ib b b.size ty hJ (by omega)
              have HI5 := Hd.mk hI
              have HB5 := Hd.mk (hB.cast (cs' := (mx (b.size + 1) (fun _ => .nilIface) (rowV M (i + 1)) 0).toArray) (by congr 1; exact mx_full _ _ _ _ _ (Nat.le_refl _)))
              have HW5 := Hd.mk hbw
              have HP5 : Hd (wr.iterPos ia = i + 1) := ⟨iterPos_of hI⟩
              clear hJ hI hB hbw
              go_wp2
              go_roundw
              case rel => exact ⟨i + 1, by omega, HI5.out, HB5.out, HW5.out⟩
              case measure => rw [HP5.out, PI.out]; omega
        · obtain rfl : i = a.size := by omega
          have hnx : ∀ ty, (Instr.next (.pointer (some ⟨ia, 0, none⟩)) true ty).run Try.prog wr = _ := fun ty => Go.Lib.run_next_end_at wr ia a a.size ty hI (by omega)
          have c0 : wr.cell? ⟨g, b.size, none⟩ = some (.int .i64 (G M a.size b.size)) := hB.cell b.size (by simp only [List.getElem?_toArray]; rw [mx_get _ _ _ _ _ (by omega), if_neg (by omega)]; rfl)
          have f0 := hB.free b.size
          have HW5 := Hd.mk hbw
          have hj1 : ((b.size : Int) + 1 - 1).toNat = b.size := by omega
          clear hI hB hbw
          go_wp2
          go_ret
          exact ⟨rfl, HW5.out⟩
end Go.Proofs.Ytenefomcbjeccaa.Kb
