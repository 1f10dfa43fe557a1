/- Versions: parseVersionNumber. -/
import Derived.Test.YtagmjdhjhjlffaaDoorVerD
import Derived.Test.YtagmjdhjhjlffaaDoorDisP
namespace Go.Proofs.YtagmjdhjhjlffaaDoor.Kb
open Go Go.RowKit
set_option linter.unusedVariables false
set_option linter.unusedSimpArgs false
set_option maxHeartbeats 6400000
def five (F : Nat → Nat) : Array Value := #[.int .u64 (F 0), .int .u64 (F 1), .int .u64 (F 2), .int .u64 (F 3), .int .u64 (F 4)]
/-- A slice of five numbers, new. -/
def Nums (F : Nat → Nat) (w : World) (e : Ending) (w' : World) : Prop := ∃ g, e = .returned (.slice (some ⟨g, 0, none⟩) 5 5) ∧ w.heap.size ≤ g ∧ Blk w' g (five F) 22 ∧ Below w.heap.size w w'
theorem infoU : (Tryd.prog.info? 22).map (fun i => (i.zero, i.size, i.bytes)) = some (some (.int .u64 0), 1, 8) := by kernel_rfl
theorem zs_mxE (N : Nat) (z : Value) (P : Nat → Value) : zs N z = mx N P (fun _ => z) 0 := by
  apply List.ext_getElem?
  intro t
  by_cases ht : t < N
  · rw [mx_get _ _ _ _ _ ht, if_neg (by omega)]; simp [zs, ht]
  · rw [List.getElem?_eq_none (by rw [zs_len]; omega), List.getElem?_eq_none (by rw [mx_len]; omega)]
theorem mx_five (F : Nat → Nat) (m : Nat) (hm : m ≤ 5) (hF : ∀ t, m ≤ t → t < 5 → F t = 0) : (mx 5 (fun t => .int .u64 (F t)) (fun _ => .int .u64 0) m).toArray = five F := by
  have e : ∀ t, t < 5 → (if t < m then Value.int .u64 (F t) else Value.int .u64 0) = .int .u64 (F t) := fun t ht => by
    split
    · rfl
    · rw [hF t (by omega) ht]; rfl
  apply Array.ext'
  apply List.ext_getElem?
  intro t
  by_cases ht : t < 5
  · rw [mx_get _ _ _ _ _ ht, e t ht]
    rcases (by omega : t = 0 ∨ t = 1 ∨ t = 2 ∨ t = 3 ∨ t = 4) with rfl | rfl | rfl | rfl | rfl <;> rfl
  · rw [List.getElem?_eq_none (by simp [mx]; omega), List.getElem?_eq_none (by simp [five]; omega)]
set_option maxRecDepth 100000 in
theorem parseVN (l : List UInt8) (ps : List (List UInt8)) (F : Nat → Nat) (hl : l.length ≤ 1000) (hps : spl 4 l = ps) (hm : ps.length ≤ 5) (hp : ∀ i (h : i < ps.length), Lib.parseUintB 64 ps[i] = .ok (F i) ∧ ps[i].length ≤ 1000) (hF : ∀ t, ps.length ≤ t → t < 5 → F t = 0) (w : World) :
    Calls Tryd.prog 15 #[.string (S l)] w fun e w' => Nums F w e w' := by
  have HP : Hd (∀ i (h : i < ps.length) (w : World), Calls Tryd.prog 21 #[.string (S ps[i]), .int .i64 10, .int .i64 64] w fun e w' => e = .returned (.tuple #[.int .u64 (F i), .nilIface]) ∧ Below w.heap.size w w') := ⟨fun i h w => by
    obtain ⟨h1, h2⟩ := hp i h
    refine (Tryd.strconv_ParseUint_10_at64_ok (S ps[i]) (by rw [S_size]; omega) (F i) h1 w).mono ?_
    rintro e w' ⟨rfl, rfl | rfl⟩
    · exact ⟨rfl, Below.refl _ _⟩
    · exact ⟨rfl, Go.Joins.below_bytesWorld _ _ _ _ (Nat.le_refl _)⟩⟩
  have HM5 := Hd.mk (mx_five F ps.length hm hF)
  have C := Hd.mk (fun w => splitN l hl w)
  obtain ⟨m, hm'⟩ : ∃ m, ps.length = m := ⟨_, rfl⟩
  rw [hm'] at hm HM5
  clear hp hF
  have Hps := Hd.mk hps
  have Hm' := Hd.mk hm'
  clear hm'
  clear hps
  go_enter Tryd.func15, Tryd.ntmps15
  go_wp2_with (refine wpList_make_z rfl _ _ 24 rfl 22 (.int .u64 0) 8 Tryd.underlying24 infoU rfl .i64 .i64 _ _ 5 rfl rfl (by omega) (by omega) (by omega) (by omega) ?_)
  intro w2 hB hl2 hsz
  obtain ⟨g, hg⟩ : ∃ g, w.heap.size = g := ⟨_, rfl⟩
  have hgw : w.heap.size ≤ g := by omega
  rw [hg] at hB hl2 hsz ⊢
  rw [zs_mxE _ _ (fun t => .int .u64 (F t))] at hB
  have HB := Hd.mk hB; have HL := Hd.mk (show Below w.heap.size w w2 by rw [hg]; exact hl2)
  have HLt := Hd.mk hB.lt
  clear hB hl2 hsz hg
  go_wp2_with fail
  with_reducible refine (C.out w2).mono ?_
  intro e w3 h3
  obtain ⟨v, rfl, hown, hb3⟩ := h3
  rw [Hps.out, Hm'.out] at hown
  obtain ⟨A, c, rfl, hc1, hc2⟩ := own_slice hown
  have HO := Hd.mk hown
  have HB3 := Hd.mk (HB.out.below hb3 HLt.out)
  have HL3 := Hd.mk (HL.out.trans (hb3.mono HL.out.size))
  clear hown hb3 C
  go_wp2
  go_loopw [5] (fun i wr => ∃ k : Nat, k ≤ m ∧ i = .int .i64 k ∧ Blk wr g (mx 5 (fun t => .int .u64 (F t)) (fun _ => .int .u64 0) k).toArray 22 ∧ wr.ownsRow w2.heap.size 9 1 (.slice A m c) m (strs ps) ∧ Below w.heap.size w wr) (fun i _ => m - (intOf i).toNat)
  case atStart => exact ⟨0, Nat.zero_le _, rfl, HB3.out, HO.out, HL3.out⟩
  case round =>
    obtain ⟨k, hk, rfl, hB, hown, hbw⟩ := hrel
    by_cases hlt : k < m
    · have hkp : k < ps.length := by rw [Hm'.out]; exact hlt
      obtain ⟨G, c', hv, _, hcell, _, _⟩ := own_at hown k (by simp [strs, Hm'.out]; omega)
      simp only [Value.slice.injEq] at hv
      obtain ⟨rfl, _, rfl⟩ := hv
      have hce : (strs ps)[k]'(by simp [strs, Hm'.out]; omega) = .string (S ps[k]) := by simp [strs]
      rw [hce] at hcell
      have CP := Hd.mk (HP.out k hkp wr)
      obtain ⟨sk, hsk⟩ : ∃ sk, S ps[k] = sk := ⟨_, rfl⟩
      rw [hsk] at hcell CP
      have HO1 := Hd.mk hown; have HB1 := Hd.mk hB; have HBW := Hd.mk hbw
      have hne := Hd.mk (own_ne hown hB (by decide))
      clear hown hB hbw hce hsk
      go_wp2_with fail
      with_reducible refine CP.out.mono ?_
      rintro e w4 ⟨rfl, hb4⟩
      have HB2 := Hd.mk (HB1.out.below hb4 HB1.out.lt)
      have s0 : w4.cell? ⟨g, k, none⟩ = some (.int .u64 0) := HB2.out.cell k (by simp only [List.getElem?_toArray]; rw [mx_get _ _ _ _ _ (by omega), if_neg (Nat.lt_irrefl k)])
      have f0 := HB2.out.free k
      have HO2 := Hd.mk (own_set (own_below HO1.out hb4) (p := ⟨g, k, none⟩) hne.out (.int .u64 (F k)))
      have HB4 := Hd.mk ((HB2.out.set k (.int .u64 (F k))).cast (by rw [List.setIfInBounds_toArray, mx_set _ _ _ _ (by omega)]))
      have HL4 := Hd.mk ((HBW.out.trans (hb4.mono HBW.out.size)).setCell (p := ⟨g, k, none⟩) hgw (.int .u64 (F k)))
      clear hb4 hcell CP
      go_wp2
      go_roundw
      case rel => exact ⟨k + 1, by omega, by go_num, HB4.out, HO2.out, HL4.out⟩
      case measure => simp [intOf]; omega
    · obtain rfl : k = m := by omega
      have HB1 := Hd.mk hB; have HBW := Hd.mk hbw
      clear hB hown hbw
      go_wp2
      go_ret
      exact ⟨g, rfl, hgw, by have := HB1.out; rw [HM5.out] at this; exact this, HBW.out⟩
end Go.Proofs.YtagmjdhjhjlffaaDoor.Kb
