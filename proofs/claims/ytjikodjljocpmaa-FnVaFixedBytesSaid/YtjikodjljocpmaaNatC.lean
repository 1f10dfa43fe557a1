/- The reference's whole numbers: NatMul, natShort, NatSub, NatPow. -/
import Derived.Test.YtjikodjljocpmaaNatB
namespace Go.Proofs.Ytjikodjljocpmaa.Kb
open Go Go.RowKit
set_option linter.unusedVariables false
set_option linter.unusedSimpArgs false
set_option maxHeartbeats 1000000
/-- A row whose cells below place m are the limbs of one number, and from m on those of another. -/
def mixL (T S m N : Nat) : List Value := (List.range N).map fun j => .int .u32 (if j < m then limb LB T j else limb LB S j : Nat)
theorem mixL_len (T S m N : Nat) : (mixL T S m N).length = N := by simp [mixL]
theorem mixL_get {T S m N j : Nat} (h : j < N) : (mixL T S m N).toArray[j]? = some (.int .u32 (if j < m then limb LB T j else limb LB S j : Nat)) := by simp [mixL, h]
theorem mixL_eq {T S m N T' S' m' : Nat} (h : ∀ j, j < N → (if j < m then limb LB T j else limb LB S j) = (if j < m' then limb LB T' j else limb LB S' j)) : mixL T S m N = mixL T' S' m' N := by
  unfold mixL
  refine List.map_congr_left fun j hj => ?_
  rw [h j (List.mem_range.1 hj)]
theorem mixL_set {T S m N T' : Nat} {u : Int} (hm : m < N) (hu : u = (limb LB T' m : Nat)) (hl : ∀ j, j < m → limb LB T' j = limb LB T j) : (mixL T S m N).toArray.setIfInBounds m (.int .u32 u) = (mixL T' S (m + 1) N).toArray := by
  subst hu
  apply Array.ext'
  rw [Array.toList_setIfInBounds]
  apply List.ext_getElem?
  intro j
  rw [List.getElem?_set]
  by_cases hj : j < N
  · by_cases e : m = j
    · subst e; simp [mixL, hj]
    · rw [if_neg e]
      simp only [mixL, List.getElem?_map, List.getElem?_range hj, Option.map_some]
      by_cases h1 : j < m
      · rw [if_pos h1, if_pos (by omega), hl j h1]
      · rw [if_neg h1, if_neg (by omega)]
  · have : ¬ m = j := by omega
    rw [if_neg this]
    simp [mixL, hj]
theorem u32_mod {t : Nat} (h : t < LB) : IntKind.u32.wrap (t : Int) = t := by unfold LB at h; show (t : Int) % 4294967296 = t; omega
theorem mix_dig {w : World} {g : Nat} {t : TypeId} {N n : Nat} (hb : Blk w g (mixL n n N N).toArray t) (hn : n < LB ^ N) (hN : N ≤ 9223372036854775807) : DigL .u32 LB w (some ⟨g, 0, none⟩) N N n :=
  ⟨hn, Nat.le_refl _, hN, fun j hj => ⟨g, rfl, by have := hb.cell j (mixL_get (T := n) (S := n) (m := N) hj); simpa using this, hb.lt⟩⟩
set_option maxRecDepth 100000 in
theorem natMul (A : Option Addr) (la ca a : Nat) (A' : Option Addr) (lb cb b : Nat) (w : World) (ha : DigV .u32 LB w A la ca a) (hb : DigV .u32 LB w A' lb cb b) (fa : la ≤ 4398046511104) (fb : lb ≤ 4398046511104) :
    Calls Try.prog 22 #[.slice A la ca, .slice A' lb cb] w fun e w' => NatOut w (a * b) e w' := by
  have HA := Hd.mk ha; have HB := Hd.mk hb
  have ca1 := ha.cap; have ca2 := ha.small; have cb1 := hb.cap; have cb2 := hb.small
  clear ha hb
  go_enter Try.func22, Try.ntmps22
  go_wp2_with (refine wpList_make_z rfl _ _ 27 rfl 74 (.int .u32 0) 4 Try.underlying27 infoL rfl .i64 .i64 _ _ (la + lb) rfl rfl (by simp) (by simp) (by omega) (by omega) ?_)
  intro w1 hbk hl hs
  have hz : (zs (la + lb) (.int .u32 0)) = mixL 0 0 0 (la + lb) := by
    apply List.ext_getElem?
    intro j
    by_cases hj : j < la + lb
    · simp [zs, mixL, hj, limb]
    · simp [zs, mixL, hj]
  have HK := Hd.mk (hbk.cast (by rw [hz])); have HL := Hd.mk hl; have HS := Hd.mk hs
  clear hbk hl hs hz
  go_wp2
  go_loopw [8, 19] (fun _ i wr => ∃ k : Nat, k ≤ la ∧ i = .int .i64 k ∧ Blk wr w.heap.size (mixL (a % LB ^ k * b) (a % LB ^ k * b) 0 (la + lb)).toArray 74 ∧ Below w.heap.size w wr) (fun _ i _ => la - (intOf i).toNat)
  case atStart => exact ⟨0, by omega, rfl, HK.out.cast (by simp [Nat.mod_one]), HL.out⟩
  case round =>
    obtain ⟨k, hk, rfl, hbk, hbel⟩ := hrel
    have HK := Hd.mk hbk; have HL := Hd.mk hbel
    clear hbk hbel
    by_cases hlt : k < la
    · obtain ⟨g1, rfl, s1, l1⟩ := HA.out.at_ k hlt
      have s1' : wr.cell? ⟨g1, k, none⟩ = some (.int .u32 (limb LB a k)) := by rw [HL.out.cell (p := ⟨g1, k, none⟩) l1]; exact s1
      have hx := LBlt a k
      have HE := Hd.mk (prd_end LB1 (a := a) (i := k) HB.out.lt)
      have HP0 := Hd.mk (prd_zero LB1 (a % LB ^ k * b) (limb LB a k) b k)
      have HR := Hd.mk (mod_mul_lt LB1 (a := a) (i := k) HB.out.lt)
      have HR2 := Hd.mk (mod_mul_lt LB1 (a := a) (i := k + 1) HB.out.lt)
      clear s1 l1
      generalize hX : limb LB a k = x at *
      generalize hS : a % LB ^ k * b = S at *
      have HX := Hd.mk hX; have HS2 := Hd.mk hS
      clear hX hS
      have M0 := Hd.mk (show mixL S S 0 (la + lb) = mixL (prd LB S x b k 0) S (k + 0) (la + lb) from mixL_eq fun j hj => by
        rw [HP0.out]
        by_cases h1 : j < k
        · rw [if_neg (by omega), if_pos (by omega), limb_mod LB1 _ _ _ h1]
        · rw [if_neg (by omega), if_neg (by omega)])
      have C0 := Hd.mk (show prd LB S x b k 0 / LB ^ (k + 0) = 0 from by rw [HP0.out]; exact Nat.div_eq_of_lt (mod_lt' LB1 _ _))
      go_wp2
      go_loopw [8, 26] (fun cy i wr2 => ∃ j : Nat, j ≤ lb ∧ i = .int .i64 j ∧ cy = .int .u64 (prd LB S x b k j / LB ^ (k + j) : Nat) ∧ Blk wr2 w.heap.size (mixL (prd LB S x b k j) S (k + j) (la + lb)).toArray 74 ∧ Below w.heap.size w wr2) (fun _ i _ => lb - (intOf i).toNat)
      case atStart => exact ⟨0, by omega, rfl, by rw [C0.out]; rfl, HK.out.cast (by rw [M0.out]), HL.out⟩
      case round =>
        obtain ⟨j, hj, rfl, rfl, hb2, hl2⟩ := hrel
        have HK2 := Hd.mk hb2; have HL2 := Hd.mk hl2
        have hc := prd_carry LB1 (S := S) (b := b) (i := k) (j := j) (show x < LB by rw [LB_eq]; exact hx)
        rw [LB_eq] at hc
        rw [← LB_eq] at hc
        have hc' : prd LB S x b k j / LB ^ (k + j) < 1000000000 := hc
        clear hb2 hl2 hc
        by_cases hjl : j < lb
        · obtain ⟨g2, rfl, s2, l2⟩ := HB.out.at_ j hjl
          have s2' : wr.cell? ⟨g2, j, none⟩ = some (.int .u32 (limb LB b j)) := by rw [HL2.out.cell (p := ⟨g2, j, none⟩) l2]; exact s2
          have s3 : wr.cell? ⟨w.heap.size, k + j, none⟩ = some (.int .u32 (limb LB S (k + j))) := by
            have := HK2.out.cell (k + j) (mixL_get (T := prd LB S x b k j) (S := S) (m := k + j) (N := la + lb) (by omega))
            simpa using this
          have f3 := HK2.out.free (k + j)
          have hu := LBlt S (k + j); have hy := LBlt b j
          have P1 := Hd.mk (prd_limb LB1 S x b k j)
          have P2 := Hd.mk (prd_next LB1 S x b k j)
          have P3 := Hd.mk (fun i h => prd_low LB1 S x b k j i h)
          clear s2 l2
          generalize hU : limb LB S (k + j) = u at *
          generalize hY : limb LB b j = y at *
          generalize hC : prd LB S x b k j / LB ^ (k + j) = c at *
          have HU := Hd.mk hU; have HY := Hd.mk hY; have HC := Hd.mk hC
          clear hU hY hC
          have hxy : (x : Int) * y ≤ 999999998000000001 := by
            have : x * y ≤ 999999999 * 999999999 := Nat.mul_le_mul (by omega) (by omega)
            have h2 : ((x * y : Nat) : Int) = (x : Int) * y := Int.natCast_mul x y
            omega
          have hxy0 : (0 : Int) ≤ (x : Int) * y := Int.mul_nonneg (by omega) (by omega)
          go_wp2
          go_roundw
          case rel =>
            refine ⟨j + 1, by omega, by go_num, ?_, ?_, HL2.out.setCell (Nat.le_refl _) _⟩
            · rw [P2.out, LB_eq]; simp
            · refine (HK2.out.set (k + j) _).cast ?_
              exact mixL_set (by omega) (by rw [P1.out, LB_eq]; simp) (fun i hi => P3.out i hi)
          case measure => simp [intOf]; omega
        · obtain rfl : j = lb := by omega
          have s3 : ∃ v, wr.cell? ⟨w.heap.size, k + j, none⟩ = some v := ⟨_, HK2.out.cell (k + j) (mixL_get (T := prd LB S x b k j) (S := S) (m := k + j) (N := la + j) (by omega))⟩
          obtain ⟨v3, s3⟩ := s3
          have f3 := HK2.out.free (k + j)
          have P4 := Hd.mk (show prd LB S x b k j / LB ^ (k + j) = limb LB (a % LB ^ (k + 1) * b) (k + j) by
            rw [HE.out]; exact (limb_top LB1 (by have := HR2.out; rw [show k + j + 1 = k + 1 + j by omega]; exact this)).symm)
          generalize hC : prd LB S x b k j / LB ^ (k + j) = c at *
          have HC := Hd.mk hC
          clear hC
          go_wp2
          go_roundw
          case rel =>
            refine ⟨k + 1, by omega, by go_num, ?_, HL2.out.setCell (Nat.le_refl _) _⟩
            refine (HK2.out.set (k + j) _).cast ?_
            rw [mixL_set (T' := a % LB ^ (k + 1) * b) (by omega) (by rw [P4.out]) (fun i hi => by rw [HE.out])]
            congr 1
            exact mixL_eq fun i hi => by
              by_cases h1 : i < k + j + 1
              · rw [if_pos h1, if_neg (by omega)]
              · rw [if_neg h1, if_neg (by omega), limb_over LB1 HR.out (by omega), limb_over LB1 HR2.out (by omega)]
          case measure => simp [intOf]; omega
    · obtain rfl : k = la := by omega
      have e : a % LB ^ k = a := Nat.mod_eq_of_lt HA.out.lt
      have hd := mix_dig (HK.out.cast (cs' := (mixL (a * b) (a * b) (k + lb) (k + lb)).toArray) (by rw [e]; congr 1; exact mixL_eq fun i hi => by simp)) (by have := mod_mul_lt LB1 (a := a) (i := k) HB.out.lt; rw [e] at this; exact this) (by omega)
      have C := Hd.mk (natTrim _ _ _ _ _ hd)
      clear e hd
      go_wp2_with fail
      with_reducible refine C.out.mono ?_
      rintro e w3 ⟨⟨m, rfl, hm⟩, rfl⟩
      have HM := Hd.mk hm
      clear hm C
      go_wp2
      go_ret
      exact ⟨_, _, _, rfl, HM.out, HL.out, fun ad h => by cases h; exact Nat.le_refl _⟩
end Go.Proofs.Ytjikodjljocpmaa.Kb
