/- The reference's whole numbers: slices of limbs; NatAdd, NatFrom, natTrim, NatCmp. -/
import Derived.Test.YtjikodjljocpmaaNatP
import Derived.Test.YtjikodjljocpmaaStep
namespace Go.Proofs.Ytjikodjljocpmaa.Kb
open Go Go.RowKit
set_option linter.unusedVariables false
set_option linter.unusedSimpArgs false
set_option maxHeartbeats 1000000
/-- A slice whose elements are the limbs of a number, the lowest first; none of 0 at the end is asked. -/
structure DigL (k : IntKind) (B : Nat) (w : World) (A : Option Addr) (l c n : Nat) : Prop where
  lt : n < B ^ l
  cap : l ≤ c
  small : c ≤ 9223372036854775807
  at_ : ∀ j, j < l → ∃ g, A = some ⟨g, 0, none⟩ ∧ w.cell? ⟨g, j, none⟩ = some (.int k (limb B n j)) ∧ g < w.heap.size
/-- And none of 0 at the end. -/
structure DigV (k : IntKind) (B : Nat) (w : World) (A : Option Addr) (l c n : Nat) : Prop extends DigL k B w A l c n where
  ge : l = 0 ∨ B ^ (l - 1) ≤ n
section
variable {k : IntKind} {B : Nat} {w w' : World} {A : Option Addr} {l c n : Nat}
theorem DigL.below (h : DigL k B w A l c n) (hb : Below w.heap.size w w') : DigL k B w' A l c n :=
  ⟨h.lt, h.cap, h.small, fun j hj => by
    obtain ⟨g, h1, h2, h3⟩ := h.at_ j hj
    exact ⟨g, h1, by rw [hb.cell (p := ⟨g, j, none⟩) h3]; exact h2, Nat.lt_of_lt_of_le h3 hb.size⟩⟩
theorem DigV.below (h : DigV k B w A l c n) (hb : Below w.heap.size w w') : DigV k B w' A l c n := ⟨h.toDigL.below hb, h.ge⟩
theorem DigL.grown {row : Option Nat} (h : DigL k B w A l c n) (hg : w.grownBy w' row) (ne : ∀ ad, A = some ad → row ≠ some ad.block) : DigL k B w' A l c n :=
  ⟨h.lt, h.cap, h.small, fun j hj => by
    obtain ⟨g, h1, h2, h3⟩ := h.at_ j hj
    exact ⟨g, h1, by rw [World.cell?_of_block (w := w) (a := ⟨g, j, none⟩) (hg.block g h3 (fun e => ne _ h1 e.symm))]; exact h2, Nat.lt_of_lt_of_le h3 hg.size⟩⟩
theorem DigV.grown {row : Option Nat} (h : DigV k B w A l c n) (hg : w.grownBy w' row) (ne : ∀ ad, A = some ad → row ≠ some ad.block) : DigV k B w' A l c n := ⟨h.toDigL.grown hg ne, h.ge⟩
theorem DigV.nil (hB : 1 < B) : DigV k B w none 0 0 0 := ⟨⟨by simp, Nat.le_refl _, by omega, fun j hj => by omega⟩, .inl rfl⟩
theorem DigV.len_le (hB : 1 < B) (h : DigV k B w A l c n) {m : Nat} (hm : n < B ^ m) : l ≤ m := by
  rcases h.ge with g | g
  · omega
  · rcases Nat.lt_or_ge m l with h1 | h1
    · have := Nat.pow_le_pow_right (n := B) (by omega) (show m ≤ l - 1 by omega); omega
    · exact h1
theorem DigV.zero_iff (hB : 1 < B) (h : DigV k B w A l c n) : l = 0 ↔ n = 0 := by
  constructor
  · intro e
    have := h.lt
    subst e
    simpa using this
  · intro e
    subst e
    rcases h.ge with g | g
    · exact g
    · have := Nat.pow_pos (n := l - 1) (show 0 < B by omega); omega
end
/-- The limbs of a number as cells. -/
def lc (k : IntKind) (B n m : Nat) : List Value := (List.range m).map fun j => .int k (limb B n j)
theorem lc_len (k : IntKind) (B n m : Nat) : (lc k B n m).length = m := by simp [lc]
theorem lc_succ (k : IntKind) (B n m : Nat) : lc k B n (m + 1) = lc k B n m ++ [.int k (limb B n m)] := by simp [lc, List.range_succ]
theorem lc_get {k : IntKind} {B n m j : Nat} (h : j < m) : (lc k B n m)[j]? = some (.int k (limb B n j)) := by simp [lc, h]
/-- A row of the call's own that holds limbs. -/
theorem own_dig {w : World} {b : Nat} {e : TypeId} {v : Value} {k : IntKind} {B n m : Nat} (h : w.ownsRow b e 1 v m (lc k B n m)) (hn : n < B ^ m) : ∃ A c, v = .slice A m c ∧ DigL k B w A m c n ∧ ∀ ad, A = some ad → b ≤ ad.block := by
  rcases h.2 with ⟨rfl, h0⟩ | ⟨g, cap, cur, rfl, hg, hh, h3, h4, h5, h6⟩
  · subst h0
    exact ⟨none, 0, rfl, ⟨hn, Nat.le_refl _, by omega, fun j hj => by omega⟩, fun _ h => by cases h⟩
  · refine ⟨_, cap, rfl, ⟨hn, h3, h4, fun j hj => ⟨g, rfl, ?_, (Array.getElem?_eq_some_iff.1 hh).1⟩⟩, fun ad h => by cases h; exact hg⟩
    refine Blk.cell (t := e) hh j ?_
    have : (cur.toList.take (m * 1))[j]? = (lc k B n m)[j]? := by rw [h6]
    rw [List.getElem?_take, if_pos (by omega), lc_get hj] at this
    rw [← Array.getElem?_toList, this]
theorem infoL : (Try.prog.info? 74).map (fun i => (i.zero, i.size, i.bytes)) = some (some (.int .u32 0), 1, 4) := by kernel_rfl
theorem LB1 : 1 < LB := by decide
theorem LBlt (n j : Nat) : limb LB n j < 1000000000 := limb_lt LB1 n j
theorem sum_room {B a b la lb : Nat} (hB : 1 < B) (ha : a < B ^ la) (hb : b < B ^ lb) : a + b < B ^ (la + lb + 1) := by
  have h1 := Nat.pow_le_pow_right (n := B) (by omega) (show la ≤ la + lb by omega)
  have h2 := Nat.pow_le_pow_right (n := B) (by omega) (show lb ≤ la + lb by omega)
  have h3 : B ^ (la + lb) * 2 ≤ B ^ (la + lb + 1) := by rw [Nat.pow_succ]; exact Nat.mul_le_mul_left _ hB
  omega
theorem ge_bound {B n m k : Nat} (hB : 1 < B) (h : n < B ^ m) (g : k = 0 ∨ B ^ (k - 1) ≤ n) : k ≤ m := by
  rcases g with g | g
  · omega
  · rcases Nat.lt_or_ge m k with h1 | h1
    · have := Nat.pow_le_pow_right (n := B) (by omega) (show m ≤ k - 1 by omega); omega
    · exact h1
/-- What a function that makes a number answers. -/
def NatOut (w : World) (n : Nat) (e : Ending) (w' : World) : Prop := ∃ A l c, e = .returned (.slice A l c) ∧ DigV .u32 LB w' A l c n ∧ Below w.heap.size w w' ∧ ∀ ad, A = some ad → w.heap.size ≤ ad.block
/-- A round of NatAdd: what the next one finds. -/
theorem add_next {w w2 : World} {a b k m : Nat} {v : Value} (hown : w2.ownsRow w.heap.size 74 1 v (k + 1) (lc .u32 LB (a + b) k ++ [.int .u32 (((cin LB a b k + limb LB a k + limb LB b k : Nat) : Int) % 1000000000)])) :
    w2.ownsRow w.heap.size 74 1 v (k + 1) (lc .u32 LB (a + b) (k + 1)) := by
  rw [lc_succ, sum_limb LB1, show (((cin LB a b k + limb LB a k + limb LB b k) % LB : Nat) : Int) = ((cin LB a b k + limb LB a k + limb LB b k : Nat) : Int) % 1000000000 from by rw [LB_eq]; omega]
  exact hown
theorem add_carry (a b k : Nat) : Value.int .u32 (((cin LB a b k + limb LB a k + limb LB b k : Nat) : Int) / 1000000000) = .int .u32 (cin LB a b (k + 1)) := by
  rw [cin_succ LB1, show (((cin LB a b k + limb LB a k + limb LB b k) / LB : Nat) : Int) = ((cin LB a b k + limb LB a k + limb LB b k : Nat) : Int) / 1000000000 from by rw [LB_eq]; omega]
set_option maxRecDepth 100000 in
theorem natAdd (A : Option Addr) (la ca a : Nat) (A' : Option Addr) (lb cb b : Nat) (w : World) (ha : DigV .u32 LB w A la ca a) (hb : DigV .u32 LB w A' lb cb b) (fa : la ≤ 4398046511104) (fb : lb ≤ 4398046511104) :
    Calls Try.prog 21 #[.slice A la ca, .slice A' lb cb] w fun e w' => NatOut w (a + b) e w' := by
  obtain ⟨i0, hi, hz0, hz1, hz2⟩ := info_of infoL
  have I := Hd.mk (And.intro hi (And.intro hz0 (And.intro hz1 hz2)))
  have HA := Hd.mk ha; have HB := Hd.mk hb
  have HM := Hd.mk (sum_room LB1 ha.lt hb.lt)
  have ca1 := ha.cap; have ca2 := ha.small; have cb1 := hb.cap; have cb2 := hb.small
  clear hi hz0 hz1 hz2 ha hb
  go_enter Try.func21, Try.ntmps21
  go_wp2
  go_loopw [5, 6, 7] (fun v cy i wr => ∃ k : Nat, i = .int .i64 k ∧ cy = .int .u32 (cin LB a b k) ∧ (k = 0 ∨ LB ^ (k - 1) ≤ a + b) ∧ wr.ownsRow w.heap.size 74 1 v k (lc .u32 LB (a + b) k) ∧ Below w.heap.size w wr) (fun _ _ i _ => la + lb + 2 - (intOf i).toNat)
  case atStart => exact ⟨0, rfl, by rw [cin_zero LB1]; rfl, .inl rfl, by simpa [lc] using World.ownsRow_nil _ _ _ _, Below.refl _ _⟩
  case round =>
    obtain ⟨k, rfl, rfl, hge, hown, hbel⟩ := hrel
    have hk : k ≤ la + lb + 1 := ge_bound LB1 HM.out hge
    have HG := Hd.mk hge; have HO := Hd.mk hown; have HL := Hd.mk hbel
    have hc1 := cin_le LB1 a b k
    have hx := LBlt a k; have hy := LBlt b k
    have NX := Hd.mk (fun (w2 : World) (v : Value) => add_next (w := w) (w2 := w2) (a := a) (b := b) (k := k) (m := 0) (v := v))
    have CY := Hd.mk (add_carry a b k)
    have MORE := Hd.mk (sum_more LB1 (a := a) (b := b) (i := k))
    have FA := Hd.mk (fun h : k < la => HA.out.at_ k h); have FB := Hd.mk (fun h : k < lb => HB.out.at_ k h)
    have ZA := Hd.mk (fun h : la ≤ k => limb_over LB1 HA.out.lt h); have ZB := Hd.mk (fun h : lb ≤ k => limb_over LB1 HB.out.lt h)
    have GA := Hd.mk (fun h : k < la => show LB ^ k ≤ a by rcases HA.out.ge with g | g; omega; exact Nat.le_trans (Nat.pow_le_pow_right (by decide) (by omega)) g)
    have GB := Hd.mk (fun h : k < lb => show LB ^ k ≤ b by rcases HB.out.ge with g | g; omega; exact Nat.le_trans (Nat.pow_le_pow_right (by decide) (by omega)) g)
    have HN := Hd.mk (fun o : Obj => show w.heap.size ≤ (wr.alloc o).heap.size by have := hbel.size; simp; omega)
    clear hge hown hbel
    generalize hX : limb LB a k = x at *
    generalize hY : limb LB b k = y at *
    generalize hC : cin LB a b k = cy at *
    have HX := Hd.mk hX; have HY := Hd.mk hY; have HC := Hd.mk hC
    clear hX hY hC
    have FIN := Hd.mk (fun h : LB ^ k ≤ a + b => (by
      show k + 1 = 0 ∨ LB ^ (k + 1 - 1) ≤ a + b
      exact .inr (by simpa using h)))
    by_cases h1 : k < la
    · obtain ⟨g1, rfl, s1, l1⟩ := FA.out h1
      have s1' : wr.cell? ⟨g1, k, none⟩ = some (.int .u32 x) := by rw [HL.out.cell (p := ⟨g1, k, none⟩) l1]; exact s1
      have hle : LB ^ k ≤ a + b := Nat.le_trans (GA.out h1) (Nat.le_add_right _ _)
      have HLE := Hd.mk hle
      have hkl : k < la + lb + 1 := by omega
      by_cases h2 : k < lb
      · obtain ⟨g2, rfl, s2, l2⟩ := FB.out h2
        have s2' : wr.cell? ⟨g2, k, none⟩ = some (.int .u32 y) := by rw [HL.out.cell (p := ⟨g2, k, none⟩) l2]; exact s2
        clear s1 s2 l1 l2 hle
        go_wp2_with (at_builtin; refine wpList_append_one (base := w.heap.size) (n := k) (u := .int .u32 (((cy : Int) + x + y) % 1000000000)) (by_ := 4) rfl _ _ 27 rfl Try.underlying27 I.out.1 I.out.2.1 I.out.2.2.1 I.out.2.2.2 rfl rfl (HO.out.alloc _) rfl (Blk.new _ _ _) rfl (by unfold maxLen; omega) (by omega) (HN.out _) ?_)
        intro v2 w2 hown2 hg2
        have HO2 := Hd.mk (NX.out w2 v2 (by simpa using hown2))
        have HL2 := Hd.mk (below_grown_own (HL.out.alloc HL.out.size _) (HO.out.alloc _) (HN.out _) (Nat.le_refl _) hg2)
        clear hown2 hg2 s1' s2'
        go_wp2
        go_roundw
        case rel => exact ⟨k + 1, by go_num, by rw [← CY.out]; simp, FIN.out HLE.out, HO2.out, HL2.out⟩
        case measure => simp [intOf]; omega
      · obtain rfl : y = 0 := ZB.out (by omega)
        clear s1 l1 hle
        go_wp2_with (at_builtin; refine wpList_append_one (base := w.heap.size) (n := k) (u := .int .u32 (((cy : Int) + x) % 1000000000)) (by_ := 4) rfl _ _ 27 rfl Try.underlying27 I.out.1 I.out.2.1 I.out.2.2.1 I.out.2.2.2 rfl rfl (HO.out.alloc _) rfl (Blk.new _ _ _) rfl (by unfold maxLen; omega) (by omega) (HN.out _) ?_)
        intro v2 w2 hown2 hg2
        have HO2 := Hd.mk (NX.out w2 v2 (by simpa using hown2))
        have HL2 := Hd.mk (below_grown_own (HL.out.alloc HL.out.size _) (HO.out.alloc _) (HN.out _) (Nat.le_refl _) hg2)
        clear hown2 hg2 s1'
        go_wp2
        go_roundw
        case rel => exact ⟨k + 1, by go_num, by rw [← CY.out]; simp, FIN.out HLE.out, HO2.out, HL2.out⟩
        case measure => simp [intOf]; omega
    · obtain rfl : x = 0 := ZA.out (by omega)
      by_cases h2 : k < lb
      · obtain ⟨g2, rfl, s2, l2⟩ := FB.out h2
        have s2' : wr.cell? ⟨g2, k, none⟩ = some (.int .u32 y) := by rw [HL.out.cell (p := ⟨g2, k, none⟩) l2]; exact s2
        have hle : LB ^ k ≤ a + b := Nat.le_trans (GB.out h2) (Nat.le_add_left _ _)
        have HLE := Hd.mk hle
        have hkl : k < la + lb + 1 := by omega
        clear s2 l2 hle
        go_wp2_with (at_builtin; refine wpList_append_one (base := w.heap.size) (n := k) (u := .int .u32 (((cy : Int) + y) % 1000000000)) (by_ := 4) rfl _ _ 27 rfl Try.underlying27 I.out.1 I.out.2.1 I.out.2.2.1 I.out.2.2.2 rfl rfl (HO.out.alloc _) rfl (Blk.new _ _ _) rfl (by unfold maxLen; omega) (by omega) (HN.out _) ?_)
        intro v2 w2 hown2 hg2
        have HO2 := Hd.mk (NX.out w2 v2 (by simpa using hown2))
        have HL2 := Hd.mk (below_grown_own (HL.out.alloc HL.out.size _) (HO.out.alloc _) (HN.out _) (Nat.le_refl _) hg2)
        clear hown2 hg2 s2'
        go_wp2
        go_roundw
        case rel => exact ⟨k + 1, by go_num, by rw [← CY.out]; simp, FIN.out HLE.out, HO2.out, HL2.out⟩
        case measure => simp [intOf]; omega
      · obtain rfl : y = 0 := ZB.out (by omega)
        by_cases h3 : 0 < cy
        · have hle : LB ^ k ≤ a + b := MORE.out.2 (.inr (.inr h3))
          have HLE := Hd.mk hle
          have hkl : k < la + lb + 1 := by
            rcases Nat.lt_or_ge k (la + lb + 1) with h | h
            · exact h
            · have := Nat.pow_le_pow_right (n := LB) (by decide) h; have := HM.out; omega
          clear hle
          go_wp2_with (at_builtin; refine wpList_append_one (base := w.heap.size) (n := k) (u := .int .u32 ((cy : Int) % 1000000000)) (by_ := 4) rfl _ _ 27 rfl Try.underlying27 I.out.1 I.out.2.1 I.out.2.2.1 I.out.2.2.2 rfl rfl (HO.out.alloc _) rfl (Blk.new _ _ _) rfl (by unfold maxLen; omega) (by omega) (HN.out _) ?_)
          intro v2 w2 hown2 hg2
          have HO2 := Hd.mk (NX.out w2 v2 (by simpa using hown2))
          have HL2 := Hd.mk (below_grown_own (HL.out.alloc HL.out.size _) (HO.out.alloc _) (HN.out _) (Nat.le_refl _) hg2)
          clear hown2 hg2 h3
          go_wp2
          go_roundw
          case rel => exact ⟨k + 1, by go_num, by rw [← CY.out]; simp, FIN.out HLE.out, HO2.out, HL2.out⟩
          case measure => simp [intOf]; omega
        · obtain rfl : cy = 0 := by omega
          have hlt : a + b < LB ^ k := by
            rcases Nat.lt_or_ge (a + b) (LB ^ k) with h | h
            · exact h
            · rcases MORE.out.1 h with h | h | h
              · exact absurd (Nat.lt_of_lt_of_le HA.out.lt (Nat.pow_le_pow_right (by decide) (by omega : la ≤ k))) (by omega)
              · exact absurd (Nat.lt_of_lt_of_le HB.out.lt (Nat.pow_le_pow_right (by decide) (by omega : lb ≤ k))) (by omega)
              · omega
          obtain ⟨A2, c2, rfl, hd, hf⟩ := own_dig HO.out hlt
          have HD := Hd.mk hd; have HF := Hd.mk hf
          clear hd hlt hf
          go_wp2
          go_ret
          exact ⟨_, _, _, rfl, ⟨HD.out, HG.out⟩, HL.out, HF.out⟩
end Go.Proofs.Ytjikodjljocpmaa.Kb
