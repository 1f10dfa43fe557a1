/- The Decoder's readFull: what it reads, and what it leaves. -/
import Derived.Test.YtmgckcngedpgoaaDoorLe
namespace Go.Proofs.YtmgckcngedpgoaaDoor.Kb
open Go Go.RowKit
set_option linter.unusedVariables false
set_option linter.unusedSimpArgs false
set_option maxHeartbeats 1000000
/-- What does not change in a Decoder: its block, its scratch row's block, the bytes that it reads, its transformer and two flags. -/
structure DK where
  d : Nat
  sb : Nat
  ra : Option Addr
  rc : Nat
  xs : List Int
  tr : Value
  a : Bool
  e : Bool
/-- The number of n bytes from place p on. -/
def DK.num (K : DK) (p n : Nat) : Int := leN ((K.xs.drop p).take n)
/-- A Decoder as it stands, but for its scratch row: its place and count, its error. -/
structure DecB (K : DK) (w : World) (at_ cnt : Nat) (er : Value) : Prop where
  blk : Blk w K.d #[.slice K.ra K.xs.length K.rc, .int .i64 at_, er, .slice (some ⟨K.sb, 0, none⟩) 4096 4096, K.tr, .int .i64 cnt, .bool K.a, .bool K.e] 87
  rd : Rd w [K.d, K.sb] K.ra K.xs.length K.xs
  ne : K.d ≠ K.sb
  le : at_ ≤ K.xs.length
  lec : K.xs.length ≤ K.rc
  lecc : K.rc ≤ maxLen
  cntle : cnt ≤ 4000000000000000000
theorem DecB.bel {K : DK} {w w' : World} {p c : Nat} {er : Value} {B : Nat} {S : List Nat} (h : DecB K w p c er) (hb : Bel w.heap.size S w w') (hd : K.d ∉ S) (hx : ∀ x ∈ S, x = K.sb ∨ w.heap.size ≤ x) : DecB K w' p c er := by
  refine ⟨h.blk.bel hb h.blk.lt hd, ?_, h.ne, h.le, h.lec, h.lecc, h.cntle⟩
  refine h.rd.bel (hb.weak (Nat.le_refl _) (fun x hx1 hx2 => ?_))
  rcases hx x hx1 with rfl | h
  · simp
  · omega
theorem add_add (ad : Addr) (i j : Nat) : (ad.add i).add j = ad.add (i + j) := by
  unfold Addr.add
  by_cases h1 : i = 0
  · subst h1; simp
  · by_cases h2 : j = 0
    · subst h2; simp [h1]
    · rw [if_neg h1, if_neg h2, if_neg (by omega), Nat.add_assoc]
/-- The cells that readFull copies. -/
theorem take_bc (xs : List Int) (p k : Nat) (h : p + k ≤ xs.length) (j : Nat) (v : Value) (hv : (bc ((xs.drop p).take k))[j]? = some v) : j < k ∧ v = .int .u8 (xs.getD (p + j) 0) := by
  rw [List.getElem?_map] at hv
  simp at hv
  obtain ⟨x, hx, rfl⟩ := hv
  rw [List.getElem?_take] at hx
  split at hx
  · rename_i hj
    rw [List.getElem?_drop] at hx
    refine ⟨hj, ?_⟩
    rw [List.getD_eq_getElem?_getD, hx]
    rfl
  · cases hx
theorem len_bc (xs : List Int) (p k : Nat) (h : p + k ≤ xs.length) : (bc ((xs.drop p).take k)).length = k := by simp; omega
/-- What readFull leaves: the bytes in block g, the Decoder further on. -/
def ReadTo (K : DK) (w : World) (p c k g : Nat) (cur : List Value) (t : TypeId) (w' : World) : Prop :=
  DecB K w' (p + k) (c + k) .nilIface ∧ Blk w' g (splice cur 0 (bc ((K.xs.drop p).take k))).toArray t ∧ Bel w.heap.size [K.d, g] w w'
set_option maxRecDepth 100000 in
theorem readFull_ok (K : DK) (p c : Nat) (w : World) (h : DecB K w p c .nilIface) (g : Nat) (cur : List Value) (t : TypeId) (hg : Blk w g cur.toArray t) (hgd : g ≠ K.d) (hgx : Rd w [g] K.ra K.xs.length K.xs)
    (k kc : Nat) (ba : Option Addr) (hba : 0 < k → ba = some ⟨g, 0, none⟩) (hk : k ≤ cur.length) (fit : p + k ≤ K.xs.length) (hc : c + k ≤ 4000000000000000000) :
    Calls Tryd.prog 64 #[.pointer (some ⟨K.d, 0, none⟩), .slice ba k kc] w fun e w' => e = .returned (.tuple #[.int .i64 k, .nilIface]) ∧ ReadTo K w p c k g cur t w' := by
  have c0 : w.cell? ⟨K.d, 0, none⟩ = some (.slice K.ra K.xs.length K.rc) := h.blk.cell 0 rfl
  have c1 : w.cell? ⟨K.d, 1, none⟩ = some (.int .i64 p) := h.blk.cell 1 rfl
  have c2 : w.cell? ⟨K.d, 2, none⟩ = some .nilIface := h.blk.cell 2 rfl
  have f1 := h.blk.free 1
  have f5 := h.blk.free 5
  have hm : K.xs.length ≤ 9223372036854775807 := by have := h.rd.small; omega
  have hle : p ≤ K.xs.length := h.le
  have hlec := h.lec
  have hlecc : K.rc ≤ 9223372036854775807 := by have := h.lecc; unfold maxLen at this; exact this
  have H := Hd.mk h
  have HG := Hd.mk hg
  have HX := Hd.mk hgx
  have HBA := Hd.mk hba
  clear h hg hgx hba
  go_enter Tryd.func64, Tryd.ntmps64
  go_wp2
  go_still_tail 10, (by kernel_rfl)
  change wpList _ _ _ _ _ w.drew
  refine wpList_copy_at rfl (.tmp 16) (.tmp 25) 24 24 rfl 5 Tryd.underlying24 (by kernel_rfl) ba _ k kc (K.xs.length - p) (K.rc - p) rfl rfl g cur t HG.out.drew (bc ((K.xs.drop p).take k)) ?_ ?_ ?_ ?_ ?_
  · rw [len_bc _ _ _ fit]; exact (Nat.min_eq_right (by omega)).symm
  · intro hp0
    rw [len_bc _ _ _ fit] at hp0
    refine ⟨HBA.out hp0, ?_⟩
    obtain ⟨ad, had, _⟩ := HX.out.cell p (by omega)
    have hne : ¬ K.rc = p := by omega
    rw [if_neg hne, had]
    refine ⟨ad.add p, rfl, fun j v hv => ?_⟩
    obtain ⟨hj, rfl⟩ := take_bc _ _ _ fit j v hv
    obtain ⟨ad', had', hc'⟩ := HX.out.cell (p + j) (by omega)
    rw [had] at had'
    cases had'
    rw [add_add]
    exact hc'
  · rw [len_bc _ _ _ fit]; exact hk
  · intro v hv
    obtain ⟨x, _, rfl⟩ := List.mem_map.1 hv
    rfl
  rw [len_bc _ _ _ fit]
  intro w1 hb1 hbel1
  have HB1 := Hd.mk hb1
  have HL1 := Hd.mk hbel1
  have hd1 := H.out.blk.drew.bel hbel1 H.out.blk.lt (by simpa using hgd.symm)
  have d1 : w1.cell? ⟨K.d, 1, none⟩ = some (.int .i64 p) := hd1.cell 1 rfl
  have d2 : w1.cell? ⟨K.d, 2, none⟩ = some .nilIface := hd1.cell 2 rfl
  have d5 : w1.cell? ⟨K.d, 5, none⟩ = some (.int .i64 c) := hd1.cell 5 rfl
  have g1 := hd1.free 1
  have g5 := hd1.free 5
  have HD1 := Hd.mk hd1
  clear hb1 hbel1 hd1 c0 c1 c2 f1 f5
  go_wp2
  all_goals
    go_ret2
    refine ⟨rfl, ?_, ?_, ?_⟩
    · have hb := ((HD1.out.set 1 (.int .i64 ((p : Int) + k))).set 5 (.int .i64 ((c : Int) + k)))
      have hbel := (((Bel.refl w.heap.size [K.d, g] w).drew.trans (HL1.out.weak (S' := [K.d, g]) (Nat.le_refl _) (by simp))).set (p := ⟨K.d, 1, none⟩) (.inr (by simp)) (.int .i64 ((p : Int) + k))).set (p := ⟨K.d, 5, none⟩) (.inr (by simp)) (.int .i64 ((c : Int) + k))
      refine ⟨hb.cast (by simp), ?_, H.out.ne, fit, H.out.lec, H.out.lecc, hc⟩
      exact ((H.out.rd.join HX.out).bel (hbel.weak (Nat.le_refl _) (fun x hx _ => by simp at hx ⊢; rcases hx with h | h <;> simp [h]))).sub (fun x hx => by simp at hx ⊢; rcases hx with h | h <;> simp [h])
    · exact (HB1.out.set_ne (p := ⟨K.d, 1, none⟩) (Ne.symm hgd) _).set_ne (p := ⟨K.d, 5, none⟩) (Ne.symm hgd) _
    · exact (((Bel.refl w.heap.size [K.d, g] w).drew.trans (HL1.out.weak (S' := [K.d, g]) (Nat.le_refl _) (by simp))).set (p := ⟨K.d, 1, none⟩) (.inr (by simp)) (.int .i64 ((p : Int) + k))).set (p := ⟨K.d, 5, none⟩) (.inr (by simp)) (.int .i64 ((c : Int) + k))
end Go.Proofs.YtmgckcngedpgoaaDoor.Kb
