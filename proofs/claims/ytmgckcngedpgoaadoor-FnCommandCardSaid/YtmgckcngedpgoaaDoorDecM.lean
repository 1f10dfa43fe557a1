/- The Decoder's methods that read numbers of one, two, four and eight bytes. -/
import Derived.Test.YtmgckcngedpgoaaDoorDec
import Derived.Test.YtmgckcngedpgoaaDoorLe
namespace Go.Proofs.YtmgckcngedpgoaaDoor.Kb
open Go Go.RowKit
set_option linter.unusedVariables false
set_option linter.unusedSimpArgs false
set_option maxHeartbeats 1000000
/-- A Decoder as it stands: p bytes are read. -/
structure Dec (K : DK) (w : World) (p : Nat) (er : Value) : Prop where
  b : DecB K w p p er
  sc : ∃ Z : List Value, Z.length = 4096 ∧ Blk w K.sb Z.toArray 5
  by_ : ∀ x ∈ K.xs, 0 ≤ x ∧ x < 256
theorem Dec.bel {K : DK} {w w' : World} {p : Nat} {er : Value} {S : List Nat} (h : Dec K w p er) (hb : Bel w.heap.size S w w') (hd : K.d ∉ S) (hs : K.sb ∉ S) (hx : ∀ x ∈ S, w.heap.size ≤ x ∨ Rd w [x] K.ra K.xs.length K.xs) : Dec K w' p er := by
  obtain ⟨⟨h1, h2, h3, h4, h5, h6, h7⟩, ⟨Z, hz, hZ⟩, h8⟩ := h
  refine ⟨⟨h1.bel hb h1.lt hd, ?_, h3, h4, h5, h6, h7⟩, ⟨Z, hz, hZ.bel hb hZ.lt hs⟩, h8⟩
  have : ∀ L : List Nat, (∀ x ∈ L, w.heap.size ≤ x ∨ Rd w [x] K.ra K.xs.length K.xs) → Rd w (L ++ [K.d, K.sb]) K.ra K.xs.length K.xs := by
    intro L
    induction L with
    | nil => intro _; exact h2
    | cons x L ih =>
      intro hL
      have h9 := ih (fun y hy => hL y (List.mem_cons_of_mem _ hy))
      rcases hL x List.mem_cons_self with h | h
      · exact h9.more (fun y hy hny => by simp at hy hny; rcases hy with rfl | hy; exact h; exact absurd hy (by simp [hny]))
      · exact h.join h9
  exact ((this S hx).bel (hb.weak (Nat.le_refl _) (fun x hx _ => by simp [hx]))).sub (fun x hx => List.mem_append_right _ hx)
theorem Dec.below {K : DK} {w w' : World} {p : Nat} {er : Value} (h : Dec K w p er) (hb : Below w.heap.size w w') : Dec K w' p er := h.bel (S := []) (Bel.of hb) (by simp) (by simp) (by simp)
theorem Dec.dlt {K : DK} {w : World} {p : Nat} {er : Value} (h : Dec K w p er) : K.d < w.heap.size := h.b.blk.lt
theorem Dec.slt {K : DK} {w : World} {p : Nat} {er : Value} (h : Dec K w p er) : K.sb < w.heap.size := by obtain ⟨Z, _, hZ⟩ := h.sc; exact hZ.lt
/-- Bytes of a known number, one by one. -/
theorem one1 (l : List Int) (h : l.length = 1) : ∃ b0, l = [b0] := by
  match l, h with
  | [b0], _ => exact ⟨b0, rfl⟩
theorem one2 (l : List Int) (h : l.length = 2) : ∃ b0 b1, l = [b0, b1] := by
  match l, h with
  | [b0, b1], _ => exact ⟨b0, b1, rfl⟩
theorem one4 (l : List Int) (h : l.length = 4) : ∃ b0 b1 b2 b3, l = [b0, b1, b2, b3] := by
  match l, h with
  | [b0, b1, b2, b3], _ => exact ⟨b0, b1, b2, b3, rfl⟩
theorem one8 (l : List Int) (h : l.length = 8) : ∃ b0 b1 b2 b3 b4 b5 b6 b7, l = [b0, b1, b2, b3, b4, b5, b6, b7] := by
  match l, h with
  | [b0, b1, b2, b3, b4, b5, b6, b7], _ => exact ⟨b0, b1, b2, b3, b4, b5, b6, b7, rfl⟩
theorem splice_at (Z : List Value) (l : List Int) (i : Nat) (hi : i < l.length) (hZ : l.length ≤ Z.length) : (splice Z 0 (bc l)).toArray[i]? = some (.int .u8 (l[i]'hi)) := by
  simp [splice, List.getElem?_append, hi]
/-- What a read leaves. -/
def Went (K : DK) (w : World) (p k : Nat) (w' : World) : Prop := Dec K w' (p + k) .nilIface ∧ Bel w.heap.size [K.d, K.sb] w w'
theorem went_of {K : DK} {w w1 w2 : World} {p k : Nat} {Z : List Value} (hz : Z.length = 4096) (h : Dec K w p .nilIface) (hk : k ≤ 4096) (hr : ReadTo K w p p k K.sb Z 5 w1) (hb : Below w1.heap.size w1 w2) (fit : p + k ≤ K.xs.length) : Went K w p k w2 := by
  obtain ⟨h1, h2, h3⟩ := hr
  have hl : (splice Z 0 (bc ((K.xs.drop p).take k))).length = 4096 := by
    rw [length_splice]
    · exact hz
    · rw [len_bc _ _ _ fit]; omega
  have hd : Dec K w1 (p + k) .nilIface := ⟨h1, ⟨_, hl, h2⟩, h.by_⟩
  exact ⟨hd.below hb, h3.then (B' := w1.heap.size) (Bel.of (S := []) hb) h3.size (by simp)⟩

set_option maxRecDepth 100000 in
theorem D_Byte (K : DK) (p : Nat) (w : World) (h : Dec K w p .nilIface) (fit : p + 1 ≤ K.xs.length) :
    Calls Tryd.prog 66 #[.pointer (some ⟨K.d, 0, none⟩)] w fun e w' => e = .returned (.int .u8 (K.num p 1)) ∧ Went K w p 1 w' := by
  obtain ⟨Z, hz, hZ⟩ := h.sc
  have hl : K.xs.length ≤ 140737488351232 := h.b.rd.small
  have hlen : ((K.xs.drop p).take 1).length = 1 := by simp; omega
  obtain ⟨b0, hbs⟩ := one1 _ hlen
  have r0 : 0 ≤ b0 ∧ b0 < 256 := h.by_ b0 (List.mem_of_mem_drop (List.mem_of_mem_take (by rw [hbs]; simp)))
  have c3 : w.cell? ⟨K.d, 3, none⟩ = some (.slice (some ⟨K.sb, 0, none⟩) 4096 4096) := h.b.blk.cell 3 rfl
  have H := Hd.mk h; have HZ := Hd.mk hZ; have HB := Hd.mk hbs; have HZ2 := Hd.mk hz
  clear h hZ hbs hz
  go_enter Tryd.func66, Tryd.ntmps66
  go_wp2_with fail
  with_reducible refine (readFull_ok K p p _ H.out.b K.sb Z 5 HZ.out (Ne.symm H.out.b.ne) (H.out.b.rd.sub (by simp)) 1 4096 _ (fun _ => rfl) (by rw [HZ2.out]; omega) fit (by omega)).mono ?_
  rintro e w1 ⟨rfl, hr⟩
  have d3 : w1.cell? ⟨K.d, 3, none⟩ = some (.slice (some ⟨K.sb, 0, none⟩) 4096 4096) := hr.1.blk.cell 3 rfl
  have HR := Hd.mk hr
  have e0 : w1.cell? ⟨K.sb, 0, none⟩ = some (.int .u8 b0) := by have := hr.2.1.cell 0 (splice_at Z _ 0 (by rw [hlen]; omega) (by rw [hlen, HZ2.out]; omega)); simpa [HB.out] using this
  clear c3 hr
  go_wp2
  go_ret
  refine ⟨?_, went_of HZ2.out H.out (by omega) HR.out (Below.refl _ _) fit⟩
  unfold DK.num
  rw [HB.out]
  simp [leN]
set_option maxRecDepth 100000 in
theorem D_Int32 (K : DK) (p : Nat) (w : World) (h : Dec K w p .nilIface) (fit : p + 4 ≤ K.xs.length) :
    Calls Tryd.prog 48 #[.pointer (some ⟨K.d, 0, none⟩)] w fun e w' => e = .returned (.int .i32 (wrap32 (K.num p 4))) ∧ Went K w p 4 w' := by
  obtain ⟨Z, hz, hZ⟩ := h.sc
  have hl : K.xs.length ≤ 140737488351232 := h.b.rd.small
  have hlen : ((K.xs.drop p).take 4).length = 4 := by simp; omega
  obtain ⟨b0, b1, b2, b3, hbs⟩ := one4 _ hlen
  have r0 : 0 ≤ b0 ∧ b0 < 256 := h.by_ b0 (List.mem_of_mem_drop (List.mem_of_mem_take (by rw [hbs]; simp)))
  have r1 : 0 ≤ b1 ∧ b1 < 256 := h.by_ b1 (List.mem_of_mem_drop (List.mem_of_mem_take (by rw [hbs]; simp)))
  have r2 : 0 ≤ b2 ∧ b2 < 256 := h.by_ b2 (List.mem_of_mem_drop (List.mem_of_mem_take (by rw [hbs]; simp)))
  have r3 : 0 ≤ b3 ∧ b3 < 256 := h.by_ b3 (List.mem_of_mem_drop (List.mem_of_mem_take (by rw [hbs]; simp)))
  have c3 : w.cell? ⟨K.d, 3, none⟩ = some (.slice (some ⟨K.sb, 0, none⟩) 4096 4096) := h.b.blk.cell 3 rfl
  have H := Hd.mk h; have HZ := Hd.mk hZ; have HB := Hd.mk hbs; have HZ2 := Hd.mk hz
  clear h hZ hbs hz
  go_enter Tryd.func48, Tryd.ntmps48
  go_wp2_with fail
  with_reducible refine (readFull_ok K p p _ H.out.b K.sb Z 5 HZ.out (Ne.symm H.out.b.ne) (H.out.b.rd.sub (by simp)) 4 4096 _ (fun _ => rfl) (by rw [HZ2.out]; omega) fit (by omega)).mono ?_
  rintro e w1 ⟨rfl, hr⟩
  have d3 : w1.cell? ⟨K.d, 3, none⟩ = some (.slice (some ⟨K.sb, 0, none⟩) 4096 4096) := hr.1.blk.cell 3 rfl
  have HR := Hd.mk hr
  have e0 : w1.cell? ⟨K.sb, 0, none⟩ = some (.int .u8 b0) := by have := hr.2.1.cell 0 (splice_at Z _ 0 (by rw [hlen]; omega) (by rw [hlen, HZ2.out]; omega)); simpa [HB.out] using this
  have e1 : w1.cell? ⟨K.sb, 1, none⟩ = some (.int .u8 b1) := by have := hr.2.1.cell 1 (splice_at Z _ 1 (by rw [hlen]; omega) (by rw [hlen, HZ2.out]; omega)); simpa [HB.out] using this
  have e2 : w1.cell? ⟨K.sb, 2, none⟩ = some (.int .u8 b2) := by have := hr.2.1.cell 2 (splice_at Z _ 2 (by rw [hlen]; omega) (by rw [hlen, HZ2.out]; omega)); simpa [HB.out] using this
  have e3 : w1.cell? ⟨K.sb, 3, none⟩ = some (.int .u8 b3) := by have := hr.2.1.cell 3 (splice_at Z _ 3 (by rw [hlen]; omega) (by rw [hlen, HZ2.out]; omega)); simpa [HB.out] using this
  clear c3 hr
  go_wp2
  go_still_tail 6, (by kernel_rfl)
  change wpList _ _ _ _ _ w1.drew
  go_wp2_with fail
  have C := get32 K.sb 4 4096 b0 b1 b2 b3 w1.drew (by omega) r0 r1 r2 r3 e0 e1 e2 e3
  with_reducible refine C.mono ?_
  rintro e w2 ⟨rfl, hb⟩
  have HB2 := Hd.mk hb
  clear hb C d3 e0 e1 e2 e3
  go_wp2
  go_ret
  refine ⟨?_, went_of HZ2.out H.out (by omega) HR.out ((Below.refl _ _).drew.trans HB2.out) fit⟩
  unfold DK.num
  rw [HB.out]
  simp [go_sem]
end Go.Proofs.YtmgckcngedpgoaaDoor.Kb
