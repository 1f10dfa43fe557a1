/- The Decoder's methods where too few bytes are left. -/
import Derived.Test.YtbohjafchfeheaaVar
namespace Go.Proofs.Ytbohjafchfeheaa.Kb
open Go Go.RowKit
set_option linter.unusedVariables false
set_option linter.unusedSimpArgs false
set_option maxHeartbeats 1000000
theorem errNew (s : ByteArray) (w : World) :
    Calls Try.prog 101 #[.string s] w fun e w' => e = .returned (.iface 221 (.pointer (some ⟨w.heap.size, 0, none⟩))) ∧ w' = w.alloc (.cells #[.string s] 223) := by
  go_enter Try.func101, Try.ntmps101
  go_wp2
  go_ret
  exact ⟨rfl, rfl⟩
/-- What is left where too few bytes are there. -/
def Failed (K : DK) (w w' : World) : Prop := (∃ p c er, Er true er ∧ DecB K w' p c er) ∧ Bel w.heap.size [K.d, K.sb] w w'
/-- What the reading of too many bytes leaves. -/
def ReadNo (K : DK) (w : World) (g m : Nat) (e : Ending) (w' : World) : Prop :=
  ∃ T v, e = .returned (.tuple #[.int .i64 m, .iface T v]) ∧ (∃ p c, DecB K w' p c (.iface T v)) ∧ Bel w.heap.size [K.d, g] w w'
set_option maxRecDepth 100000 in
theorem readFull_no (K : DK) (p c : Nat) (w : World) (h : DecB K w p c .nilIface) (g : Nat) (cur : List Value) (t : TypeId) (hg : Blk w g cur.toArray t) (hgd : g ≠ K.d) (hgx : Rd w [g] K.ra K.xs.length K.xs)
    (k kc m : Nat) (ba : Option Addr) (hba : 0 < k → ba = some ⟨g, 0, none⟩) (hk : k ≤ cur.length) (fit : K.xs.length = p + m) (hm' : m < k) (hc : c + m ≤ 4000000000000000000) (hkm : k ≤ 4000000000000000000) :
    Calls Try.prog 120 #[.pointer (some ⟨K.d, 0, none⟩), .slice ba k kc] w fun e w' => ReadNo K w g m e w' := by
  have c0 : w.cell? ⟨K.d, 0, none⟩ = some (.slice K.ra K.xs.length K.rc) := h.blk.cell 0 rfl
  have c1 : w.cell? ⟨K.d, 1, none⟩ = some (.int .i64 p) := h.blk.cell 1 rfl
  have c2 : w.cell? ⟨K.d, 2, none⟩ = some .nilIface := h.blk.cell 2 rfl
  have f1 := h.blk.free 1
  have f5 := h.blk.free 5
  have hm : K.xs.length ≤ 9223372036854775807 := by have := h.rd.small; omega
  have hle : p ≤ K.xs.length := h.le
  have hlec := h.lec
  have hlecc : K.rc ≤ 9223372036854775807 := by have := h.lecc; unfold maxLen at this; exact this
  have fit' : p + m ≤ K.xs.length := by omega
  have H := Hd.mk h
  have HG := Hd.mk hg
  have HX := Hd.mk hgx
  have HBA := Hd.mk hba
  have FIT := Hd.mk fit
  clear h hg hgx hba fit
  go_enter Try.func120, Try.ntmps120
  go_wp2
  go_still_tail 10, (by kernel_rfl)
  change wpList _ _ _ _ _ w.drew
  refine wpList_copy_at rfl (.tmp 16) (.tmp 25) 23 23 rfl 5 Try.underlying23 (by kernel_rfl) ba _ k kc (K.xs.length - p) (K.rc - p) rfl rfl g cur t HG.out.drew (bc ((K.xs.drop p).take m)) ?_ ?_ ?_ ?_ ?_
  · rw [len_bc _ _ _ fit']; have fit := FIT.out; exact ((Nat.min_eq_left (by omega)).trans (by omega)).symm
  · intro hp0
    rw [len_bc _ _ _ fit'] at hp0
    refine ⟨HBA.out (by omega), ?_⟩
    obtain ⟨ad, had, _⟩ := HX.out.cell p (by omega)
    have hne : ¬ K.rc = p := by omega
    rw [if_neg hne, had]
    refine ⟨ad.add p, rfl, fun j v hv => ?_⟩
    obtain ⟨hj, rfl⟩ := take_bc _ _ _ fit' j v hv
    obtain ⟨ad', had', hc'⟩ := HX.out.cell (p + j) (by omega)
    rw [had] at had'
    cases had'
    rw [add_add]
    exact hc'
  · rw [len_bc _ _ _ fit']; omega
  · intro v hv
    obtain ⟨x, _, rfl⟩ := List.mem_map.1 hv
    rfl
  rw [len_bc _ _ _ fit']
  intro w1 hb1 hbel1
  have HB1 := Hd.mk hb1
  have HL1 := Hd.mk hbel1
  have hd1 := H.out.blk.drew.bel hbel1 H.out.blk.lt (by simpa using hgd.symm)
  have hdl := hd1.lt
  have d1 : w1.cell? ⟨K.d, 1, none⟩ = some (.int .i64 p) := hd1.cell 1 rfl
  have d2 : w1.cell? ⟨K.d, 2, none⟩ = some .nilIface := hd1.cell 2 rfl
  have d5 : w1.cell? ⟨K.d, 5, none⟩ = some (.int .i64 c) := hd1.cell 5 rfl
  have g1 := hd1.free 1
  have g2 := hd1.free 2
  have g5 := hd1.free 5
  have HD1 := Hd.mk hd1
  clear hb1 hbel1 hd1 c0 c1 c2 f1 f5
  obtain ⟨W, hW⟩ : ∃ W, W = ((w1.setCell ⟨K.d, 1, none⟩ (.int .i64 ((p : Int) + m))).alloc (.cells #[.string { data := #[117, 110, 101, 120, 112, 101, 99, 116, 101, 100, 32, 69, 79, 70] }] 223)) := ⟨_, rfl⟩
  obtain ⟨T, v, hE⟩ : ∃ T v, Value.iface T v = Value.iface 221 (.pointer (some ⟨(w1.setCell ⟨K.d, 1, none⟩ (.int .i64 ((p : Int) + m))).heap.size, 0, none⟩)) := ⟨_, _, rfl⟩
  have C : Calls Try.prog 101 #[.string { data := #[117, 110, 101, 120, 112, 101, 99, 116, 101, 100, 32, 69, 79, 70] }] (w1.setCell ⟨K.d, 1, none⟩ (.int .i64 ((p : Int) + m))) fun e w' => e = .returned (.iface T v) ∧ w' = W := by
    rw [hW, hE]
    exact errNew _ _
  have hd := (HD1.out.set 1 (.int .i64 ((p : Int) + m))).alloc (.cells #[.string { data := #[117, 110, 101, 120, 112, 101, 99, 116, 101, 100, 32, 69, 79, 70] }] 223)
  have hbl := (((Bel.refl w.heap.size [K.d, g] w).drew.trans (HL1.out.weak (S' := [K.d, g]) (Nat.le_refl _) (by simp))).set (p := ⟨K.d, 1, none⟩) (.inr (by simp)) (.int .i64 ((p : Int) + m))).alloc (by have := HL1.out.size; simp at this ⊢; omega) (.cells #[.string { data := #[117, 110, 101, 120, 112, 101, 99, 116, 101, 100, 32, 69, 79, 70] }] 223)
  rw [← hW] at hd hbl
  have e2 : W.cell? ⟨K.d, 2, none⟩ = some .nilIface := hd.cell 2 (by simp)
  have e5 : W.cell? ⟨K.d, 5, none⟩ = some (.int .i64 c) := hd.cell 5 (by simp)
  have k2 := hd.free 2; have k5 := hd.free 5
  have C := Hd.mk C; have HDW := Hd.mk hd; have HBL := Hd.mk hbl
  clear hd hbl hW hE
  go_wp2_with fail
  all_goals
    clear d1 d2 d5 g1 g2 g5
    with_reducible refine C.out.mono ?_
    rintro e w2 ⟨rfl, rfl⟩
    go_wp2
    go_quiet (fail)
    go_wp2
    refine bodyPost_ret (v := .tuple #[.int .i64 m, .iface T v]) (by simp [results, Try.results120, go_sem]) rfl ⟨T, v, rfl, ⟨p + m, c + m, ?_⟩, ?_⟩
    · have hb := ((HDW.out.set 2 (.iface T v)).set 5 (.int .i64 ((c : Int) + m)))
      have hbel : Bel w.heap.size [K.d, g] w _ := (HBL.out.set (p := ⟨K.d, 2, none⟩) (.inr (by simp)) (.iface T v)).set (p := ⟨K.d, 5, none⟩) (.inr (by simp)) (.int .i64 ((c : Int) + m))
      refine ⟨(hb.cast (by simp)).drewN _, ?_, H.out.ne, fit', H.out.lec, H.out.lecc, hc⟩
      exact ((H.out.rd.join HX.out).bel ((hbel.weak (S' := [K.d, K.sb] ++ [g]) (Nat.le_refl _) (fun x hx _ => by simp at hx ⊢; rcases hx with h | h <;> simp [h])).drewN _)).sub (fun x hx => by simp at hx ⊢; rcases hx with h | h <;> simp [h])
    · exact ((HBL.out.set (p := ⟨K.d, 2, none⟩) (.inr (by simp)) (.iface T v)).set (p := ⟨K.d, 5, none⟩) (.inr (by simp)) (.int .i64 ((c : Int) + m))).drewN _
end Go.Proofs.Ytbohjafchfeheaa.Kb
