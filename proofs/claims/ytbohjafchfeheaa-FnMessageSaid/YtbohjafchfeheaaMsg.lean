/- The walk of FnMessage: the header of a message as bytes, and read back. -/
import Derived.Test.YtbohjafchfeheaaHdr
import Derived.Test.YtbohjafchfeheaaPack
namespace Go.Proofs.Ytbohjafchfeheaa.Kb
open Go Go.RowKit
set_option linter.unusedVariables false
set_option linter.unusedSimpArgs false
set_option maxHeartbeats 1000000
set_option maxRecDepth 100000 in
theorem zzMessage (eb sb wr tb : Nat) (x0 x1 x2 x3 x4 : Int) (w : World) (h : Enc0 w eb sb wr tb) (l2 : 0 ≤ x2) (u2 : x2 < 4294967296) (l3 : 0 ≤ x3) (u3 : x3 < 4294967296) :
    Calls Try.prog 57 #[.pointer (some ⟨eb, 0, none⟩), .int .i64 x0, .int .i32 x1, .int .u32 x2, .int .u32 x3, .int .i16 x4] w fun e w' => e = .returned (.tuple #[]) ∧ Sent w sb wr (leB 8 x0 ++ (leB 4 x1 ++ (leB 4 x2 ++ (leB 4 x3 ++ (leB 2 x4 ++ (List.replicate 10 0)))))) w' := by
  have hb : Below w.heap.size w (w.alloc (.cells #[.int .i64 x0, .int .i32 x1, .int .u32 x2, .int .u32 x3, .int .i16 x4] 171)) := (Below.refl _ _).alloc (Nat.le_refl _) _
  have h1 := h.below hb
  have hE := Enc.start h1.b1 h1.b2 h1.b3 h1.n1 h1.n2 h1.n3
  have C := Hd.mk (enc_messageHeader _ _ _ hE w.heap.size x0 x1 x2 x3 x4 (Blk.new _ _ _) (by simp) (Nat.ne_of_gt h.b2.lt) (Nat.ne_of_gt h.b3.lt) l2 u2 l3 u3 (by simp))
  have HB := Hd.mk hb
  clear hb h1 hE h
  go_enter Try.func57, Try.ntmps57
  go_wp2_with fail
  with_reducible refine C.out.mono ?_
  rintro e w1 ⟨rfl, hw⟩
  have HW := Hd.mk (Sent.of hw rfl rfl (by simp) HB.out)
  clear hw C
  go_wp2
  go_end0
  exact ⟨rfl, HW.out⟩
set_option maxRecDepth 100000 in
theorem messageBytes (x0 x1 x2 x3 x4 : Int) (w : World) (l2 : 0 ≤ x2) (u2 : x2 < 4294967296) (l3 : 0 ≤ x3) (u3 : x3 < 4294967296) :
    Calls Try.prog 29 #[.int .i64 x0, .int .i32 x1, .int .u32 x2, .int .u32 x3, .int .i16 x4] w fun e w' => Made w (leB 8 x0 ++ (leB 4 x1 ++ (leB 4 x2 ++ (leB 4 x3 ++ (leB 2 x4 ++ (List.replicate 10 0)))))) e w' := by
  have hW := Blk.new w #[.slice none 0 0] 103
  have hB : Below w.heap.size w (w.alloc (.cells #[.slice none 0 0] 103)) := (Below.refl _ _).alloc (Nat.le_refl _) _
  have HW := Hd.mk hW; have HB := Hd.mk hB
  clear hW hB
  go_enter Try.func29, Try.ntmps29
  go_wp2_with fail
  with_reducible refine (encoder_new _ _).mono ?_
  intro e w1 h1
  obtain ⟨eb, sb, tb, rfl, he, k1, k2, k3, hl⟩ := Enc0.of HW.out h1
  have HE := Hd.mk he; have HL := Hd.mk (HB.out.trans (hl.mono (by simp))); have K2 := Hd.mk k2
  clear h1 he k1 k2 k3 hl HW HB
  go_wp2_with fail
  with_reducible refine (zzMessage eb sb _ tb x0 x1 x2 x3 x4 _ HE.out l2 u2 l3 u3).mono ?_
  rintro e w2 ⟨rfl, v, hv, hown, hb⟩
  have c : w2.cell? ⟨w.heap.size, 0, none⟩ = some v := hv.cell 0 rfl
  have HO := Hd.mk (own_base hown HL.out.size)
  have HB := Hd.mk (Bel.to' ((Bel.of HL.out).trans (hb.weak HL.out.size (S' := [sb, w.heap.size]) (fun x hx _ => hx))) (by have := K2.out; simp at this ⊢; omega))
  clear hv hown hb
  go_wp2
  refine bodyPost_ret (v := v) (by simp [results, Try.results29, go_sem]) rfl ⟨_, rfl, HO.out, HB.out⟩
set_option maxRecDepth 100000 in
theorem zzMessageOf (K : DK) (w : World) (h : Dec K w 0 .nilIface) (fit : 32 ≤ K.xs.length) (x0 x1 x2 x3 x4 : Int) (e0 : wrap64 (K.num 0 8) = x0) (e1 : wrap32 (K.num 8 4) = x1) (e2 : K.num 12 4 = x2) (e3 : K.num 16 4 = x3) (e4 : IntKind.i16.wrap (K.num 20 2) = x4) :
    Calls Try.prog 58 #[.pointer (some ⟨K.d, 0, none⟩)] w fun e w' => e = .returned (.tuple #[.int .i64 x0, .int .i32 x1, .int .u32 x2, .int .u32 x3, .int .i16 x4, .nilIface]) ∧ Dec K w' 32 .nilIface ∧ Bel w.heap.size [K.d, K.sb] w w' := by
  have C := Hd.mk (dec_messageHeader K 0 w.heap.size _ (DecG.new h #[.int .i64 0, .int .i32 0, .int .u32 0, .int .u32 0, .int .i16 0] 171) (by omega))
  have HB := Hd.mk (show Below w.heap.size w (w.alloc (.cells #[.int .i64 0, .int .i32 0, .int .u32 0, .int .u32 0, .int .i16 0] 171)) from (Below.refl _ _).alloc (Nat.le_refl _) _)
  have E0 := Hd.mk e0; have E1 := Hd.mk e1; have E2 := Hd.mk e2; have E3 := Hd.mk e3; have E4 := Hd.mk e4
  clear h e0 e1 e2 e3 e4
  go_enter Try.func58, Try.ntmps58
  go_wp2_with fail
  with_reducible refine C.out.mono ?_
  rintro e w1 ⟨rfl, hg, hb⟩
  simp only [Nat.zero_add] at hg
  rw [E0.out, E1.out, E2.out, E3.out, E4.out] at hg
  have c0 : w1.cell? ⟨w.heap.size, 0, none⟩ = some (.int .i64 x0) := hg.blk.cell 0 rfl
  have c1 : w1.cell? ⟨w.heap.size, 1, none⟩ = some (.int .i32 x1) := hg.blk.cell 1 rfl
  have c2 : w1.cell? ⟨w.heap.size, 2, none⟩ = some (.int .u32 x2) := hg.blk.cell 2 rfl
  have c3 : w1.cell? ⟨w.heap.size, 3, none⟩ = some (.int .u32 x3) := hg.blk.cell 3 rfl
  have c4 : w1.cell? ⟨w.heap.size, 4, none⟩ = some (.int .i16 x4) := hg.blk.cell 4 rfl
  have HD := Hd.mk hg.d
  have HL := Hd.mk ((Bel.of (S := [K.d, K.sb]) HB.out).then hb (by simp) (by simp))
  clear hg hb C HB E0 E1 E2 E3 E4
  go_wp2
  go_quiet (fail)
  go_wp2
  refine bodyPost_ret (v := .tuple #[.int .i64 x0, .int .i32 x1, .int .u32 x2, .int .u32 x3, .int .i16 x4, .nilIface]) (by simp [results, Try.results58, go_sem]) rfl ⟨rfl, HD.out.below ⟨rfl, rfl, rfl, Nat.le_refl _, fun _ _ => rfl⟩, HL.out.trans ⟨rfl, rfl, rfl, Nat.le_refl _, fun _ _ _ => rfl⟩⟩
end Go.Proofs.Ytbohjafchfeheaa.Kb
