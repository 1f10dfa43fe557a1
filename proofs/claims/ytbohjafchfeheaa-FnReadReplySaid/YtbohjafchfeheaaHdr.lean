/- The headers of messages and parts, requests and replies: what encode writes and decode reads. -/
import Derived.Test.YtbohjafchfeheaaMake
namespace Go.Proofs.Ytbohjafchfeheaa.Kb
open Go Go.RowKit
set_option linter.unusedVariables false
set_option linter.unusedSimpArgs false
set_option maxHeartbeats 1000000
theorem wrap32_bounds (x : Int) : -2147483648 ≤ wrap32 x ∧ wrap32 x ≤ 2147483647 := by unfold wrap32; omega
theorem bel_of {B : Nat} {S S' : List Nat} {w w1 w2 : World} (h : Bel B S w w1) (hw : Bel w1.heap.size S' w1 w2) (hB : B ≤ w.heap.size) (hS : ∀ x ∈ S', x ∈ S) : Bel B S w w2 :=
  h.then hw (Nat.le_trans hB h.size) (fun x hx _ => hS x hx)

set_option maxRecDepth 100000 in
theorem enc_messageHeader (K : EK) (out : List Int) (w : World) (h : Enc K w out) (g : Nat) (x0 x1 x2 x3 x4 : Int) (hg : Blk w g #[.int .i64 x0, .int .i32 x1, .int .u32 x2, .int .u32 x3, .int .i16 x4] 171) (hB : g < K.B) (n1 : g ≠ K.sb) (n2 : g ≠ K.wr) (l2 : 0 ≤ x2) (u2 : x2 < 4294967296) (l3 : 0 ≤ x3) (u3 : x3 < 4294967296) (hn : out.length + 32 ≤ 1000000000) :
    Calls Try.prog 84 #[.pointer (some ⟨g, 0, none⟩), .pointer (some ⟨K.e, 0, none⟩)] w fun e w' => e = .returned .nilIface ∧ Wrote K w out (leB 8 x0 ++ (leB 4 x1 ++ (leB 4 x2 ++ (leB 4 x3 ++ (leB 2 x4 ++ (List.replicate 10 0)))))) w' := by
  have HE := Hd.mk h; have HG := Hd.mk hg; have HL := Hd.mk (Bel.refl K.B [K.sb, K.wr] w)
  have c : w.cell? ⟨g, 0, none⟩ = some (.int .i64 x0) := HG.out.cell 0 rfl
  clear h hg
  go_enter Try.func84, Try.ntmps84
  go_wp2_with fail
  with_reducible refine (E_Int64 K _ _ _ HE.out (by first | omega | (simp only [List.length_append, leB_len, List.length_replicate]; omega))).mono ?_
  rintro e w1 ⟨rfl, hw⟩
  have HG' := Hd.mk (HG.out.bel hw.2 hB (by simp [n1, n2])); have HE' := Hd.mk hw.1; have HL' := Hd.mk (HL.out.trans hw.2)
  clear hw HG HE HL c
  have HG := HG'; have HE := HE'; have HL := HL'
  clear HG' HE' HL'
  have c : w1.cell? ⟨g, 1, none⟩ = some (.int .i32 x1) := HG.out.cell 1 rfl
  go_wp2_with fail
  with_reducible refine (E_Int32 K _ _ _ HE.out (by first | omega | (simp only [List.length_append, leB_len, List.length_replicate]; omega))).mono ?_
  rintro e w2 ⟨rfl, hw⟩
  have HG' := Hd.mk (HG.out.bel hw.2 hB (by simp [n1, n2])); have HE' := Hd.mk hw.1; have HL' := Hd.mk (HL.out.trans hw.2)
  clear hw HG HE HL c
  have HG := HG'; have HE := HE'; have HL := HL'
  clear HG' HE' HL'
  have c : w2.cell? ⟨g, 2, none⟩ = some (.int .u32 x2) := HG.out.cell 2 rfl
  go_wp2_with fail
  with_reducible refine (E_Uint32 K _ _ _ HE.out (by first | omega | (simp only [List.length_append, leB_len, List.length_replicate]; omega)) l2 u2).mono ?_
  rintro e w3 ⟨rfl, hw⟩
  have HG' := Hd.mk (HG.out.bel hw.2 hB (by simp [n1, n2])); have HE' := Hd.mk hw.1; have HL' := Hd.mk (HL.out.trans hw.2)
  clear hw HG HE HL c
  have HG := HG'; have HE := HE'; have HL := HL'
  clear HG' HE' HL'
  have c : w3.cell? ⟨g, 3, none⟩ = some (.int .u32 x3) := HG.out.cell 3 rfl
  go_wp2_with fail
  with_reducible refine (E_Uint32 K _ _ _ HE.out (by first | omega | (simp only [List.length_append, leB_len, List.length_replicate]; omega)) l3 u3).mono ?_
  rintro e w4 ⟨rfl, hw⟩
  have HG' := Hd.mk (HG.out.bel hw.2 hB (by simp [n1, n2])); have HE' := Hd.mk hw.1; have HL' := Hd.mk (HL.out.trans hw.2)
  clear hw HG HE HL c
  have HG := HG'; have HE := HE'; have HL := HL'
  clear HG' HE' HL'
  have c : w4.cell? ⟨g, 4, none⟩ = some (.int .i16 x4) := HG.out.cell 4 rfl
  go_wp2_with fail
  with_reducible refine (E_Int16 K _ _ _ HE.out (by first | omega | (simp only [List.length_append, leB_len, List.length_replicate]; omega))).mono ?_
  rintro e w5 ⟨rfl, hw⟩
  have HG' := Hd.mk (HG.out.bel hw.2 hB (by simp [n1, n2])); have HE' := Hd.mk hw.1; have HL' := Hd.mk (HL.out.trans hw.2)
  clear hw HG HE HL c
  have HG := HG'; have HE := HE'; have HL := HL'
  clear HG' HE' HL'
  go_wp2_with fail
  with_reducible refine (E_Zeroes K _ 10 10 _ rfl HE.out (by omega) (by omega) (by first | omega | (simp only [List.length_append, leB_len, List.length_replicate]; omega))).mono ?_
  rintro e w6 ⟨rfl, hw⟩
  have HG' := Hd.mk (HG.out.bel hw.2 hB (by simp [n1, n2])); have HE' := Hd.mk hw.1; have HL' := Hd.mk (HL.out.trans hw.2)
  clear hw HG HE HL
  have HG := HG'; have HE := HE'; have HL := HL'
  clear HG' HE' HL'
  go_wp2
  go_ret
  refine ⟨rfl, ?_, HL.out⟩
  have he := HE.out
  simp only [List.append_assoc] at he
  exact he
set_option maxRecDepth 100000 in
theorem dec_messageHeader (K : DK) (p g : Nat) (w : World) (h : DecG K w p g #[.int .i64 0, .int .i32 0, .int .u32 0, .int .u32 0, .int .i16 0] 171) (fit : p + 32 ≤ K.xs.length) :
    Calls Try.prog 85 #[.pointer (some ⟨g, 0, none⟩), .pointer (some ⟨K.d, 0, none⟩)] w fun e w' => e = .returned .nilIface ∧ DecG K w' (p + 32) g #[.int .i64 (wrap64 (K.num p 8)), .int .i32 (wrap32 (K.num (p + 8) 4)), .int .u32 (K.num (p + 12) 4), .int .u32 (K.num (p + 16) 4), .int .i16 (IntKind.i16.wrap (K.num (p + 20) 2))] 171 ∧ Bel w.heap.size [K.d, K.sb, g] w w' := by
  have HG := Hd.mk h; have HL := Hd.mk (Bel.refl w.heap.size [K.d, K.sb, g] w)
  clear h
  go_enter Try.func85, Try.ntmps85
  go_wp2_with fail
  with_reducible refine (D_Int64 K p _ HG.out.d (by omega)).mono ?_
  rintro e w1 ⟨rfl, hw⟩
  have hg : DecG K w1 (p + 8) g #[.int .i64 0, .int .i32 0, .int .u32 0, .int .u32 0, .int .i16 0] 171 := (HG.out.went hw)
  have hl := bel_of HL.out hw.2 (Nat.le_refl _) (fun x hx => by simp at hx ⊢; rcases hx with h | h <;> simp [h])
  clear HG HL hw
  have c : w1.cell? ⟨g, 0, none⟩ = some (.int .i64 0) := hg.blk.cell 0 rfl
  have f := hg.blk.free 0
  have HG := Hd.mk ((hg.set 0 (.int .i64 (wrap64 (K.num p 8)))).cast (cs' := #[.int .i64 (wrap64 (K.num p 8)), .int .i32 0, .int .u32 0, .int .u32 0, .int .i16 0]) (by simp)); have HL := Hd.mk (hl.set (p := ⟨g, 0, none⟩) (.inr (by simp)) (.int .i64 (wrap64 (K.num p 8))))
  clear hg hl
  go_wp2_with fail
  clear c f
  go_wp2_with fail
  with_reducible refine (D_Int32 K (p + 8) _ HG.out.d (by omega)).mono ?_
  rintro e w2 ⟨rfl, hw⟩
  have hg : DecG K w2 (p + 12) g #[.int .i64 (wrap64 (K.num p 8)), .int .i32 0, .int .u32 0, .int .u32 0, .int .i16 0] 171 := (HG.out.went hw)
  have hl := bel_of HL.out hw.2 (Nat.le_refl _) (fun x hx => by simp at hx ⊢; rcases hx with h | h <;> simp [h])
  clear HG HL hw
  have c : w2.cell? ⟨g, 1, none⟩ = some (.int .i32 0) := hg.blk.cell 1 rfl
  have f := hg.blk.free 1
  have HG := Hd.mk ((hg.set 1 (.int .i32 (wrap32 (K.num (p + 8) 4)))).cast (cs' := #[.int .i64 (wrap64 (K.num p 8)), .int .i32 (wrap32 (K.num (p + 8) 4)), .int .u32 0, .int .u32 0, .int .i16 0]) (by simp)); have HL := Hd.mk (hl.set (p := ⟨g, 1, none⟩) (.inr (by simp)) (.int .i32 (wrap32 (K.num (p + 8) 4))))
  clear hg hl
  go_wp2_with fail
  clear c f
  go_wp2_with fail
  with_reducible refine (D_Uint32 K (p + 12) _ HG.out.d (by omega)).mono ?_
  rintro e w3 ⟨rfl, hw⟩
  have hg : DecG K w3 (p + 16) g #[.int .i64 (wrap64 (K.num p 8)), .int .i32 (wrap32 (K.num (p + 8) 4)), .int .u32 0, .int .u32 0, .int .i16 0] 171 := (HG.out.went hw)
  have hl := bel_of HL.out hw.2 (Nat.le_refl _) (fun x hx => by simp at hx ⊢; rcases hx with h | h <;> simp [h])
  clear HG HL hw
  have c : w3.cell? ⟨g, 2, none⟩ = some (.int .u32 0) := hg.blk.cell 2 rfl
  have f := hg.blk.free 2
  have HG := Hd.mk ((hg.set 2 (.int .u32 (K.num (p + 12) 4))).cast (cs' := #[.int .i64 (wrap64 (K.num p 8)), .int .i32 (wrap32 (K.num (p + 8) 4)), .int .u32 (K.num (p + 12) 4), .int .u32 0, .int .i16 0]) (by simp)); have HL := Hd.mk (hl.set (p := ⟨g, 2, none⟩) (.inr (by simp)) (.int .u32 (K.num (p + 12) 4)))
  clear hg hl
  go_wp2_with fail
  clear c f
  go_wp2_with fail
  with_reducible refine (D_Uint32 K (p + 16) _ HG.out.d (by omega)).mono ?_
  rintro e w4 ⟨rfl, hw⟩
  have hg : DecG K w4 (p + 20) g #[.int .i64 (wrap64 (K.num p 8)), .int .i32 (wrap32 (K.num (p + 8) 4)), .int .u32 (K.num (p + 12) 4), .int .u32 0, .int .i16 0] 171 := (HG.out.went hw)
  have hl := bel_of HL.out hw.2 (Nat.le_refl _) (fun x hx => by simp at hx ⊢; rcases hx with h | h <;> simp [h])
  clear HG HL hw
  have c : w4.cell? ⟨g, 3, none⟩ = some (.int .u32 0) := hg.blk.cell 3 rfl
  have f := hg.blk.free 3
  have HG := Hd.mk ((hg.set 3 (.int .u32 (K.num (p + 16) 4))).cast (cs' := #[.int .i64 (wrap64 (K.num p 8)), .int .i32 (wrap32 (K.num (p + 8) 4)), .int .u32 (K.num (p + 12) 4), .int .u32 (K.num (p + 16) 4), .int .i16 0]) (by simp)); have HL := Hd.mk (hl.set (p := ⟨g, 3, none⟩) (.inr (by simp)) (.int .u32 (K.num (p + 16) 4)))
  clear hg hl
  go_wp2_with fail
  clear c f
  go_wp2_with fail
  with_reducible refine (D_Int16 K (p + 20) _ HG.out.d (by omega)).mono ?_
  rintro e w5 ⟨rfl, hw⟩
  have hg : DecG K w5 (p + 22) g #[.int .i64 (wrap64 (K.num p 8)), .int .i32 (wrap32 (K.num (p + 8) 4)), .int .u32 (K.num (p + 12) 4), .int .u32 (K.num (p + 16) 4), .int .i16 0] 171 := (HG.out.went hw)
  have hl := bel_of HL.out hw.2 (Nat.le_refl _) (fun x hx => by simp at hx ⊢; rcases hx with h | h <;> simp [h])
  clear HG HL hw
  have c : w5.cell? ⟨g, 4, none⟩ = some (.int .i16 0) := hg.blk.cell 4 rfl
  have f := hg.blk.free 4
  have HG := Hd.mk ((hg.set 4 (.int .i16 (IntKind.i16.wrap (K.num (p + 20) 2)))).cast (cs' := #[.int .i64 (wrap64 (K.num p 8)), .int .i32 (wrap32 (K.num (p + 8) 4)), .int .u32 (K.num (p + 12) 4), .int .u32 (K.num (p + 16) 4), .int .i16 (IntKind.i16.wrap (K.num (p + 20) 2))]) (by simp)); have HL := Hd.mk (hl.set (p := ⟨g, 4, none⟩) (.inr (by simp)) (.int .i16 (IntKind.i16.wrap (K.num (p + 20) 2))))
  clear hg hl
  go_wp2_with fail
  clear c f
  go_wp2_with fail
  with_reducible refine (D_Skip K (p + 22) 10 10 _ rfl HG.out.d (by omega) (by omega) (by omega)).mono ?_
  rintro e w6 ⟨rfl, hw⟩
  have hg : DecG K w6 (p + 32) g #[.int .i64 (wrap64 (K.num p 8)), .int .i32 (wrap32 (K.num (p + 8) 4)), .int .u32 (K.num (p + 12) 4), .int .u32 (K.num (p + 16) 4), .int .i16 (IntKind.i16.wrap (K.num (p + 20) 2))] 171 := (HG.out.went hw)
  have hl := bel_of HL.out hw.2 (Nat.le_refl _) (fun x hx => by simp at hx ⊢; rcases hx with h | h <;> simp [h])
  clear HG HL hw
  have HG := Hd.mk hg; have HL := Hd.mk hl
  clear hg hl
  go_wp2_with fail
  with_reducible refine (D_Error K _ _ _ _ HG.out.d.b).mono ?_
  rintro e w' ⟨rfl, rfl⟩
  go_wp2
  go_ret
  exact ⟨rfl, HG.out, HL.out⟩
set_option maxRecDepth 100000 in
theorem enc_partHeader (K : EK) (out : List Int) (w : World) (h : Enc K w out) (g : Nat) (x0 x1 x2 x3 x4 x5 : Int) (hg : Blk w g #[.int .i8 x0, .int .i8 x1, .int .i16 x2, .int .i32 x3, .int .i32 x4, .int .i32 x5] 164) (hB : g < K.B) (n1 : g ≠ K.sb) (n2 : g ≠ K.wr) (hn : out.length + 16 ≤ 1000000000) :
    Calls Try.prog 76 #[.pointer (some ⟨g, 0, none⟩), .pointer (some ⟨K.e, 0, none⟩)] w fun e w' => e = .returned .nilIface ∧ Wrote K w out (leB 1 x0 ++ (leB 1 x1 ++ (leB 2 x2 ++ (leB 4 x3 ++ (leB 4 x4 ++ (leB 4 x5)))))) w' := by
  have HE := Hd.mk h; have HG := Hd.mk hg; have HL := Hd.mk (Bel.refl K.B [K.sb, K.wr] w)
  have c : w.cell? ⟨g, 0, none⟩ = some (.int .i8 x0) := HG.out.cell 0 rfl
  clear h hg
  go_enter Try.func76, Try.ntmps76
  go_wp2_with fail
  with_reducible refine (E_Int8 K _ _ _ HE.out (by first | omega | (simp only [List.length_append, leB_len, List.length_replicate]; omega))).mono ?_
  rintro e w1 ⟨rfl, hw⟩
  have HG' := Hd.mk (HG.out.bel hw.2 hB (by simp [n1, n2])); have HE' := Hd.mk hw.1; have HL' := Hd.mk (HL.out.trans hw.2)
  clear hw HG HE HL c
  have HG := HG'; have HE := HE'; have HL := HL'
  clear HG' HE' HL'
  have c : w1.cell? ⟨g, 1, none⟩ = some (.int .i8 x1) := HG.out.cell 1 rfl
  go_wp2_with fail
  with_reducible refine (E_Int8 K _ _ _ HE.out (by first | omega | (simp only [List.length_append, leB_len, List.length_replicate]; omega))).mono ?_
  rintro e w2 ⟨rfl, hw⟩
  have HG' := Hd.mk (HG.out.bel hw.2 hB (by simp [n1, n2])); have HE' := Hd.mk hw.1; have HL' := Hd.mk (HL.out.trans hw.2)
  clear hw HG HE HL c
  have HG := HG'; have HE := HE'; have HL := HL'
  clear HG' HE' HL'
  have c : w2.cell? ⟨g, 2, none⟩ = some (.int .i16 x2) := HG.out.cell 2 rfl
  go_wp2_with fail
  with_reducible refine (E_Int16 K _ _ _ HE.out (by first | omega | (simp only [List.length_append, leB_len, List.length_replicate]; omega))).mono ?_
  rintro e w3 ⟨rfl, hw⟩
  have HG' := Hd.mk (HG.out.bel hw.2 hB (by simp [n1, n2])); have HE' := Hd.mk hw.1; have HL' := Hd.mk (HL.out.trans hw.2)
  clear hw HG HE HL c
  have HG := HG'; have HE := HE'; have HL := HL'
  clear HG' HE' HL'
  have c : w3.cell? ⟨g, 3, none⟩ = some (.int .i32 x3) := HG.out.cell 3 rfl
  go_wp2_with fail
  with_reducible refine (E_Int32 K _ _ _ HE.out (by first | omega | (simp only [List.length_append, leB_len, List.length_replicate]; omega))).mono ?_
  rintro e w4 ⟨rfl, hw⟩
  have HG' := Hd.mk (HG.out.bel hw.2 hB (by simp [n1, n2])); have HE' := Hd.mk hw.1; have HL' := Hd.mk (HL.out.trans hw.2)
  clear hw HG HE HL c
  have HG := HG'; have HE := HE'; have HL := HL'
  clear HG' HE' HL'
  have c : w4.cell? ⟨g, 4, none⟩ = some (.int .i32 x4) := HG.out.cell 4 rfl
  go_wp2_with fail
  with_reducible refine (E_Int32 K _ _ _ HE.out (by first | omega | (simp only [List.length_append, leB_len, List.length_replicate]; omega))).mono ?_
  rintro e w5 ⟨rfl, hw⟩
  have HG' := Hd.mk (HG.out.bel hw.2 hB (by simp [n1, n2])); have HE' := Hd.mk hw.1; have HL' := Hd.mk (HL.out.trans hw.2)
  clear hw HG HE HL c
  have HG := HG'; have HE := HE'; have HL := HL'
  clear HG' HE' HL'
  have c : w5.cell? ⟨g, 5, none⟩ = some (.int .i32 x5) := HG.out.cell 5 rfl
  go_wp2_with fail
  with_reducible refine (E_Int32 K _ _ _ HE.out (by first | omega | (simp only [List.length_append, leB_len, List.length_replicate]; omega))).mono ?_
  rintro e w6 ⟨rfl, hw⟩
  have HG' := Hd.mk (HG.out.bel hw.2 hB (by simp [n1, n2])); have HE' := Hd.mk hw.1; have HL' := Hd.mk (HL.out.trans hw.2)
  clear hw HG HE HL c
  have HG := HG'; have HE := HE'; have HL := HL'
  clear HG' HE' HL'
  go_wp2
  go_ret
  refine ⟨rfl, ?_, HL.out⟩
  have he := HE.out
  simp only [List.append_assoc] at he
  exact he
set_option maxRecDepth 100000 in
theorem dec_partHeader (K : DK) (p g : Nat) (w : World) (h : DecG K w p g #[.int .i8 0, .int .i8 0, .int .i16 0, .int .i32 0, .int .i32 0, .int .i32 0] 164) (fit : p + 16 ≤ K.xs.length) :
    Calls Try.prog 79 #[.pointer (some ⟨g, 0, none⟩), .pointer (some ⟨K.d, 0, none⟩)] w fun e w' => e = .returned .nilIface ∧ DecG K w' (p + 16) g #[.int .i8 (IntKind.i8.wrap (K.num p 1)), .int .i8 (IntKind.i8.wrap (K.num (p + 1) 1)), .int .i16 (IntKind.i16.wrap (K.num (p + 2) 2)), .int .i32 (wrap32 (K.num (p + 4) 4)), .int .i32 (wrap32 (K.num (p + 8) 4)), .int .i32 (wrap32 (K.num (p + 12) 4))] 164 ∧ Bel w.heap.size [K.d, K.sb, g] w w' := by
  have HG := Hd.mk h; have HL := Hd.mk (Bel.refl w.heap.size [K.d, K.sb, g] w)
  clear h
  go_enter Try.func79, Try.ntmps79
  go_wp2_with fail
  with_reducible refine (D_Int8 K p _ HG.out.d (by omega)).mono ?_
  rintro e w1 ⟨rfl, hw⟩
  have hg : DecG K w1 (p + 1) g #[.int .i8 0, .int .i8 0, .int .i16 0, .int .i32 0, .int .i32 0, .int .i32 0] 164 := (HG.out.went hw)
  have hl := bel_of HL.out hw.2 (Nat.le_refl _) (fun x hx => by simp at hx ⊢; rcases hx with h | h <;> simp [h])
  clear HG HL hw
  have c : w1.cell? ⟨g, 0, none⟩ = some (.int .i8 0) := hg.blk.cell 0 rfl
  have f := hg.blk.free 0
  have HG := Hd.mk ((hg.set 0 (.int .i8 (IntKind.i8.wrap (K.num p 1)))).cast (cs' := #[.int .i8 (IntKind.i8.wrap (K.num p 1)), .int .i8 0, .int .i16 0, .int .i32 0, .int .i32 0, .int .i32 0]) (by simp)); have HL := Hd.mk (hl.set (p := ⟨g, 0, none⟩) (.inr (by simp)) (.int .i8 (IntKind.i8.wrap (K.num p 1))))
  clear hg hl
  go_wp2_with fail
  clear c f
  go_wp2_with fail
  with_reducible refine (D_Int8 K (p + 1) _ HG.out.d (by omega)).mono ?_
  rintro e w2 ⟨rfl, hw⟩
  have hg : DecG K w2 (p + 2) g #[.int .i8 (IntKind.i8.wrap (K.num p 1)), .int .i8 0, .int .i16 0, .int .i32 0, .int .i32 0, .int .i32 0] 164 := (HG.out.went hw)
  have hl := bel_of HL.out hw.2 (Nat.le_refl _) (fun x hx => by simp at hx ⊢; rcases hx with h | h <;> simp [h])
  clear HG HL hw
  have c : w2.cell? ⟨g, 1, none⟩ = some (.int .i8 0) := hg.blk.cell 1 rfl
  have f := hg.blk.free 1
  have HG := Hd.mk ((hg.set 1 (.int .i8 (IntKind.i8.wrap (K.num (p + 1) 1)))).cast (cs' := #[.int .i8 (IntKind.i8.wrap (K.num p 1)), .int .i8 (IntKind.i8.wrap (K.num (p + 1) 1)), .int .i16 0, .int .i32 0, .int .i32 0, .int .i32 0]) (by simp)); have HL := Hd.mk (hl.set (p := ⟨g, 1, none⟩) (.inr (by simp)) (.int .i8 (IntKind.i8.wrap (K.num (p + 1) 1))))
  clear hg hl
  go_wp2_with fail
  clear c f
  go_wp2_with fail
  with_reducible refine (D_Int16 K (p + 2) _ HG.out.d (by omega)).mono ?_
  rintro e w3 ⟨rfl, hw⟩
  have hg : DecG K w3 (p + 4) g #[.int .i8 (IntKind.i8.wrap (K.num p 1)), .int .i8 (IntKind.i8.wrap (K.num (p + 1) 1)), .int .i16 0, .int .i32 0, .int .i32 0, .int .i32 0] 164 := (HG.out.went hw)
  have hl := bel_of HL.out hw.2 (Nat.le_refl _) (fun x hx => by simp at hx ⊢; rcases hx with h | h <;> simp [h])
  clear HG HL hw
  have c : w3.cell? ⟨g, 2, none⟩ = some (.int .i16 0) := hg.blk.cell 2 rfl
  have f := hg.blk.free 2
  have HG := Hd.mk ((hg.set 2 (.int .i16 (IntKind.i16.wrap (K.num (p + 2) 2)))).cast (cs' := #[.int .i8 (IntKind.i8.wrap (K.num p 1)), .int .i8 (IntKind.i8.wrap (K.num (p + 1) 1)), .int .i16 (IntKind.i16.wrap (K.num (p + 2) 2)), .int .i32 0, .int .i32 0, .int .i32 0]) (by simp)); have HL := Hd.mk (hl.set (p := ⟨g, 2, none⟩) (.inr (by simp)) (.int .i16 (IntKind.i16.wrap (K.num (p + 2) 2))))
  clear hg hl
  go_wp2_with fail
  clear c f
  go_wp2_with fail
  with_reducible refine (D_Int32 K (p + 4) _ HG.out.d (by omega)).mono ?_
  rintro e w4 ⟨rfl, hw⟩
  have hg : DecG K w4 (p + 8) g #[.int .i8 (IntKind.i8.wrap (K.num p 1)), .int .i8 (IntKind.i8.wrap (K.num (p + 1) 1)), .int .i16 (IntKind.i16.wrap (K.num (p + 2) 2)), .int .i32 0, .int .i32 0, .int .i32 0] 164 := (HG.out.went hw)
  have hl := bel_of HL.out hw.2 (Nat.le_refl _) (fun x hx => by simp at hx ⊢; rcases hx with h | h <;> simp [h])
  clear HG HL hw
  have c : w4.cell? ⟨g, 3, none⟩ = some (.int .i32 0) := hg.blk.cell 3 rfl
  have f := hg.blk.free 3
  have HG := Hd.mk ((hg.set 3 (.int .i32 (wrap32 (K.num (p + 4) 4)))).cast (cs' := #[.int .i8 (IntKind.i8.wrap (K.num p 1)), .int .i8 (IntKind.i8.wrap (K.num (p + 1) 1)), .int .i16 (IntKind.i16.wrap (K.num (p + 2) 2)), .int .i32 (wrap32 (K.num (p + 4) 4)), .int .i32 0, .int .i32 0]) (by simp)); have HL := Hd.mk (hl.set (p := ⟨g, 3, none⟩) (.inr (by simp)) (.int .i32 (wrap32 (K.num (p + 4) 4))))
  clear hg hl
  go_wp2_with fail
  clear c f
  go_wp2_with fail
  with_reducible refine (D_Int32 K (p + 8) _ HG.out.d (by omega)).mono ?_
  rintro e w5 ⟨rfl, hw⟩
  have hg : DecG K w5 (p + 12) g #[.int .i8 (IntKind.i8.wrap (K.num p 1)), .int .i8 (IntKind.i8.wrap (K.num (p + 1) 1)), .int .i16 (IntKind.i16.wrap (K.num (p + 2) 2)), .int .i32 (wrap32 (K.num (p + 4) 4)), .int .i32 0, .int .i32 0] 164 := (HG.out.went hw)
  have hl := bel_of HL.out hw.2 (Nat.le_refl _) (fun x hx => by simp at hx ⊢; rcases hx with h | h <;> simp [h])
  clear HG HL hw
  have c : w5.cell? ⟨g, 4, none⟩ = some (.int .i32 0) := hg.blk.cell 4 rfl
  have f := hg.blk.free 4
  have HG := Hd.mk ((hg.set 4 (.int .i32 (wrap32 (K.num (p + 8) 4)))).cast (cs' := #[.int .i8 (IntKind.i8.wrap (K.num p 1)), .int .i8 (IntKind.i8.wrap (K.num (p + 1) 1)), .int .i16 (IntKind.i16.wrap (K.num (p + 2) 2)), .int .i32 (wrap32 (K.num (p + 4) 4)), .int .i32 (wrap32 (K.num (p + 8) 4)), .int .i32 0]) (by simp)); have HL := Hd.mk (hl.set (p := ⟨g, 4, none⟩) (.inr (by simp)) (.int .i32 (wrap32 (K.num (p + 8) 4))))
  clear hg hl
  go_wp2_with fail
  clear c f
  go_wp2_with fail
  with_reducible refine (D_Int32 K (p + 12) _ HG.out.d (by omega)).mono ?_
  rintro e w6 ⟨rfl, hw⟩
  have hg : DecG K w6 (p + 16) g #[.int .i8 (IntKind.i8.wrap (K.num p 1)), .int .i8 (IntKind.i8.wrap (K.num (p + 1) 1)), .int .i16 (IntKind.i16.wrap (K.num (p + 2) 2)), .int .i32 (wrap32 (K.num (p + 4) 4)), .int .i32 (wrap32 (K.num (p + 8) 4)), .int .i32 0] 164 := (HG.out.went hw)
  have hl := bel_of HL.out hw.2 (Nat.le_refl _) (fun x hx => by simp at hx ⊢; rcases hx with h | h <;> simp [h])
  clear HG HL hw
  have c : w6.cell? ⟨g, 5, none⟩ = some (.int .i32 0) := hg.blk.cell 5 rfl
  have f := hg.blk.free 5
  have HG := Hd.mk ((hg.set 5 (.int .i32 (wrap32 (K.num (p + 12) 4)))).cast (cs' := #[.int .i8 (IntKind.i8.wrap (K.num p 1)), .int .i8 (IntKind.i8.wrap (K.num (p + 1) 1)), .int .i16 (IntKind.i16.wrap (K.num (p + 2) 2)), .int .i32 (wrap32 (K.num (p + 4) 4)), .int .i32 (wrap32 (K.num (p + 8) 4)), .int .i32 (wrap32 (K.num (p + 12) 4))]) (by simp)); have HL := Hd.mk (hl.set (p := ⟨g, 5, none⟩) (.inr (by simp)) (.int .i32 (wrap32 (K.num (p + 12) 4))))
  clear hg hl
  go_wp2_with fail
  clear c f
  go_wp2_with fail
  with_reducible refine (D_Error K _ _ _ _ HG.out.d.b).mono ?_
  rintro e w' ⟨rfl, rfl⟩
  go_wp2
  go_ret
  exact ⟨rfl, HG.out, HL.out⟩
set_option maxRecDepth 100000 in
theorem dec_initReply (K : DK) (p g : Nat) (w : World) (h : DecG K w p g #[.int .i8 0, .int .i16 0, .int .i8 0, .int .i16 0] 143) (fit : p + 8 ≤ K.xs.length) :
    Calls Try.prog 71 #[.pointer (some ⟨g, 0, none⟩), .pointer (some ⟨K.d, 0, none⟩)] w fun e w' => e = .returned .nilIface ∧ DecG K w' (p + 8) g #[.int .i8 (IntKind.i8.wrap (K.num p 1)), .int .i16 (IntKind.i16.wrap (K.num (p + 1) 2)), .int .i8 (IntKind.i8.wrap (K.num (p + 3) 1)), .int .i16 (IntKind.i16.wrap (K.num (p + 4) 2))] 143 ∧ Bel w.heap.size [K.d, K.sb, g] w w' := by
  have HG := Hd.mk h; have HL := Hd.mk (Bel.refl w.heap.size [K.d, K.sb, g] w)
  clear h
  go_enter Try.func71, Try.ntmps71
  go_wp2_with fail
  with_reducible refine (D_Int8 K p _ HG.out.d (by omega)).mono ?_
  rintro e w1 ⟨rfl, hw⟩
  have hg : DecG K w1 (p + 1) g #[.int .i8 0, .int .i16 0, .int .i8 0, .int .i16 0] 143 := (HG.out.went hw)
  have hl := bel_of HL.out hw.2 (Nat.le_refl _) (fun x hx => by simp at hx ⊢; rcases hx with h | h <;> simp [h])
  clear HG HL hw
  have c : w1.cell? ⟨g, 0, none⟩ = some (.int .i8 0) := hg.blk.cell 0 rfl
  have f := hg.blk.free 0
  have HG := Hd.mk ((hg.set 0 (.int .i8 (IntKind.i8.wrap (K.num p 1)))).cast (cs' := #[.int .i8 (IntKind.i8.wrap (K.num p 1)), .int .i16 0, .int .i8 0, .int .i16 0]) (by simp)); have HL := Hd.mk (hl.set (p := ⟨g, 0, none⟩) (.inr (by simp)) (.int .i8 (IntKind.i8.wrap (K.num p 1))))
  clear hg hl
  go_wp2_with fail
  clear c f
  go_wp2_with fail
  with_reducible refine (D_Int16 K (p + 1) _ HG.out.d (by omega)).mono ?_
  rintro e w2 ⟨rfl, hw⟩
  have hg : DecG K w2 (p + 3) g #[.int .i8 (IntKind.i8.wrap (K.num p 1)), .int .i16 0, .int .i8 0, .int .i16 0] 143 := (HG.out.went hw)
  have hl := bel_of HL.out hw.2 (Nat.le_refl _) (fun x hx => by simp at hx ⊢; rcases hx with h | h <;> simp [h])
  clear HG HL hw
  have c : w2.cell? ⟨g, 1, none⟩ = some (.int .i16 0) := hg.blk.cell 1 rfl
  have f := hg.blk.free 1
  have HG := Hd.mk ((hg.set 1 (.int .i16 (IntKind.i16.wrap (K.num (p + 1) 2)))).cast (cs' := #[.int .i8 (IntKind.i8.wrap (K.num p 1)), .int .i16 (IntKind.i16.wrap (K.num (p + 1) 2)), .int .i8 0, .int .i16 0]) (by simp)); have HL := Hd.mk (hl.set (p := ⟨g, 1, none⟩) (.inr (by simp)) (.int .i16 (IntKind.i16.wrap (K.num (p + 1) 2))))
  clear hg hl
  go_wp2_with fail
  clear c f
  go_wp2_with fail
  with_reducible refine (D_Int8 K (p + 3) _ HG.out.d (by omega)).mono ?_
  rintro e w3 ⟨rfl, hw⟩
  have hg : DecG K w3 (p + 4) g #[.int .i8 (IntKind.i8.wrap (K.num p 1)), .int .i16 (IntKind.i16.wrap (K.num (p + 1) 2)), .int .i8 0, .int .i16 0] 143 := (HG.out.went hw)
  have hl := bel_of HL.out hw.2 (Nat.le_refl _) (fun x hx => by simp at hx ⊢; rcases hx with h | h <;> simp [h])
  clear HG HL hw
  have c : w3.cell? ⟨g, 2, none⟩ = some (.int .i8 0) := hg.blk.cell 2 rfl
  have f := hg.blk.free 2
  have HG := Hd.mk ((hg.set 2 (.int .i8 (IntKind.i8.wrap (K.num (p + 3) 1)))).cast (cs' := #[.int .i8 (IntKind.i8.wrap (K.num p 1)), .int .i16 (IntKind.i16.wrap (K.num (p + 1) 2)), .int .i8 (IntKind.i8.wrap (K.num (p + 3) 1)), .int .i16 0]) (by simp)); have HL := Hd.mk (hl.set (p := ⟨g, 2, none⟩) (.inr (by simp)) (.int .i8 (IntKind.i8.wrap (K.num (p + 3) 1))))
  clear hg hl
  go_wp2_with fail
  clear c f
  go_wp2_with fail
  with_reducible refine (D_Int16 K (p + 4) _ HG.out.d (by omega)).mono ?_
  rintro e w4 ⟨rfl, hw⟩
  have hg : DecG K w4 (p + 6) g #[.int .i8 (IntKind.i8.wrap (K.num p 1)), .int .i16 (IntKind.i16.wrap (K.num (p + 1) 2)), .int .i8 (IntKind.i8.wrap (K.num (p + 3) 1)), .int .i16 0] 143 := (HG.out.went hw)
  have hl := bel_of HL.out hw.2 (Nat.le_refl _) (fun x hx => by simp at hx ⊢; rcases hx with h | h <;> simp [h])
  clear HG HL hw
  have c : w4.cell? ⟨g, 3, none⟩ = some (.int .i16 0) := hg.blk.cell 3 rfl
  have f := hg.blk.free 3
  have HG := Hd.mk ((hg.set 3 (.int .i16 (IntKind.i16.wrap (K.num (p + 4) 2)))).cast (cs' := #[.int .i8 (IntKind.i8.wrap (K.num p 1)), .int .i16 (IntKind.i16.wrap (K.num (p + 1) 2)), .int .i8 (IntKind.i8.wrap (K.num (p + 3) 1)), .int .i16 (IntKind.i16.wrap (K.num (p + 4) 2))]) (by simp)); have HL := Hd.mk (hl.set (p := ⟨g, 3, none⟩) (.inr (by simp)) (.int .i16 (IntKind.i16.wrap (K.num (p + 4) 2))))
  clear hg hl
  go_wp2_with fail
  clear c f
  go_wp2_with fail
  with_reducible refine (D_Skip K (p + 6) 2 2 _ rfl HG.out.d (by omega) (by omega) (by omega)).mono ?_
  rintro e w5 ⟨rfl, hw⟩
  have hg : DecG K w5 (p + 8) g #[.int .i8 (IntKind.i8.wrap (K.num p 1)), .int .i16 (IntKind.i16.wrap (K.num (p + 1) 2)), .int .i8 (IntKind.i8.wrap (K.num (p + 3) 1)), .int .i16 (IntKind.i16.wrap (K.num (p + 4) 2))] 143 := (HG.out.went hw)
  have hl := bel_of HL.out hw.2 (Nat.le_refl _) (fun x hx => by simp at hx ⊢; rcases hx with h | h <;> simp [h])
  clear HG HL hw
  have HG := Hd.mk hg; have HL := Hd.mk hl
  clear hg hl
  go_wp2_with fail
  with_reducible refine (D_Error K _ _ _ _ HG.out.d.b).mono ?_
  rintro e w' ⟨rfl, rfl⟩
  go_wp2
  go_ret
  exact ⟨rfl, HG.out, HL.out⟩
set_option maxRecDepth 100000 in
theorem enc_readLob (K : EK) (out : List Int) (w : World) (h : Enc K w out) (g : Nat) (x0 x1 x2 : Int) (hg : Blk w g #[.int .u64 x0, .int .i64 x1, .int .i64 x2] 168) (hB : g < K.B) (n1 : g ≠ K.sb) (n2 : g ≠ K.wr) (l0 : 0 ≤ x0) (u0 : x0 < 18446744073709551616) (hn : out.length + 24 ≤ 1000000000) (m1 : -9223372036854775808 ≤ x1) (m2 : x1 < 9223372036854775807) :
    Calls Try.prog 82 #[.pointer (some ⟨g, 0, none⟩), .pointer (some ⟨K.e, 0, none⟩)] w fun e w' => e = .returned .nilIface ∧ Wrote K w out (leB 8 x0 ++ (leB 8 (x1 + 1) ++ (leB 4 (wrap32 x2) ++ (List.replicate 4 0)))) w' := by
  have HE := Hd.mk h; have HG := Hd.mk hg; have HL := Hd.mk (Bel.refl K.B [K.sb, K.wr] w)
  have c : w.cell? ⟨g, 0, none⟩ = some (.int .u64 x0) := HG.out.cell 0 rfl
  clear h hg
  go_enter Try.func82, Try.ntmps82
  go_wp2_with fail
  with_reducible refine (E_Uint64 K _ _ _ HE.out (by first | omega | (simp only [List.length_append, leB_len, List.length_replicate]; omega)) l0 u0).mono ?_
  rintro e w1 ⟨rfl, hw⟩
  have HG' := Hd.mk (HG.out.bel hw.2 hB (by simp [n1, n2])); have HE' := Hd.mk hw.1; have HL' := Hd.mk (HL.out.trans hw.2)
  clear hw HG HE HL c
  have HG := HG'; have HE := HE'; have HL := HL'
  clear HG' HE' HL'
  have c : w1.cell? ⟨g, 1, none⟩ = some (.int .i64 x1) := HG.out.cell 1 rfl
  go_wp2_with fail
  with_reducible refine (E_Int64 K _ _ _ HE.out (by first | omega | (simp only [List.length_append, leB_len, List.length_replicate]; omega))).mono ?_
  rintro e w2 ⟨rfl, hw⟩
  have HG' := Hd.mk (HG.out.bel hw.2 hB (by simp [n1, n2])); have HE' := Hd.mk hw.1; have HL' := Hd.mk (HL.out.trans hw.2)
  clear hw HG HE HL c
  have HG := HG'; have HE := HE'; have HL := HL'
  clear HG' HE' HL'
  have c : w2.cell? ⟨g, 2, none⟩ = some (.int .i64 x2) := HG.out.cell 2 rfl
  go_wp2_with fail
  with_reducible refine (E_Int32 K _ _ _ HE.out (by first | omega | (simp only [List.length_append, leB_len, List.length_replicate]; omega))).mono ?_
  rintro e w3 ⟨rfl, hw⟩
  have HG' := Hd.mk (HG.out.bel hw.2 hB (by simp [n1, n2])); have HE' := Hd.mk hw.1; have HL' := Hd.mk (HL.out.trans hw.2)
  clear hw HG HE HL c
  have HG := HG'; have HE := HE'; have HL := HL'
  clear HG' HE' HL'
  go_wp2_with fail
  with_reducible refine (E_Zeroes K _ 4 4 _ rfl HE.out (by omega) (by omega) (by first | omega | (simp only [List.length_append, leB_len, List.length_replicate]; omega))).mono ?_
  rintro e w4 ⟨rfl, hw⟩
  have HG' := Hd.mk (HG.out.bel hw.2 hB (by simp [n1, n2])); have HE' := Hd.mk hw.1; have HL' := Hd.mk (HL.out.trans hw.2)
  clear hw HG HE HL
  have HG := HG'; have HE := HE'; have HL := HL'
  clear HG' HE' HL'
  go_wp2
  go_ret
  refine ⟨rfl, ?_, HL.out⟩
  have he := HE.out
  simp only [List.append_assoc] at he
  exact he
set_option maxRecDepth 100000 in
theorem dec_readLob (K : DK) (p g : Nat) (w : World) (h : DecG K w p g #[.int .u64 0, .int .i64 0, .int .i64 0] 168) (fit : p + 24 ≤ K.xs.length) :
    Calls Try.prog 83 #[.pointer (some ⟨g, 0, none⟩), .pointer (some ⟨K.d, 0, none⟩)] w fun e w' => e = .returned .nilIface ∧ DecG K w' (p + 24) g #[.int .u64 (K.num p 8), .int .i64 (wrap64 (K.num (p + 8) 8)), .int .i64 (wrap32 (K.num (p + 16) 4))] 168 ∧ Bel w.heap.size [K.d, K.sb, g] w w' := by
  have HG := Hd.mk h; have HL := Hd.mk (Bel.refl w.heap.size [K.d, K.sb, g] w)
  clear h
  go_enter Try.func83, Try.ntmps83
  go_wp2_with fail
  with_reducible refine (D_Uint64 K p _ HG.out.d (by omega)).mono ?_
  rintro e w1 ⟨rfl, hw⟩
  have hg : DecG K w1 (p + 8) g #[.int .u64 0, .int .i64 0, .int .i64 0] 168 := (HG.out.went hw)
  have hl := bel_of HL.out hw.2 (Nat.le_refl _) (fun x hx => by simp at hx ⊢; rcases hx with h | h <;> simp [h])
  clear HG HL hw
  have c : w1.cell? ⟨g, 0, none⟩ = some (.int .u64 0) := hg.blk.cell 0 rfl
  have f := hg.blk.free 0
  have HG := Hd.mk ((hg.set 0 (.int .u64 (K.num p 8))).cast (cs' := #[.int .u64 (K.num p 8), .int .i64 0, .int .i64 0]) (by simp)); have HL := Hd.mk (hl.set (p := ⟨g, 0, none⟩) (.inr (by simp)) (.int .u64 (K.num p 8)))
  clear hg hl
  go_wp2_with fail
  clear c f
  go_wp2_with fail
  with_reducible refine (D_Int64 K (p + 8) _ HG.out.d (by omega)).mono ?_
  rintro e w2 ⟨rfl, hw⟩
  have hg : DecG K w2 (p + 16) g #[.int .u64 (K.num p 8), .int .i64 0, .int .i64 0] 168 := (HG.out.went hw)
  have hl := bel_of HL.out hw.2 (Nat.le_refl _) (fun x hx => by simp at hx ⊢; rcases hx with h | h <;> simp [h])
  clear HG HL hw
  have c : w2.cell? ⟨g, 1, none⟩ = some (.int .i64 0) := hg.blk.cell 1 rfl
  have f := hg.blk.free 1
  have HG := Hd.mk ((hg.set 1 (.int .i64 (wrap64 (K.num (p + 8) 8)))).cast (cs' := #[.int .u64 (K.num p 8), .int .i64 (wrap64 (K.num (p + 8) 8)), .int .i64 0]) (by simp)); have HL := Hd.mk (hl.set (p := ⟨g, 1, none⟩) (.inr (by simp)) (.int .i64 (wrap64 (K.num (p + 8) 8))))
  clear hg hl
  go_wp2_with fail
  clear c f
  go_wp2_with fail
  with_reducible refine (D_Int32 K (p + 16) _ HG.out.d (by omega)).mono ?_
  rintro e w3 ⟨rfl, hw⟩
  have hg : DecG K w3 (p + 20) g #[.int .u64 (K.num p 8), .int .i64 (wrap64 (K.num (p + 8) 8)), .int .i64 0] 168 := (HG.out.went hw)
  have hl := bel_of HL.out hw.2 (Nat.le_refl _) (fun x hx => by simp at hx ⊢; rcases hx with h | h <;> simp [h])
  clear HG HL hw
  have c : w3.cell? ⟨g, 2, none⟩ = some (.int .i64 0) := hg.blk.cell 2 rfl
  have f := hg.blk.free 2
  have bd := wrap32_bounds (K.num (p + 16) 4)
  obtain ⟨bd1, bd2⟩ := bd
  have HG := Hd.mk ((hg.set 2 (.int .i64 (wrap32 (K.num (p + 16) 4)))).cast (cs' := #[.int .u64 (K.num p 8), .int .i64 (wrap64 (K.num (p + 8) 8)), .int .i64 (wrap32 (K.num (p + 16) 4))]) (by simp)); have HL := Hd.mk (hl.set (p := ⟨g, 2, none⟩) (.inr (by simp)) (.int .i64 (wrap32 (K.num (p + 16) 4))))
  clear hg hl
  go_wp2_with fail
  clear c f bd1 bd2
  go_wp2_with fail
  with_reducible refine (D_Skip K (p + 20) 4 4 _ rfl HG.out.d (by omega) (by omega) (by omega)).mono ?_
  rintro e w4 ⟨rfl, hw⟩
  have hg : DecG K w4 (p + 24) g #[.int .u64 (K.num p 8), .int .i64 (wrap64 (K.num (p + 8) 8)), .int .i64 (wrap32 (K.num (p + 16) 4))] 168 := (HG.out.went hw)
  have hl := bel_of HL.out hw.2 (Nat.le_refl _) (fun x hx => by simp at hx ⊢; rcases hx with h | h <;> simp [h])
  clear HG HL hw
  have HG := Hd.mk hg; have HL := Hd.mk hl
  clear hg hl
  go_wp2
  go_ret
  exact ⟨rfl, HG.out, HL.out⟩
end Go.Proofs.Ytbohjafchfeheaa.Kb
