/- The header of a segment: what encode writes and decode reads, by its kind. -/
import Derived.Test.YtbohjafchfeheaaHdr
namespace Go.Proofs.Ytbohjafchfeheaa.Kb
open Go Go.RowKit
set_option linter.unusedVariables false
set_option linter.unusedSimpArgs false
set_option maxHeartbeats 1000000

set_option maxRecDepth 100000 in
theorem enc_segment1 (K : EK) (out : List Int) (w : World) (h : Enc K w out) (g : Nat) (x0 x1 x2 x3 x5 x7 x8 : Int) (y : Bool) (y6 : Int) (hy : y6 = if y = true then 1 else 0) (hg : Blk w g #[.int .i32 x0, .int .i32 x1, .int .i16 x2, .int .i16 x3, .int .i8 1, .int .i8 x5, .bool y, .int .i8 x7, .int .i16 x8] 178) (hB : g < K.B) (n1 : g ≠ K.sb) (n2 : g ≠ K.wr) (hn : out.length + 24 ≤ 1000000000) :
    Calls Try.prog 86 #[.pointer (some ⟨g, 0, none⟩), .pointer (some ⟨K.e, 0, none⟩)] w fun e w' => e = .returned .nilIface ∧ Wrote K w out (leB 4 x0 ++ (leB 4 x1 ++ (leB 2 x2 ++ (leB 2 x3 ++ (leB 1 1 ++ (leB 1 x5 ++ ([y6] ++ (leB 1 x7 ++ (List.replicate 8 0))))))))) w' := by
  have HE := Hd.mk h; have HG := Hd.mk hg; have HL := Hd.mk (Bel.refl K.B [K.sb, K.wr] w); have HY := Hd.mk hy
  have c : w.cell? ⟨g, 0, none⟩ = some (.int .i32 x0) := HG.out.cell 0 rfl
  clear h hg hy
  go_enter Try.func86, Try.ntmps86
  go_wp2_with fail
  with_reducible refine (E_Int32 K _ _ _ HE.out (by first | omega | (simp only [List.length_append, leB_len, List.length_replicate, List.length_cons, List.length_nil]; omega))).mono ?_
  rintro e w1 ⟨rfl, hw⟩
  have HG' := Hd.mk (HG.out.bel hw.2 hB (by simp [n1, n2])); have HE' := Hd.mk hw.1; have HL' := Hd.mk (HL.out.trans hw.2)
  clear hw HG HE HL c
  have HG := HG'; have HE := HE'; have HL := HL'
  clear HG' HE' HL'
  have c : w1.cell? ⟨g, 1, none⟩ = some (.int .i32 x1) := HG.out.cell 1 rfl
  go_wp2_with fail
  with_reducible refine (E_Int32 K _ _ _ HE.out (by first | omega | (simp only [List.length_append, leB_len, List.length_replicate, List.length_cons, List.length_nil]; omega))).mono ?_
  rintro e w2 ⟨rfl, hw⟩
  have HG' := Hd.mk (HG.out.bel hw.2 hB (by simp [n1, n2])); have HE' := Hd.mk hw.1; have HL' := Hd.mk (HL.out.trans hw.2)
  clear hw HG HE HL c
  have HG := HG'; have HE := HE'; have HL := HL'
  clear HG' HE' HL'
  have c : w2.cell? ⟨g, 2, none⟩ = some (.int .i16 x2) := HG.out.cell 2 rfl
  go_wp2_with fail
  with_reducible refine (E_Int16 K _ _ _ HE.out (by first | omega | (simp only [List.length_append, leB_len, List.length_replicate, List.length_cons, List.length_nil]; omega))).mono ?_
  rintro e w3 ⟨rfl, hw⟩
  have HG' := Hd.mk (HG.out.bel hw.2 hB (by simp [n1, n2])); have HE' := Hd.mk hw.1; have HL' := Hd.mk (HL.out.trans hw.2)
  clear hw HG HE HL c
  have HG := HG'; have HE := HE'; have HL := HL'
  clear HG' HE' HL'
  have c : w3.cell? ⟨g, 3, none⟩ = some (.int .i16 x3) := HG.out.cell 3 rfl
  go_wp2_with fail
  with_reducible refine (E_Int16 K _ _ _ HE.out (by first | omega | (simp only [List.length_append, leB_len, List.length_replicate, List.length_cons, List.length_nil]; omega))).mono ?_
  rintro e w4 ⟨rfl, hw⟩
  have HG' := Hd.mk (HG.out.bel hw.2 hB (by simp [n1, n2])); have HE' := Hd.mk hw.1; have HL' := Hd.mk (HL.out.trans hw.2)
  clear hw HG HE HL c
  have HG := HG'; have HE := HE'; have HL := HL'
  clear HG' HE' HL'
  have c : w4.cell? ⟨g, 4, none⟩ = some (.int .i8 1) := HG.out.cell 4 rfl
  go_wp2_with fail
  with_reducible refine (E_Int8 K _ _ _ HE.out (by first | omega | (simp only [List.length_append, leB_len, List.length_replicate, List.length_cons, List.length_nil]; omega))).mono ?_
  rintro e w5 ⟨rfl, hw⟩
  have HG' := Hd.mk (HG.out.bel hw.2 hB (by simp [n1, n2])); have HE' := Hd.mk hw.1; have HL' := Hd.mk (HL.out.trans hw.2)
  clear hw HG HE HL c
  have HG := HG'; have HE := HE'; have HL := HL'
  clear HG' HE' HL'
  have c : w5.cell? ⟨g, 5, none⟩ = some (.int .i8 x5) := HG.out.cell 5 rfl
  have c4 : w5.cell? ⟨g, 4, none⟩ = some (.int .i8 1) := HG.out.cell 4 rfl
  go_wp2_with fail
  with_reducible refine (E_Int8 K _ _ _ HE.out (by first | omega | (simp only [List.length_append, leB_len, List.length_replicate, List.length_cons, List.length_nil]; omega))).mono ?_
  rintro e w6 ⟨rfl, hw⟩
  have HG' := Hd.mk (HG.out.bel hw.2 hB (by simp [n1, n2])); have HE' := Hd.mk hw.1; have HL' := Hd.mk (HL.out.trans hw.2)
  clear hw HG HE HL c c4
  have HG := HG'; have HE := HE'; have HL := HL'
  clear HG' HE' HL'
  have c : w6.cell? ⟨g, 6, none⟩ = some (.bool y) := HG.out.cell 6 rfl
  go_wp2_with fail
  with_reducible refine (E_Bool K _ y y6 HY.out _ HE.out (by first | omega | (simp only [List.length_append, leB_len, List.length_replicate, List.length_cons, List.length_nil]; omega))).mono ?_
  rintro e w7 ⟨rfl, hw⟩
  have HG' := Hd.mk (HG.out.bel hw.2 hB (by simp [n1, n2])); have HE' := Hd.mk hw.1; have HL' := Hd.mk (HL.out.trans hw.2)
  clear hw HG HE HL c
  have HG := HG'; have HE := HE'; have HL := HL'
  clear HG' HE' HL'
  have c : w7.cell? ⟨g, 7, none⟩ = some (.int .i8 x7) := HG.out.cell 7 rfl
  go_wp2_with fail
  with_reducible refine (E_Int8 K _ _ _ HE.out (by first | omega | (simp only [List.length_append, leB_len, List.length_replicate, List.length_cons, List.length_nil]; omega))).mono ?_
  rintro e w8 ⟨rfl, hw⟩
  have HG' := Hd.mk (HG.out.bel hw.2 hB (by simp [n1, n2])); have HE' := Hd.mk hw.1; have HL' := Hd.mk (HL.out.trans hw.2)
  clear hw HG HE HL c
  have HG := HG'; have HE := HE'; have HL := HL'
  clear HG' HE' HL'
  go_wp2_with fail
  with_reducible refine (E_Zeroes K _ 8 8 _ rfl HE.out (by omega) (by omega) (by first | omega | (simp only [List.length_append, leB_len, List.length_replicate, List.length_cons, List.length_nil]; omega))).mono ?_
  rintro e w9 ⟨rfl, hw⟩
  have HG' := Hd.mk (HG.out.bel hw.2 hB (by simp [n1, n2])); have HE' := Hd.mk hw.1; have HL' := Hd.mk (HL.out.trans hw.2)
  clear hw HG HE HL 
  have HG := HG'; have HE := HE'; have HL := HL'
  clear HG' HE' HL'
  go_wp2
  go_ret
  refine ⟨rfl, ?_, HL.out⟩
  have he := HE.out
  simp only [List.append_assoc] at he
  exact he
set_option maxRecDepth 100000 in
theorem enc_segment2 (K : EK) (out : List Int) (w : World) (h : Enc K w out) (g : Nat) (x0 x1 x2 x3 x5 x7 x8 : Int) (y : Bool) (y6 : Int) (hy : y6 = if y = true then 1 else 0) (hg : Blk w g #[.int .i32 x0, .int .i32 x1, .int .i16 x2, .int .i16 x3, .int .i8 2, .int .i8 x5, .bool y, .int .i8 x7, .int .i16 x8] 178) (hB : g < K.B) (n1 : g ≠ K.sb) (n2 : g ≠ K.wr) (hn : out.length + 24 ≤ 1000000000) :
    Calls Try.prog 86 #[.pointer (some ⟨g, 0, none⟩), .pointer (some ⟨K.e, 0, none⟩)] w fun e w' => e = .returned .nilIface ∧ Wrote K w out (leB 4 x0 ++ (leB 4 x1 ++ (leB 2 x2 ++ (leB 2 x3 ++ (leB 1 2 ++ (List.replicate 1 0 ++ (leB 2 x8 ++ (List.replicate 8 0)))))))) w' := by
  have HE := Hd.mk h; have HG := Hd.mk hg; have HL := Hd.mk (Bel.refl K.B [K.sb, K.wr] w); have HY := Hd.mk hy
  have c : w.cell? ⟨g, 0, none⟩ = some (.int .i32 x0) := HG.out.cell 0 rfl
  clear h hg hy
  go_enter Try.func86, Try.ntmps86
  go_wp2_with fail
  with_reducible refine (E_Int32 K _ _ _ HE.out (by first | omega | (simp only [List.length_append, leB_len, List.length_replicate, List.length_cons, List.length_nil]; omega))).mono ?_
  rintro e w1 ⟨rfl, hw⟩
  have HG' := Hd.mk (HG.out.bel hw.2 hB (by simp [n1, n2])); have HE' := Hd.mk hw.1; have HL' := Hd.mk (HL.out.trans hw.2)
  clear hw HG HE HL c
  have HG := HG'; have HE := HE'; have HL := HL'
  clear HG' HE' HL'
  have c : w1.cell? ⟨g, 1, none⟩ = some (.int .i32 x1) := HG.out.cell 1 rfl
  go_wp2_with fail
  with_reducible refine (E_Int32 K _ _ _ HE.out (by first | omega | (simp only [List.length_append, leB_len, List.length_replicate, List.length_cons, List.length_nil]; omega))).mono ?_
  rintro e w2 ⟨rfl, hw⟩
  have HG' := Hd.mk (HG.out.bel hw.2 hB (by simp [n1, n2])); have HE' := Hd.mk hw.1; have HL' := Hd.mk (HL.out.trans hw.2)
  clear hw HG HE HL c
  have HG := HG'; have HE := HE'; have HL := HL'
  clear HG' HE' HL'
  have c : w2.cell? ⟨g, 2, none⟩ = some (.int .i16 x2) := HG.out.cell 2 rfl
  go_wp2_with fail
  with_reducible refine (E_Int16 K _ _ _ HE.out (by first | omega | (simp only [List.length_append, leB_len, List.length_replicate, List.length_cons, List.length_nil]; omega))).mono ?_
  rintro e w3 ⟨rfl, hw⟩
  have HG' := Hd.mk (HG.out.bel hw.2 hB (by simp [n1, n2])); have HE' := Hd.mk hw.1; have HL' := Hd.mk (HL.out.trans hw.2)
  clear hw HG HE HL c
  have HG := HG'; have HE := HE'; have HL := HL'
  clear HG' HE' HL'
  have c : w3.cell? ⟨g, 3, none⟩ = some (.int .i16 x3) := HG.out.cell 3 rfl
  go_wp2_with fail
  with_reducible refine (E_Int16 K _ _ _ HE.out (by first | omega | (simp only [List.length_append, leB_len, List.length_replicate, List.length_cons, List.length_nil]; omega))).mono ?_
  rintro e w4 ⟨rfl, hw⟩
  have HG' := Hd.mk (HG.out.bel hw.2 hB (by simp [n1, n2])); have HE' := Hd.mk hw.1; have HL' := Hd.mk (HL.out.trans hw.2)
  clear hw HG HE HL c
  have HG := HG'; have HE := HE'; have HL := HL'
  clear HG' HE' HL'
  have c : w4.cell? ⟨g, 4, none⟩ = some (.int .i8 2) := HG.out.cell 4 rfl
  go_wp2_with fail
  with_reducible refine (E_Int8 K _ _ _ HE.out (by first | omega | (simp only [List.length_append, leB_len, List.length_replicate, List.length_cons, List.length_nil]; omega))).mono ?_
  rintro e w5 ⟨rfl, hw⟩
  have HG' := Hd.mk (HG.out.bel hw.2 hB (by simp [n1, n2])); have HE' := Hd.mk hw.1; have HL' := Hd.mk (HL.out.trans hw.2)
  clear hw HG HE HL c
  have HG := HG'; have HE := HE'; have HL := HL'
  clear HG' HE' HL'
  have c4 : w5.cell? ⟨g, 4, none⟩ = some (.int .i8 2) := HG.out.cell 4 rfl
  go_wp2_with fail
  with_reducible refine (E_Zeroes K _ 1 1 _ rfl HE.out (by omega) (by omega) (by first | omega | (simp only [List.length_append, leB_len, List.length_replicate, List.length_cons, List.length_nil]; omega))).mono ?_
  rintro e w6 ⟨rfl, hw⟩
  have HG' := Hd.mk (HG.out.bel hw.2 hB (by simp [n1, n2])); have HE' := Hd.mk hw.1; have HL' := Hd.mk (HL.out.trans hw.2)
  clear hw HG HE HL c4
  have HG := HG'; have HE := HE'; have HL := HL'
  clear HG' HE' HL'
  have c : w6.cell? ⟨g, 8, none⟩ = some (.int .i16 x8) := HG.out.cell 8 rfl
  go_wp2_with fail
  with_reducible refine (E_Int16 K _ _ _ HE.out (by first | omega | (simp only [List.length_append, leB_len, List.length_replicate, List.length_cons, List.length_nil]; omega))).mono ?_
  rintro e w7 ⟨rfl, hw⟩
  have HG' := Hd.mk (HG.out.bel hw.2 hB (by simp [n1, n2])); have HE' := Hd.mk hw.1; have HL' := Hd.mk (HL.out.trans hw.2)
  clear hw HG HE HL c
  have HG := HG'; have HE := HE'; have HL := HL'
  clear HG' HE' HL'
  go_wp2_with fail
  with_reducible refine (E_Zeroes K _ 8 8 _ rfl HE.out (by omega) (by omega) (by first | omega | (simp only [List.length_append, leB_len, List.length_replicate, List.length_cons, List.length_nil]; omega))).mono ?_
  rintro e w8 ⟨rfl, hw⟩
  have HG' := Hd.mk (HG.out.bel hw.2 hB (by simp [n1, n2])); have HE' := Hd.mk hw.1; have HL' := Hd.mk (HL.out.trans hw.2)
  clear hw HG HE HL 
  have HG := HG'; have HE := HE'; have HL := HL'
  clear HG' HE' HL'
  go_wp2
  go_ret
  refine ⟨rfl, ?_, HL.out⟩
  have he := HE.out
  simp only [List.append_assoc] at he
  exact he
set_option maxRecDepth 100000 in
theorem enc_segment5 (K : EK) (out : List Int) (w : World) (h : Enc K w out) (g : Nat) (x0 x1 x2 x3 x5 x7 x8 : Int) (y : Bool) (y6 : Int) (hy : y6 = if y = true then 1 else 0) (hg : Blk w g #[.int .i32 x0, .int .i32 x1, .int .i16 x2, .int .i16 x3, .int .i8 5, .int .i8 x5, .bool y, .int .i8 x7, .int .i16 x8] 178) (hB : g < K.B) (n1 : g ≠ K.sb) (n2 : g ≠ K.wr) (hn : out.length + 24 ≤ 1000000000) :
    Calls Try.prog 86 #[.pointer (some ⟨g, 0, none⟩), .pointer (some ⟨K.e, 0, none⟩)] w fun e w' => e = .returned .nilIface ∧ Wrote K w out (leB 4 x0 ++ (leB 4 x1 ++ (leB 2 x2 ++ (leB 2 x3 ++ (leB 1 5 ++ (List.replicate 11 0)))))) w' := by
  have HE := Hd.mk h; have HG := Hd.mk hg; have HL := Hd.mk (Bel.refl K.B [K.sb, K.wr] w); have HY := Hd.mk hy
  have c : w.cell? ⟨g, 0, none⟩ = some (.int .i32 x0) := HG.out.cell 0 rfl
  clear h hg hy
  go_enter Try.func86, Try.ntmps86
  go_wp2_with fail
  with_reducible refine (E_Int32 K _ _ _ HE.out (by first | omega | (simp only [List.length_append, leB_len, List.length_replicate, List.length_cons, List.length_nil]; omega))).mono ?_
  rintro e w1 ⟨rfl, hw⟩
  have HG' := Hd.mk (HG.out.bel hw.2 hB (by simp [n1, n2])); have HE' := Hd.mk hw.1; have HL' := Hd.mk (HL.out.trans hw.2)
  clear hw HG HE HL c
  have HG := HG'; have HE := HE'; have HL := HL'
  clear HG' HE' HL'
  have c : w1.cell? ⟨g, 1, none⟩ = some (.int .i32 x1) := HG.out.cell 1 rfl
  go_wp2_with fail
  with_reducible refine (E_Int32 K _ _ _ HE.out (by first | omega | (simp only [List.length_append, leB_len, List.length_replicate, List.length_cons, List.length_nil]; omega))).mono ?_
  rintro e w2 ⟨rfl, hw⟩
  have HG' := Hd.mk (HG.out.bel hw.2 hB (by simp [n1, n2])); have HE' := Hd.mk hw.1; have HL' := Hd.mk (HL.out.trans hw.2)
  clear hw HG HE HL c
  have HG := HG'; have HE := HE'; have HL := HL'
  clear HG' HE' HL'
  have c : w2.cell? ⟨g, 2, none⟩ = some (.int .i16 x2) := HG.out.cell 2 rfl
  go_wp2_with fail
  with_reducible refine (E_Int16 K _ _ _ HE.out (by first | omega | (simp only [List.length_append, leB_len, List.length_replicate, List.length_cons, List.length_nil]; omega))).mono ?_
  rintro e w3 ⟨rfl, hw⟩
  have HG' := Hd.mk (HG.out.bel hw.2 hB (by simp [n1, n2])); have HE' := Hd.mk hw.1; have HL' := Hd.mk (HL.out.trans hw.2)
  clear hw HG HE HL c
  have HG := HG'; have HE := HE'; have HL := HL'
  clear HG' HE' HL'
  have c : w3.cell? ⟨g, 3, none⟩ = some (.int .i16 x3) := HG.out.cell 3 rfl
  go_wp2_with fail
  with_reducible refine (E_Int16 K _ _ _ HE.out (by first | omega | (simp only [List.length_append, leB_len, List.length_replicate, List.length_cons, List.length_nil]; omega))).mono ?_
  rintro e w4 ⟨rfl, hw⟩
  have HG' := Hd.mk (HG.out.bel hw.2 hB (by simp [n1, n2])); have HE' := Hd.mk hw.1; have HL' := Hd.mk (HL.out.trans hw.2)
  clear hw HG HE HL c
  have HG := HG'; have HE := HE'; have HL := HL'
  clear HG' HE' HL'
  have c : w4.cell? ⟨g, 4, none⟩ = some (.int .i8 5) := HG.out.cell 4 rfl
  go_wp2_with fail
  with_reducible refine (E_Int8 K _ _ _ HE.out (by first | omega | (simp only [List.length_append, leB_len, List.length_replicate, List.length_cons, List.length_nil]; omega))).mono ?_
  rintro e w5 ⟨rfl, hw⟩
  have HG' := Hd.mk (HG.out.bel hw.2 hB (by simp [n1, n2])); have HE' := Hd.mk hw.1; have HL' := Hd.mk (HL.out.trans hw.2)
  clear hw HG HE HL c
  have HG := HG'; have HE := HE'; have HL := HL'
  clear HG' HE' HL'
  have c4 : w5.cell? ⟨g, 4, none⟩ = some (.int .i8 5) := HG.out.cell 4 rfl
  go_wp2_with fail
  with_reducible refine (E_Zeroes K _ 11 11 _ rfl HE.out (by omega) (by omega) (by first | omega | (simp only [List.length_append, leB_len, List.length_replicate, List.length_cons, List.length_nil]; omega))).mono ?_
  rintro e w6 ⟨rfl, hw⟩
  have HG' := Hd.mk (HG.out.bel hw.2 hB (by simp [n1, n2])); have HE' := Hd.mk hw.1; have HL' := Hd.mk (HL.out.trans hw.2)
  clear hw HG HE HL c4
  have HG := HG'; have HE := HE'; have HL := HL'
  clear HG' HE' HL'
  go_wp2
  go_ret
  refine ⟨rfl, ?_, HL.out⟩
  have he := HE.out
  simp only [List.append_assoc] at he
  exact he
set_option maxRecDepth 100000 in
theorem dec_segment1 (K : DK) (p g : Nat) (w : World) (h : DecG K w p g #[.int .i32 0, .int .i32 0, .int .i16 0, .int .i16 0, .int .i8 0, .int .i8 0, .bool false, .int .i8 0, .int .i16 0] 178) (fit : p + 24 ≤ K.xs.length) (hk : IntKind.i8.wrap (K.num (p + 12) 1) = 1) (y : Bool) (hy : (K.num (p + 14) 1 != 0) = y) :
    Calls Try.prog 87 #[.pointer (some ⟨g, 0, none⟩), .pointer (some ⟨K.d, 0, none⟩)] w fun e w' => e = .returned .nilIface ∧ DecG K w' (p + 24) g #[.int .i32 (wrap32 (K.num p 4)), .int .i32 (wrap32 (K.num (p + 4) 4)), .int .i16 (IntKind.i16.wrap (K.num (p + 8) 2)), .int .i16 (IntKind.i16.wrap (K.num (p + 10) 2)), .int .i8 1, .int .i8 (IntKind.i8.wrap (K.num (p + 13) 1)), .bool y, .int .i8 (IntKind.i8.wrap (K.num (p + 15) 1)), .int .i16 0] 178 ∧ Bel w.heap.size [K.d, K.sb, g] w w' := by
  have HG := Hd.mk h; have HL := Hd.mk (Bel.refl w.heap.size [K.d, K.sb, g] w); have HK := Hd.mk hk; have HY := Hd.mk hy
  clear h hk hy
  go_enter Try.func87, Try.ntmps87
  go_wp2_with fail
  with_reducible refine (D_Int32 K p _ HG.out.d (by omega)).mono ?_
  rintro e w1 ⟨rfl, hw⟩
  have hg : DecG K w1 (p + 4) g #[.int .i32 0, .int .i32 0, .int .i16 0, .int .i16 0, .int .i8 0, .int .i8 0, .bool false, .int .i8 0, .int .i16 0] 178 := (HG.out.went hw)
  have hl := bel_of HL.out hw.2 (Nat.le_refl _) (fun x hx => by simp at hx ⊢; rcases hx with h | h <;> simp [h])
  clear HG HL hw
  have c : w1.cell? ⟨g, 0, none⟩ = some (.int .i32 0) := hg.blk.cell 0 rfl
  have f := hg.blk.free 0
  have HG := Hd.mk ((hg.set 0 (.int .i32 (wrap32 (K.num p 4)))).cast (cs' := #[.int .i32 (wrap32 (K.num p 4)), .int .i32 0, .int .i16 0, .int .i16 0, .int .i8 0, .int .i8 0, .bool false, .int .i8 0, .int .i16 0]) (by simp)); have HL := Hd.mk (hl.set (p := ⟨g, 0, none⟩) (.inr (by simp)) (.int .i32 (wrap32 (K.num p 4))))
  clear hg hl
  go_wp2_with fail
  clear c f
  go_wp2_with fail
  with_reducible refine (D_Int32 K (p + 4) _ HG.out.d (by omega)).mono ?_
  rintro e w2 ⟨rfl, hw⟩
  have hg : DecG K w2 (p + 8) g #[.int .i32 (wrap32 (K.num p 4)), .int .i32 0, .int .i16 0, .int .i16 0, .int .i8 0, .int .i8 0, .bool false, .int .i8 0, .int .i16 0] 178 := (HG.out.went hw)
  have hl := bel_of HL.out hw.2 (Nat.le_refl _) (fun x hx => by simp at hx ⊢; rcases hx with h | h <;> simp [h])
  clear HG HL hw
  have c : w2.cell? ⟨g, 1, none⟩ = some (.int .i32 0) := hg.blk.cell 1 rfl
  have f := hg.blk.free 1
  have HG := Hd.mk ((hg.set 1 (.int .i32 (wrap32 (K.num (p + 4) 4)))).cast (cs' := #[.int .i32 (wrap32 (K.num p 4)), .int .i32 (wrap32 (K.num (p + 4) 4)), .int .i16 0, .int .i16 0, .int .i8 0, .int .i8 0, .bool false, .int .i8 0, .int .i16 0]) (by simp)); have HL := Hd.mk (hl.set (p := ⟨g, 1, none⟩) (.inr (by simp)) (.int .i32 (wrap32 (K.num (p + 4) 4))))
  clear hg hl
  go_wp2_with fail
  clear c f
  go_wp2_with fail
  with_reducible refine (D_Int16 K (p + 8) _ HG.out.d (by omega)).mono ?_
  rintro e w3 ⟨rfl, hw⟩
  have hg : DecG K w3 (p + 10) g #[.int .i32 (wrap32 (K.num p 4)), .int .i32 (wrap32 (K.num (p + 4) 4)), .int .i16 0, .int .i16 0, .int .i8 0, .int .i8 0, .bool false, .int .i8 0, .int .i16 0] 178 := (HG.out.went hw)
  have hl := bel_of HL.out hw.2 (Nat.le_refl _) (fun x hx => by simp at hx ⊢; rcases hx with h | h <;> simp [h])
  clear HG HL hw
  have c : w3.cell? ⟨g, 2, none⟩ = some (.int .i16 0) := hg.blk.cell 2 rfl
  have f := hg.blk.free 2
  have HG := Hd.mk ((hg.set 2 (.int .i16 (IntKind.i16.wrap (K.num (p + 8) 2)))).cast (cs' := #[.int .i32 (wrap32 (K.num p 4)), .int .i32 (wrap32 (K.num (p + 4) 4)), .int .i16 (IntKind.i16.wrap (K.num (p + 8) 2)), .int .i16 0, .int .i8 0, .int .i8 0, .bool false, .int .i8 0, .int .i16 0]) (by simp)); have HL := Hd.mk (hl.set (p := ⟨g, 2, none⟩) (.inr (by simp)) (.int .i16 (IntKind.i16.wrap (K.num (p + 8) 2))))
  clear hg hl
  go_wp2_with fail
  clear c f
  go_wp2_with fail
  with_reducible refine (D_Int16 K (p + 10) _ HG.out.d (by omega)).mono ?_
  rintro e w4 ⟨rfl, hw⟩
  have hg : DecG K w4 (p + 12) g #[.int .i32 (wrap32 (K.num p 4)), .int .i32 (wrap32 (K.num (p + 4) 4)), .int .i16 (IntKind.i16.wrap (K.num (p + 8) 2)), .int .i16 0, .int .i8 0, .int .i8 0, .bool false, .int .i8 0, .int .i16 0] 178 := (HG.out.went hw)
  have hl := bel_of HL.out hw.2 (Nat.le_refl _) (fun x hx => by simp at hx ⊢; rcases hx with h | h <;> simp [h])
  clear HG HL hw
  have c : w4.cell? ⟨g, 3, none⟩ = some (.int .i16 0) := hg.blk.cell 3 rfl
  have f := hg.blk.free 3
  have HG := Hd.mk ((hg.set 3 (.int .i16 (IntKind.i16.wrap (K.num (p + 10) 2)))).cast (cs' := #[.int .i32 (wrap32 (K.num p 4)), .int .i32 (wrap32 (K.num (p + 4) 4)), .int .i16 (IntKind.i16.wrap (K.num (p + 8) 2)), .int .i16 (IntKind.i16.wrap (K.num (p + 10) 2)), .int .i8 0, .int .i8 0, .bool false, .int .i8 0, .int .i16 0]) (by simp)); have HL := Hd.mk (hl.set (p := ⟨g, 3, none⟩) (.inr (by simp)) (.int .i16 (IntKind.i16.wrap (K.num (p + 10) 2))))
  clear hg hl
  go_wp2_with fail
  clear c f
  go_wp2_with fail
  have C := D_Int8 K (p + 12) _ HG.out.d (by omega)
  rw [HK.out] at C
  with_reducible refine C.mono ?_
  rintro e w5 ⟨rfl, hw⟩
  clear C
  have hg : DecG K w5 (p + 13) g #[.int .i32 (wrap32 (K.num p 4)), .int .i32 (wrap32 (K.num (p + 4) 4)), .int .i16 (IntKind.i16.wrap (K.num (p + 8) 2)), .int .i16 (IntKind.i16.wrap (K.num (p + 10) 2)), .int .i8 0, .int .i8 0, .bool false, .int .i8 0, .int .i16 0] 178 := (HG.out.went hw)
  have hl := bel_of HL.out hw.2 (Nat.le_refl _) (fun x hx => by simp at hx ⊢; rcases hx with h | h <;> simp [h])
  clear HG HL hw
  have c : w5.cell? ⟨g, 4, none⟩ = some (.int .i8 0) := hg.blk.cell 4 rfl
  have f := hg.blk.free 4
  have HG := Hd.mk ((hg.set 4 (.int .i8 1)).cast (cs' := #[.int .i32 (wrap32 (K.num p 4)), .int .i32 (wrap32 (K.num (p + 4) 4)), .int .i16 (IntKind.i16.wrap (K.num (p + 8) 2)), .int .i16 (IntKind.i16.wrap (K.num (p + 10) 2)), .int .i8 1, .int .i8 0, .bool false, .int .i8 0, .int .i16 0]) (by simp)); have HL := Hd.mk (hl.set (p := ⟨g, 4, none⟩) (.inr (by simp)) (.int .i8 1))
  clear hg hl
  go_wp2_with fail
  clear c f
  go_wp2_with fail
  with_reducible refine (D_Int8 K (p + 13) _ HG.out.d (by omega)).mono ?_
  rintro e w6 ⟨rfl, hw⟩
  have hg : DecG K w6 (p + 14) g #[.int .i32 (wrap32 (K.num p 4)), .int .i32 (wrap32 (K.num (p + 4) 4)), .int .i16 (IntKind.i16.wrap (K.num (p + 8) 2)), .int .i16 (IntKind.i16.wrap (K.num (p + 10) 2)), .int .i8 1, .int .i8 0, .bool false, .int .i8 0, .int .i16 0] 178 := (HG.out.went hw)
  have hl := bel_of HL.out hw.2 (Nat.le_refl _) (fun x hx => by simp at hx ⊢; rcases hx with h | h <;> simp [h])
  clear HG HL hw
  have c : w6.cell? ⟨g, 5, none⟩ = some (.int .i8 0) := hg.blk.cell 5 rfl
  have f := hg.blk.free 5
  have HG := Hd.mk ((hg.set 5 (.int .i8 (IntKind.i8.wrap (K.num (p + 13) 1)))).cast (cs' := #[.int .i32 (wrap32 (K.num p 4)), .int .i32 (wrap32 (K.num (p + 4) 4)), .int .i16 (IntKind.i16.wrap (K.num (p + 8) 2)), .int .i16 (IntKind.i16.wrap (K.num (p + 10) 2)), .int .i8 1, .int .i8 (IntKind.i8.wrap (K.num (p + 13) 1)), .bool false, .int .i8 0, .int .i16 0]) (by simp)); have HL := Hd.mk (hl.set (p := ⟨g, 5, none⟩) (.inr (by simp)) (.int .i8 (IntKind.i8.wrap (K.num (p + 13) 1))))
  clear hg hl
  go_wp2_with fail
  clear c f
  go_wp2_with fail
  with_reducible refine (D_Bool K (p + 14) _ HG.out.d (by omega) y HY.out).mono ?_
  rintro e w7 ⟨rfl, hw⟩
  have hg : DecG K w7 (p + 15) g #[.int .i32 (wrap32 (K.num p 4)), .int .i32 (wrap32 (K.num (p + 4) 4)), .int .i16 (IntKind.i16.wrap (K.num (p + 8) 2)), .int .i16 (IntKind.i16.wrap (K.num (p + 10) 2)), .int .i8 1, .int .i8 (IntKind.i8.wrap (K.num (p + 13) 1)), .bool false, .int .i8 0, .int .i16 0] 178 := (HG.out.went hw)
  have hl := bel_of HL.out hw.2 (Nat.le_refl _) (fun x hx => by simp at hx ⊢; rcases hx with h | h <;> simp [h])
  clear HG HL hw
  have c : w7.cell? ⟨g, 6, none⟩ = some (.bool false) := hg.blk.cell 6 rfl
  have f := hg.blk.free 6
  have HG := Hd.mk ((hg.set 6 (.bool y)).cast (cs' := #[.int .i32 (wrap32 (K.num p 4)), .int .i32 (wrap32 (K.num (p + 4) 4)), .int .i16 (IntKind.i16.wrap (K.num (p + 8) 2)), .int .i16 (IntKind.i16.wrap (K.num (p + 10) 2)), .int .i8 1, .int .i8 (IntKind.i8.wrap (K.num (p + 13) 1)), .bool y, .int .i8 0, .int .i16 0]) (by simp)); have HL := Hd.mk (hl.set (p := ⟨g, 6, none⟩) (.inr (by simp)) (.bool y))
  clear hg hl
  go_wp2_with fail
  clear c f
  go_wp2_with fail
  with_reducible refine (D_Int8 K (p + 15) _ HG.out.d (by omega)).mono ?_
  rintro e w8 ⟨rfl, hw⟩
  have hg : DecG K w8 (p + 16) g #[.int .i32 (wrap32 (K.num p 4)), .int .i32 (wrap32 (K.num (p + 4) 4)), .int .i16 (IntKind.i16.wrap (K.num (p + 8) 2)), .int .i16 (IntKind.i16.wrap (K.num (p + 10) 2)), .int .i8 1, .int .i8 (IntKind.i8.wrap (K.num (p + 13) 1)), .bool y, .int .i8 0, .int .i16 0] 178 := (HG.out.went hw)
  have hl := bel_of HL.out hw.2 (Nat.le_refl _) (fun x hx => by simp at hx ⊢; rcases hx with h | h <;> simp [h])
  clear HG HL hw
  have c : w8.cell? ⟨g, 7, none⟩ = some (.int .i8 0) := hg.blk.cell 7 rfl
  have f := hg.blk.free 7
  have HG := Hd.mk ((hg.set 7 (.int .i8 (IntKind.i8.wrap (K.num (p + 15) 1)))).cast (cs' := #[.int .i32 (wrap32 (K.num p 4)), .int .i32 (wrap32 (K.num (p + 4) 4)), .int .i16 (IntKind.i16.wrap (K.num (p + 8) 2)), .int .i16 (IntKind.i16.wrap (K.num (p + 10) 2)), .int .i8 1, .int .i8 (IntKind.i8.wrap (K.num (p + 13) 1)), .bool y, .int .i8 (IntKind.i8.wrap (K.num (p + 15) 1)), .int .i16 0]) (by simp)); have HL := Hd.mk (hl.set (p := ⟨g, 7, none⟩) (.inr (by simp)) (.int .i8 (IntKind.i8.wrap (K.num (p + 15) 1))))
  clear hg hl
  go_wp2_with fail
  clear c f
  go_wp2_with fail
  with_reducible refine (D_Skip K (p + 16) 8 8 _ rfl HG.out.d (by omega) (by omega) (by omega)).mono ?_
  rintro e w9 ⟨rfl, hw⟩
  have hg : DecG K w9 (p + 24) g #[.int .i32 (wrap32 (K.num p 4)), .int .i32 (wrap32 (K.num (p + 4) 4)), .int .i16 (IntKind.i16.wrap (K.num (p + 8) 2)), .int .i16 (IntKind.i16.wrap (K.num (p + 10) 2)), .int .i8 1, .int .i8 (IntKind.i8.wrap (K.num (p + 13) 1)), .bool y, .int .i8 (IntKind.i8.wrap (K.num (p + 15) 1)), .int .i16 0] 178 := (HG.out.went hw)
  have hl := bel_of HL.out hw.2 (Nat.le_refl _) (fun x hx => by simp at hx ⊢; rcases hx with h | h <;> simp [h])
  clear HG HL hw
  have HG := Hd.mk hg; have HL := Hd.mk hl
  clear hg hl
  go_wp2_with fail
  with_reducible refine (D_Error K _ _ _ _ HG.out.d.b).mono ?_
  rintro e w' ⟨rfl, rfl⟩
  go_wp2
  go_ret
  exact ⟨rfl, HG.out, HL.out⟩
set_option maxRecDepth 100000 in
theorem dec_segment2 (K : DK) (p g : Nat) (w : World) (h : DecG K w p g #[.int .i32 0, .int .i32 0, .int .i16 0, .int .i16 0, .int .i8 0, .int .i8 0, .bool false, .int .i8 0, .int .i16 0] 178) (fit : p + 24 ≤ K.xs.length) (hk : IntKind.i8.wrap (K.num (p + 12) 1) = 2) :
    Calls Try.prog 87 #[.pointer (some ⟨g, 0, none⟩), .pointer (some ⟨K.d, 0, none⟩)] w fun e w' => e = .returned .nilIface ∧ DecG K w' (p + 24) g #[.int .i32 (wrap32 (K.num p 4)), .int .i32 (wrap32 (K.num (p + 4) 4)), .int .i16 (IntKind.i16.wrap (K.num (p + 8) 2)), .int .i16 (IntKind.i16.wrap (K.num (p + 10) 2)), .int .i8 2, .int .i8 0, .bool false, .int .i8 0, .int .i16 (IntKind.i16.wrap (K.num (p + 14) 2))] 178 ∧ Bel w.heap.size [K.d, K.sb, g] w w' := by
  have HG := Hd.mk h; have HL := Hd.mk (Bel.refl w.heap.size [K.d, K.sb, g] w); have HK := Hd.mk hk
  clear h hk
  go_enter Try.func87, Try.ntmps87
  go_wp2_with fail
  with_reducible refine (D_Int32 K p _ HG.out.d (by omega)).mono ?_
  rintro e w1 ⟨rfl, hw⟩
  have hg : DecG K w1 (p + 4) g #[.int .i32 0, .int .i32 0, .int .i16 0, .int .i16 0, .int .i8 0, .int .i8 0, .bool false, .int .i8 0, .int .i16 0] 178 := (HG.out.went hw)
  have hl := bel_of HL.out hw.2 (Nat.le_refl _) (fun x hx => by simp at hx ⊢; rcases hx with h | h <;> simp [h])
  clear HG HL hw
  have c : w1.cell? ⟨g, 0, none⟩ = some (.int .i32 0) := hg.blk.cell 0 rfl
  have f := hg.blk.free 0
  have HG := Hd.mk ((hg.set 0 (.int .i32 (wrap32 (K.num p 4)))).cast (cs' := #[.int .i32 (wrap32 (K.num p 4)), .int .i32 0, .int .i16 0, .int .i16 0, .int .i8 0, .int .i8 0, .bool false, .int .i8 0, .int .i16 0]) (by simp)); have HL := Hd.mk (hl.set (p := ⟨g, 0, none⟩) (.inr (by simp)) (.int .i32 (wrap32 (K.num p 4))))
  clear hg hl
  go_wp2_with fail
  clear c f
  go_wp2_with fail
  with_reducible refine (D_Int32 K (p + 4) _ HG.out.d (by omega)).mono ?_
  rintro e w2 ⟨rfl, hw⟩
  have hg : DecG K w2 (p + 8) g #[.int .i32 (wrap32 (K.num p 4)), .int .i32 0, .int .i16 0, .int .i16 0, .int .i8 0, .int .i8 0, .bool false, .int .i8 0, .int .i16 0] 178 := (HG.out.went hw)
  have hl := bel_of HL.out hw.2 (Nat.le_refl _) (fun x hx => by simp at hx ⊢; rcases hx with h | h <;> simp [h])
  clear HG HL hw
  have c : w2.cell? ⟨g, 1, none⟩ = some (.int .i32 0) := hg.blk.cell 1 rfl
  have f := hg.blk.free 1
  have HG := Hd.mk ((hg.set 1 (.int .i32 (wrap32 (K.num (p + 4) 4)))).cast (cs' := #[.int .i32 (wrap32 (K.num p 4)), .int .i32 (wrap32 (K.num (p + 4) 4)), .int .i16 0, .int .i16 0, .int .i8 0, .int .i8 0, .bool false, .int .i8 0, .int .i16 0]) (by simp)); have HL := Hd.mk (hl.set (p := ⟨g, 1, none⟩) (.inr (by simp)) (.int .i32 (wrap32 (K.num (p + 4) 4))))
  clear hg hl
  go_wp2_with fail
  clear c f
  go_wp2_with fail
  with_reducible refine (D_Int16 K (p + 8) _ HG.out.d (by omega)).mono ?_
  rintro e w3 ⟨rfl, hw⟩
  have hg : DecG K w3 (p + 10) g #[.int .i32 (wrap32 (K.num p 4)), .int .i32 (wrap32 (K.num (p + 4) 4)), .int .i16 0, .int .i16 0, .int .i8 0, .int .i8 0, .bool false, .int .i8 0, .int .i16 0] 178 := (HG.out.went hw)
  have hl := bel_of HL.out hw.2 (Nat.le_refl _) (fun x hx => by simp at hx ⊢; rcases hx with h | h <;> simp [h])
  clear HG HL hw
  have c : w3.cell? ⟨g, 2, none⟩ = some (.int .i16 0) := hg.blk.cell 2 rfl
  have f := hg.blk.free 2
  have HG := Hd.mk ((hg.set 2 (.int .i16 (IntKind.i16.wrap (K.num (p + 8) 2)))).cast (cs' := #[.int .i32 (wrap32 (K.num p 4)), .int .i32 (wrap32 (K.num (p + 4) 4)), .int .i16 (IntKind.i16.wrap (K.num (p + 8) 2)), .int .i16 0, .int .i8 0, .int .i8 0, .bool false, .int .i8 0, .int .i16 0]) (by simp)); have HL := Hd.mk (hl.set (p := ⟨g, 2, none⟩) (.inr (by simp)) (.int .i16 (IntKind.i16.wrap (K.num (p + 8) 2))))
  clear hg hl
  go_wp2_with fail
  clear c f
  go_wp2_with fail
  with_reducible refine (D_Int16 K (p + 10) _ HG.out.d (by omega)).mono ?_
  rintro e w4 ⟨rfl, hw⟩
  have hg : DecG K w4 (p + 12) g #[.int .i32 (wrap32 (K.num p 4)), .int .i32 (wrap32 (K.num (p + 4) 4)), .int .i16 (IntKind.i16.wrap (K.num (p + 8) 2)), .int .i16 0, .int .i8 0, .int .i8 0, .bool false, .int .i8 0, .int .i16 0] 178 := (HG.out.went hw)
  have hl := bel_of HL.out hw.2 (Nat.le_refl _) (fun x hx => by simp at hx ⊢; rcases hx with h | h <;> simp [h])
  clear HG HL hw
  have c : w4.cell? ⟨g, 3, none⟩ = some (.int .i16 0) := hg.blk.cell 3 rfl
  have f := hg.blk.free 3
  have HG := Hd.mk ((hg.set 3 (.int .i16 (IntKind.i16.wrap (K.num (p + 10) 2)))).cast (cs' := #[.int .i32 (wrap32 (K.num p 4)), .int .i32 (wrap32 (K.num (p + 4) 4)), .int .i16 (IntKind.i16.wrap (K.num (p + 8) 2)), .int .i16 (IntKind.i16.wrap (K.num (p + 10) 2)), .int .i8 0, .int .i8 0, .bool false, .int .i8 0, .int .i16 0]) (by simp)); have HL := Hd.mk (hl.set (p := ⟨g, 3, none⟩) (.inr (by simp)) (.int .i16 (IntKind.i16.wrap (K.num (p + 10) 2))))
  clear hg hl
  go_wp2_with fail
  clear c f
  go_wp2_with fail
  have C := D_Int8 K (p + 12) _ HG.out.d (by omega)
  rw [HK.out] at C
  with_reducible refine C.mono ?_
  rintro e w5 ⟨rfl, hw⟩
  clear C
  have hg : DecG K w5 (p + 13) g #[.int .i32 (wrap32 (K.num p 4)), .int .i32 (wrap32 (K.num (p + 4) 4)), .int .i16 (IntKind.i16.wrap (K.num (p + 8) 2)), .int .i16 (IntKind.i16.wrap (K.num (p + 10) 2)), .int .i8 0, .int .i8 0, .bool false, .int .i8 0, .int .i16 0] 178 := (HG.out.went hw)
  have hl := bel_of HL.out hw.2 (Nat.le_refl _) (fun x hx => by simp at hx ⊢; rcases hx with h | h <;> simp [h])
  clear HG HL hw
  have c : w5.cell? ⟨g, 4, none⟩ = some (.int .i8 0) := hg.blk.cell 4 rfl
  have f := hg.blk.free 4
  have HG := Hd.mk ((hg.set 4 (.int .i8 2)).cast (cs' := #[.int .i32 (wrap32 (K.num p 4)), .int .i32 (wrap32 (K.num (p + 4) 4)), .int .i16 (IntKind.i16.wrap (K.num (p + 8) 2)), .int .i16 (IntKind.i16.wrap (K.num (p + 10) 2)), .int .i8 2, .int .i8 0, .bool false, .int .i8 0, .int .i16 0]) (by simp)); have HL := Hd.mk (hl.set (p := ⟨g, 4, none⟩) (.inr (by simp)) (.int .i8 2))
  clear hg hl
  go_wp2_with fail
  clear c f
  go_wp2_with fail
  with_reducible refine (D_Skip K (p + 13) 1 1 _ rfl HG.out.d (by omega) (by omega) (by omega)).mono ?_
  rintro e w6 ⟨rfl, hw⟩
  have hg : DecG K w6 (p + 14) g #[.int .i32 (wrap32 (K.num p 4)), .int .i32 (wrap32 (K.num (p + 4) 4)), .int .i16 (IntKind.i16.wrap (K.num (p + 8) 2)), .int .i16 (IntKind.i16.wrap (K.num (p + 10) 2)), .int .i8 2, .int .i8 0, .bool false, .int .i8 0, .int .i16 0] 178 := (HG.out.went hw)
  have hl := bel_of HL.out hw.2 (Nat.le_refl _) (fun x hx => by simp at hx ⊢; rcases hx with h | h <;> simp [h])
  clear HG HL hw
  have HG := Hd.mk hg; have HL := Hd.mk hl
  clear hg hl
  go_wp2_with fail
  with_reducible refine (D_Int16 K (p + 14) _ HG.out.d (by omega)).mono ?_
  rintro e w7 ⟨rfl, hw⟩
  have hg : DecG K w7 (p + 16) g #[.int .i32 (wrap32 (K.num p 4)), .int .i32 (wrap32 (K.num (p + 4) 4)), .int .i16 (IntKind.i16.wrap (K.num (p + 8) 2)), .int .i16 (IntKind.i16.wrap (K.num (p + 10) 2)), .int .i8 2, .int .i8 0, .bool false, .int .i8 0, .int .i16 0] 178 := (HG.out.went hw)
  have hl := bel_of HL.out hw.2 (Nat.le_refl _) (fun x hx => by simp at hx ⊢; rcases hx with h | h <;> simp [h])
  clear HG HL hw
  have c : w7.cell? ⟨g, 8, none⟩ = some (.int .i16 0) := hg.blk.cell 8 rfl
  have f := hg.blk.free 8
  have HG := Hd.mk ((hg.set 8 (.int .i16 (IntKind.i16.wrap (K.num (p + 14) 2)))).cast (cs' := #[.int .i32 (wrap32 (K.num p 4)), .int .i32 (wrap32 (K.num (p + 4) 4)), .int .i16 (IntKind.i16.wrap (K.num (p + 8) 2)), .int .i16 (IntKind.i16.wrap (K.num (p + 10) 2)), .int .i8 2, .int .i8 0, .bool false, .int .i8 0, .int .i16 (IntKind.i16.wrap (K.num (p + 14) 2))]) (by simp)); have HL := Hd.mk (hl.set (p := ⟨g, 8, none⟩) (.inr (by simp)) (.int .i16 (IntKind.i16.wrap (K.num (p + 14) 2))))
  clear hg hl
  go_wp2_with fail
  clear c f
  go_wp2_with fail
  with_reducible refine (D_Skip K (p + 16) 8 8 _ rfl HG.out.d (by omega) (by omega) (by omega)).mono ?_
  rintro e w8 ⟨rfl, hw⟩
  have hg : DecG K w8 (p + 24) g #[.int .i32 (wrap32 (K.num p 4)), .int .i32 (wrap32 (K.num (p + 4) 4)), .int .i16 (IntKind.i16.wrap (K.num (p + 8) 2)), .int .i16 (IntKind.i16.wrap (K.num (p + 10) 2)), .int .i8 2, .int .i8 0, .bool false, .int .i8 0, .int .i16 (IntKind.i16.wrap (K.num (p + 14) 2))] 178 := (HG.out.went hw)
  have hl := bel_of HL.out hw.2 (Nat.le_refl _) (fun x hx => by simp at hx ⊢; rcases hx with h | h <;> simp [h])
  clear HG HL hw
  have HG := Hd.mk hg; have HL := Hd.mk hl
  clear hg hl
  go_wp2_with fail
  with_reducible refine (D_Error K _ _ _ _ HG.out.d.b).mono ?_
  rintro e w' ⟨rfl, rfl⟩
  go_wp2
  go_ret
  exact ⟨rfl, HG.out, HL.out⟩
set_option maxRecDepth 100000 in
theorem dec_segment5 (K : DK) (p g : Nat) (w : World) (h : DecG K w p g #[.int .i32 0, .int .i32 0, .int .i16 0, .int .i16 0, .int .i8 0, .int .i8 0, .bool false, .int .i8 0, .int .i16 0] 178) (fit : p + 24 ≤ K.xs.length) (hk : IntKind.i8.wrap (K.num (p + 12) 1) = 5) :
    Calls Try.prog 87 #[.pointer (some ⟨g, 0, none⟩), .pointer (some ⟨K.d, 0, none⟩)] w fun e w' => e = .returned .nilIface ∧ DecG K w' (p + 24) g #[.int .i32 (wrap32 (K.num p 4)), .int .i32 (wrap32 (K.num (p + 4) 4)), .int .i16 (IntKind.i16.wrap (K.num (p + 8) 2)), .int .i16 (IntKind.i16.wrap (K.num (p + 10) 2)), .int .i8 5, .int .i8 0, .bool false, .int .i8 0, .int .i16 0] 178 ∧ Bel w.heap.size [K.d, K.sb, g] w w' := by
  have HG := Hd.mk h; have HL := Hd.mk (Bel.refl w.heap.size [K.d, K.sb, g] w); have HK := Hd.mk hk
  clear h hk
  go_enter Try.func87, Try.ntmps87
  go_wp2_with fail
  with_reducible refine (D_Int32 K p _ HG.out.d (by omega)).mono ?_
  rintro e w1 ⟨rfl, hw⟩
  have hg : DecG K w1 (p + 4) g #[.int .i32 0, .int .i32 0, .int .i16 0, .int .i16 0, .int .i8 0, .int .i8 0, .bool false, .int .i8 0, .int .i16 0] 178 := (HG.out.went hw)
  have hl := bel_of HL.out hw.2 (Nat.le_refl _) (fun x hx => by simp at hx ⊢; rcases hx with h | h <;> simp [h])
  clear HG HL hw
  have c : w1.cell? ⟨g, 0, none⟩ = some (.int .i32 0) := hg.blk.cell 0 rfl
  have f := hg.blk.free 0
  have HG := Hd.mk ((hg.set 0 (.int .i32 (wrap32 (K.num p 4)))).cast (cs' := #[.int .i32 (wrap32 (K.num p 4)), .int .i32 0, .int .i16 0, .int .i16 0, .int .i8 0, .int .i8 0, .bool false, .int .i8 0, .int .i16 0]) (by simp)); have HL := Hd.mk (hl.set (p := ⟨g, 0, none⟩) (.inr (by simp)) (.int .i32 (wrap32 (K.num p 4))))
  clear hg hl
  go_wp2_with fail
  clear c f
  go_wp2_with fail
  with_reducible refine (D_Int32 K (p + 4) _ HG.out.d (by omega)).mono ?_
  rintro e w2 ⟨rfl, hw⟩
  have hg : DecG K w2 (p + 8) g #[.int .i32 (wrap32 (K.num p 4)), .int .i32 0, .int .i16 0, .int .i16 0, .int .i8 0, .int .i8 0, .bool false, .int .i8 0, .int .i16 0] 178 := (HG.out.went hw)
  have hl := bel_of HL.out hw.2 (Nat.le_refl _) (fun x hx => by simp at hx ⊢; rcases hx with h | h <;> simp [h])
  clear HG HL hw
  have c : w2.cell? ⟨g, 1, none⟩ = some (.int .i32 0) := hg.blk.cell 1 rfl
  have f := hg.blk.free 1
  have HG := Hd.mk ((hg.set 1 (.int .i32 (wrap32 (K.num (p + 4) 4)))).cast (cs' := #[.int .i32 (wrap32 (K.num p 4)), .int .i32 (wrap32 (K.num (p + 4) 4)), .int .i16 0, .int .i16 0, .int .i8 0, .int .i8 0, .bool false, .int .i8 0, .int .i16 0]) (by simp)); have HL := Hd.mk (hl.set (p := ⟨g, 1, none⟩) (.inr (by simp)) (.int .i32 (wrap32 (K.num (p + 4) 4))))
  clear hg hl
  go_wp2_with fail
  clear c f
  go_wp2_with fail
  with_reducible refine (D_Int16 K (p + 8) _ HG.out.d (by omega)).mono ?_
  rintro e w3 ⟨rfl, hw⟩
  have hg : DecG K w3 (p + 10) g #[.int .i32 (wrap32 (K.num p 4)), .int .i32 (wrap32 (K.num (p + 4) 4)), .int .i16 0, .int .i16 0, .int .i8 0, .int .i8 0, .bool false, .int .i8 0, .int .i16 0] 178 := (HG.out.went hw)
  have hl := bel_of HL.out hw.2 (Nat.le_refl _) (fun x hx => by simp at hx ⊢; rcases hx with h | h <;> simp [h])
  clear HG HL hw
  have c : w3.cell? ⟨g, 2, none⟩ = some (.int .i16 0) := hg.blk.cell 2 rfl
  have f := hg.blk.free 2
  have HG := Hd.mk ((hg.set 2 (.int .i16 (IntKind.i16.wrap (K.num (p + 8) 2)))).cast (cs' := #[.int .i32 (wrap32 (K.num p 4)), .int .i32 (wrap32 (K.num (p + 4) 4)), .int .i16 (IntKind.i16.wrap (K.num (p + 8) 2)), .int .i16 0, .int .i8 0, .int .i8 0, .bool false, .int .i8 0, .int .i16 0]) (by simp)); have HL := Hd.mk (hl.set (p := ⟨g, 2, none⟩) (.inr (by simp)) (.int .i16 (IntKind.i16.wrap (K.num (p + 8) 2))))
  clear hg hl
  go_wp2_with fail
  clear c f
  go_wp2_with fail
  with_reducible refine (D_Int16 K (p + 10) _ HG.out.d (by omega)).mono ?_
  rintro e w4 ⟨rfl, hw⟩
  have hg : DecG K w4 (p + 12) g #[.int .i32 (wrap32 (K.num p 4)), .int .i32 (wrap32 (K.num (p + 4) 4)), .int .i16 (IntKind.i16.wrap (K.num (p + 8) 2)), .int .i16 0, .int .i8 0, .int .i8 0, .bool false, .int .i8 0, .int .i16 0] 178 := (HG.out.went hw)
  have hl := bel_of HL.out hw.2 (Nat.le_refl _) (fun x hx => by simp at hx ⊢; rcases hx with h | h <;> simp [h])
  clear HG HL hw
  have c : w4.cell? ⟨g, 3, none⟩ = some (.int .i16 0) := hg.blk.cell 3 rfl
  have f := hg.blk.free 3
  have HG := Hd.mk ((hg.set 3 (.int .i16 (IntKind.i16.wrap (K.num (p + 10) 2)))).cast (cs' := #[.int .i32 (wrap32 (K.num p 4)), .int .i32 (wrap32 (K.num (p + 4) 4)), .int .i16 (IntKind.i16.wrap (K.num (p + 8) 2)), .int .i16 (IntKind.i16.wrap (K.num (p + 10) 2)), .int .i8 0, .int .i8 0, .bool false, .int .i8 0, .int .i16 0]) (by simp)); have HL := Hd.mk (hl.set (p := ⟨g, 3, none⟩) (.inr (by simp)) (.int .i16 (IntKind.i16.wrap (K.num (p + 10) 2))))
  clear hg hl
  go_wp2_with fail
  clear c f
  go_wp2_with fail
  have C := D_Int8 K (p + 12) _ HG.out.d (by omega)
  rw [HK.out] at C
  with_reducible refine C.mono ?_
  rintro e w5 ⟨rfl, hw⟩
  clear C
  have hg : DecG K w5 (p + 13) g #[.int .i32 (wrap32 (K.num p 4)), .int .i32 (wrap32 (K.num (p + 4) 4)), .int .i16 (IntKind.i16.wrap (K.num (p + 8) 2)), .int .i16 (IntKind.i16.wrap (K.num (p + 10) 2)), .int .i8 0, .int .i8 0, .bool false, .int .i8 0, .int .i16 0] 178 := (HG.out.went hw)
  have hl := bel_of HL.out hw.2 (Nat.le_refl _) (fun x hx => by simp at hx ⊢; rcases hx with h | h <;> simp [h])
  clear HG HL hw
  have c : w5.cell? ⟨g, 4, none⟩ = some (.int .i8 0) := hg.blk.cell 4 rfl
  have f := hg.blk.free 4
  have HG := Hd.mk ((hg.set 4 (.int .i8 5)).cast (cs' := #[.int .i32 (wrap32 (K.num p 4)), .int .i32 (wrap32 (K.num (p + 4) 4)), .int .i16 (IntKind.i16.wrap (K.num (p + 8) 2)), .int .i16 (IntKind.i16.wrap (K.num (p + 10) 2)), .int .i8 5, .int .i8 0, .bool false, .int .i8 0, .int .i16 0]) (by simp)); have HL := Hd.mk (hl.set (p := ⟨g, 4, none⟩) (.inr (by simp)) (.int .i8 5))
  clear hg hl
  go_wp2_with fail
  clear c f
  go_wp2_with fail
  with_reducible refine (D_Skip K (p + 13) 11 11 _ rfl HG.out.d (by omega) (by omega) (by omega)).mono ?_
  rintro e w6 ⟨rfl, hw⟩
  have hg : DecG K w6 (p + 24) g #[.int .i32 (wrap32 (K.num p 4)), .int .i32 (wrap32 (K.num (p + 4) 4)), .int .i16 (IntKind.i16.wrap (K.num (p + 8) 2)), .int .i16 (IntKind.i16.wrap (K.num (p + 10) 2)), .int .i8 5, .int .i8 0, .bool false, .int .i8 0, .int .i16 0] 178 := (HG.out.went hw)
  have hl := bel_of HL.out hw.2 (Nat.le_refl _) (fun x hx => by simp at hx ⊢; rcases hx with h | h <;> simp [h])
  clear HG HL hw
  have HG := Hd.mk hg; have HL := Hd.mk hl
  clear hg hl
  go_wp2_with fail
  with_reducible refine (D_Error K _ _ _ _ HG.out.d.b).mono ?_
  rintro e w' ⟨rfl, rfl⟩
  go_wp2
  go_ret
  exact ⟨rfl, HG.out, HL.out⟩
end Go.Proofs.Ytbohjafchfeheaa.Kb
