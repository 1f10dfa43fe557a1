/- The request of a connection: what encode writes and decode reads, with options or without. -/
import Derived.Test.YtnkengcajechbaaDoorHdr
namespace Go.Proofs.YtnkengcajechbaaDoor.Kb
open Go Go.RowKit
set_option linter.unusedVariables false
set_option linter.unusedSimpArgs false
set_option maxHeartbeats 2000000

set_option maxRecDepth 100000 in
theorem enc_init0 (K : EK) (out : List Int) (w : World) (h : Enc K w out) (g : Nat) (x0 x1 x2 x3 x5 : Int) (hg : Blk w g #[.int .i8 x0, .int .i16 x1, .int .i8 x2, .int .i16 x3, .int .i8 0, .int .i8 0] 54) (hB : g < K.B) (n1 : g ≠ K.sb) (n2 : g ≠ K.wr) (hgl : w.cell? ⟨0, 0, none⟩ = some (.int .u32 4294967295)) (hn : out.length + 14 ≤ 1000000000) :
    Calls Tryd.prog 15 #[.pointer (some ⟨g, 0, none⟩), .pointer (some ⟨K.e, 0, none⟩)] w fun e w' => e = .returned .nilIface ∧ Wrote K w out (leB 4 4294967295 ++ (leB 1 x0 ++ (leB 2 x1 ++ (leB 1 x2 ++ (leB 2 x3 ++ (List.replicate 4 0)))))) w' := by
  have HE := Hd.mk h; have HG := Hd.mk hg; have HL := Hd.mk (Bel.refl K.B [K.sb, K.wr] w)
  have c0 : w.cell? ⟨g, 0, none⟩ = some (.int .i8 x0) := HG.out.cell 0 rfl
  have c1 : w.cell? ⟨g, 1, none⟩ = some (.int .i16 x1) := HG.out.cell 1 rfl
  have c2 : w.cell? ⟨g, 2, none⟩ = some (.int .i8 x2) := HG.out.cell 2 rfl
  have c3 : w.cell? ⟨g, 3, none⟩ = some (.int .i16 x3) := HG.out.cell 3 rfl
  have c4 : w.cell? ⟨g, 4, none⟩ = some (.int .i8 0) := HG.out.cell 4 rfl
  have c5 : w.cell? ⟨g, 5, none⟩ = some (.int .i8 0) := HG.out.cell 5 rfl
  clear h hg
  go_enter Tryd.func15, Tryd.ntmps15
  go_wp2_with fail
  with_reducible refine (E_Uint32 K _ _ _ HE.out (by first | omega | (simp only [List.length_append, leB_len, List.length_replicate, List.length_cons, List.length_nil]; omega)) (by decide) (by decide)).mono ?_
  rintro e w1 ⟨rfl, hw⟩
  have HG' := Hd.mk (HG.out.bel hw.2 hB (by simp [n1, n2])); have HE' := Hd.mk hw.1; have HL' := Hd.mk (HL.out.trans hw.2)
  clear hw HG HE HL c0 c1 c2 c3 c4 c5 hgl
  have HG := HG'; have HE := HE'; have HL := HL'
  clear HG' HE' HL'
  have c0 : w1.cell? ⟨g, 0, none⟩ = some (.int .i8 x0) := HG.out.cell 0 rfl
  have c1 : w1.cell? ⟨g, 1, none⟩ = some (.int .i16 x1) := HG.out.cell 1 rfl
  have c2 : w1.cell? ⟨g, 2, none⟩ = some (.int .i8 x2) := HG.out.cell 2 rfl
  have c3 : w1.cell? ⟨g, 3, none⟩ = some (.int .i16 x3) := HG.out.cell 3 rfl
  have c4 : w1.cell? ⟨g, 4, none⟩ = some (.int .i8 0) := HG.out.cell 4 rfl
  have c5 : w1.cell? ⟨g, 5, none⟩ = some (.int .i8 0) := HG.out.cell 5 rfl
  go_wp2_with fail
  with_reducible refine (E_Int8 K _ _ _ HE.out (by first | omega | (simp only [List.length_append, leB_len, List.length_replicate, List.length_cons, List.length_nil]; omega))).mono ?_
  rintro e w2 ⟨rfl, hw⟩
  have HG' := Hd.mk (HG.out.bel hw.2 hB (by simp [n1, n2])); have HE' := Hd.mk hw.1; have HL' := Hd.mk (HL.out.trans hw.2)
  clear hw HG HE HL c0 c1 c2 c3 c4 c5
  have HG := HG'; have HE := HE'; have HL := HL'
  clear HG' HE' HL'
  have c0 : w2.cell? ⟨g, 0, none⟩ = some (.int .i8 x0) := HG.out.cell 0 rfl
  have c1 : w2.cell? ⟨g, 1, none⟩ = some (.int .i16 x1) := HG.out.cell 1 rfl
  have c2 : w2.cell? ⟨g, 2, none⟩ = some (.int .i8 x2) := HG.out.cell 2 rfl
  have c3 : w2.cell? ⟨g, 3, none⟩ = some (.int .i16 x3) := HG.out.cell 3 rfl
  have c4 : w2.cell? ⟨g, 4, none⟩ = some (.int .i8 0) := HG.out.cell 4 rfl
  have c5 : w2.cell? ⟨g, 5, none⟩ = some (.int .i8 0) := HG.out.cell 5 rfl
  go_wp2_with fail
  with_reducible refine (E_Int16 K _ _ _ HE.out (by first | omega | (simp only [List.length_append, leB_len, List.length_replicate, List.length_cons, List.length_nil]; omega))).mono ?_
  rintro e w3 ⟨rfl, hw⟩
  have HG' := Hd.mk (HG.out.bel hw.2 hB (by simp [n1, n2])); have HE' := Hd.mk hw.1; have HL' := Hd.mk (HL.out.trans hw.2)
  clear hw HG HE HL c0 c1 c2 c3 c4 c5
  have HG := HG'; have HE := HE'; have HL := HL'
  clear HG' HE' HL'
  have c0 : w3.cell? ⟨g, 0, none⟩ = some (.int .i8 x0) := HG.out.cell 0 rfl
  have c1 : w3.cell? ⟨g, 1, none⟩ = some (.int .i16 x1) := HG.out.cell 1 rfl
  have c2 : w3.cell? ⟨g, 2, none⟩ = some (.int .i8 x2) := HG.out.cell 2 rfl
  have c3 : w3.cell? ⟨g, 3, none⟩ = some (.int .i16 x3) := HG.out.cell 3 rfl
  have c4 : w3.cell? ⟨g, 4, none⟩ = some (.int .i8 0) := HG.out.cell 4 rfl
  have c5 : w3.cell? ⟨g, 5, none⟩ = some (.int .i8 0) := HG.out.cell 5 rfl
  go_wp2_with fail
  with_reducible refine (E_Int8 K _ _ _ HE.out (by first | omega | (simp only [List.length_append, leB_len, List.length_replicate, List.length_cons, List.length_nil]; omega))).mono ?_
  rintro e w4 ⟨rfl, hw⟩
  have HG' := Hd.mk (HG.out.bel hw.2 hB (by simp [n1, n2])); have HE' := Hd.mk hw.1; have HL' := Hd.mk (HL.out.trans hw.2)
  clear hw HG HE HL c0 c1 c2 c3 c4 c5
  have HG := HG'; have HE := HE'; have HL := HL'
  clear HG' HE' HL'
  have c0 : w4.cell? ⟨g, 0, none⟩ = some (.int .i8 x0) := HG.out.cell 0 rfl
  have c1 : w4.cell? ⟨g, 1, none⟩ = some (.int .i16 x1) := HG.out.cell 1 rfl
  have c2 : w4.cell? ⟨g, 2, none⟩ = some (.int .i8 x2) := HG.out.cell 2 rfl
  have c3 : w4.cell? ⟨g, 3, none⟩ = some (.int .i16 x3) := HG.out.cell 3 rfl
  have c4 : w4.cell? ⟨g, 4, none⟩ = some (.int .i8 0) := HG.out.cell 4 rfl
  have c5 : w4.cell? ⟨g, 5, none⟩ = some (.int .i8 0) := HG.out.cell 5 rfl
  go_wp2_with fail
  with_reducible refine (E_Int16 K _ _ _ HE.out (by first | omega | (simp only [List.length_append, leB_len, List.length_replicate, List.length_cons, List.length_nil]; omega))).mono ?_
  rintro e w5 ⟨rfl, hw⟩
  have HG' := Hd.mk (HG.out.bel hw.2 hB (by simp [n1, n2])); have HE' := Hd.mk hw.1; have HL' := Hd.mk (HL.out.trans hw.2)
  clear hw HG HE HL c0 c1 c2 c3 c4 c5
  have HG := HG'; have HE := HE'; have HL := HL'
  clear HG' HE' HL'
  have c0 : w5.cell? ⟨g, 0, none⟩ = some (.int .i8 x0) := HG.out.cell 0 rfl
  have c1 : w5.cell? ⟨g, 1, none⟩ = some (.int .i16 x1) := HG.out.cell 1 rfl
  have c2 : w5.cell? ⟨g, 2, none⟩ = some (.int .i8 x2) := HG.out.cell 2 rfl
  have c3 : w5.cell? ⟨g, 3, none⟩ = some (.int .i16 x3) := HG.out.cell 3 rfl
  have c4 : w5.cell? ⟨g, 4, none⟩ = some (.int .i8 0) := HG.out.cell 4 rfl
  have c5 : w5.cell? ⟨g, 5, none⟩ = some (.int .i8 0) := HG.out.cell 5 rfl
  go_wp2_with fail
  with_reducible refine (E_Zeroes K _ 4 4 _ rfl HE.out (by omega) (by omega) (by first | omega | (simp only [List.length_append, leB_len, List.length_replicate, List.length_cons, List.length_nil]; omega))).mono ?_
  rintro e w6 ⟨rfl, hw⟩
  have HG' := Hd.mk (HG.out.bel hw.2 hB (by simp [n1, n2])); have HE' := Hd.mk hw.1; have HL' := Hd.mk (HL.out.trans hw.2)
  clear hw HG HE HL c0 c1 c2 c3 c4 c5
  have HG := HG'; have HE := HE'; have HL := HL'
  clear HG' HE' HL'
  go_wp2
  go_ret
  refine ⟨rfl, ?_, HL.out⟩
  have he := HE.out
  simp only [List.append_assoc] at he
  exact he
set_option maxRecDepth 100000 in
theorem enc_init1 (K : EK) (out : List Int) (w : World) (h : Enc K w out) (g : Nat) (x0 x1 x2 x3 x5 : Int) (hg : Blk w g #[.int .i8 x0, .int .i16 x1, .int .i8 x2, .int .i16 x3, .int .i8 1, .int .i8 x5] 54) (hB : g < K.B) (n1 : g ≠ K.sb) (n2 : g ≠ K.wr) (hgl : w.cell? ⟨0, 0, none⟩ = some (.int .u32 4294967295)) (hn : out.length + 14 ≤ 1000000000) :
    Calls Tryd.prog 15 #[.pointer (some ⟨g, 0, none⟩), .pointer (some ⟨K.e, 0, none⟩)] w fun e w' => e = .returned .nilIface ∧ Wrote K w out (leB 4 4294967295 ++ (leB 1 x0 ++ (leB 2 x1 ++ (leB 1 x2 ++ (leB 2 x3 ++ (List.replicate 1 0 ++ (leB 1 1 ++ (leB 1 1 ++ (leB 1 x5))))))))) w' := by
  have HE := Hd.mk h; have HG := Hd.mk hg; have HL := Hd.mk (Bel.refl K.B [K.sb, K.wr] w)
  have c0 : w.cell? ⟨g, 0, none⟩ = some (.int .i8 x0) := HG.out.cell 0 rfl
  have c1 : w.cell? ⟨g, 1, none⟩ = some (.int .i16 x1) := HG.out.cell 1 rfl
  have c2 : w.cell? ⟨g, 2, none⟩ = some (.int .i8 x2) := HG.out.cell 2 rfl
  have c3 : w.cell? ⟨g, 3, none⟩ = some (.int .i16 x3) := HG.out.cell 3 rfl
  have c4 : w.cell? ⟨g, 4, none⟩ = some (.int .i8 1) := HG.out.cell 4 rfl
  have c5 : w.cell? ⟨g, 5, none⟩ = some (.int .i8 x5) := HG.out.cell 5 rfl
  clear h hg
  go_enter Tryd.func15, Tryd.ntmps15
  go_wp2_with fail
  with_reducible refine (E_Uint32 K _ _ _ HE.out (by first | omega | (simp only [List.length_append, leB_len, List.length_replicate, List.length_cons, List.length_nil]; omega)) (by decide) (by decide)).mono ?_
  rintro e w1 ⟨rfl, hw⟩
  have HG' := Hd.mk (HG.out.bel hw.2 hB (by simp [n1, n2])); have HE' := Hd.mk hw.1; have HL' := Hd.mk (HL.out.trans hw.2)
  clear hw HG HE HL c0 c1 c2 c3 c4 c5 hgl
  have HG := HG'; have HE := HE'; have HL := HL'
  clear HG' HE' HL'
  have c0 : w1.cell? ⟨g, 0, none⟩ = some (.int .i8 x0) := HG.out.cell 0 rfl
  have c1 : w1.cell? ⟨g, 1, none⟩ = some (.int .i16 x1) := HG.out.cell 1 rfl
  have c2 : w1.cell? ⟨g, 2, none⟩ = some (.int .i8 x2) := HG.out.cell 2 rfl
  have c3 : w1.cell? ⟨g, 3, none⟩ = some (.int .i16 x3) := HG.out.cell 3 rfl
  have c4 : w1.cell? ⟨g, 4, none⟩ = some (.int .i8 1) := HG.out.cell 4 rfl
  have c5 : w1.cell? ⟨g, 5, none⟩ = some (.int .i8 x5) := HG.out.cell 5 rfl
  go_wp2_with fail
  with_reducible refine (E_Int8 K _ _ _ HE.out (by first | omega | (simp only [List.length_append, leB_len, List.length_replicate, List.length_cons, List.length_nil]; omega))).mono ?_
  rintro e w2 ⟨rfl, hw⟩
  have HG' := Hd.mk (HG.out.bel hw.2 hB (by simp [n1, n2])); have HE' := Hd.mk hw.1; have HL' := Hd.mk (HL.out.trans hw.2)
  clear hw HG HE HL c0 c1 c2 c3 c4 c5
  have HG := HG'; have HE := HE'; have HL := HL'
  clear HG' HE' HL'
  have c0 : w2.cell? ⟨g, 0, none⟩ = some (.int .i8 x0) := HG.out.cell 0 rfl
  have c1 : w2.cell? ⟨g, 1, none⟩ = some (.int .i16 x1) := HG.out.cell 1 rfl
  have c2 : w2.cell? ⟨g, 2, none⟩ = some (.int .i8 x2) := HG.out.cell 2 rfl
  have c3 : w2.cell? ⟨g, 3, none⟩ = some (.int .i16 x3) := HG.out.cell 3 rfl
  have c4 : w2.cell? ⟨g, 4, none⟩ = some (.int .i8 1) := HG.out.cell 4 rfl
  have c5 : w2.cell? ⟨g, 5, none⟩ = some (.int .i8 x5) := HG.out.cell 5 rfl
  go_wp2_with fail
  with_reducible refine (E_Int16 K _ _ _ HE.out (by first | omega | (simp only [List.length_append, leB_len, List.length_replicate, List.length_cons, List.length_nil]; omega))).mono ?_
  rintro e w3 ⟨rfl, hw⟩
  have HG' := Hd.mk (HG.out.bel hw.2 hB (by simp [n1, n2])); have HE' := Hd.mk hw.1; have HL' := Hd.mk (HL.out.trans hw.2)
  clear hw HG HE HL c0 c1 c2 c3 c4 c5
  have HG := HG'; have HE := HE'; have HL := HL'
  clear HG' HE' HL'
  have c0 : w3.cell? ⟨g, 0, none⟩ = some (.int .i8 x0) := HG.out.cell 0 rfl
  have c1 : w3.cell? ⟨g, 1, none⟩ = some (.int .i16 x1) := HG.out.cell 1 rfl
  have c2 : w3.cell? ⟨g, 2, none⟩ = some (.int .i8 x2) := HG.out.cell 2 rfl
  have c3 : w3.cell? ⟨g, 3, none⟩ = some (.int .i16 x3) := HG.out.cell 3 rfl
  have c4 : w3.cell? ⟨g, 4, none⟩ = some (.int .i8 1) := HG.out.cell 4 rfl
  have c5 : w3.cell? ⟨g, 5, none⟩ = some (.int .i8 x5) := HG.out.cell 5 rfl
  go_wp2_with fail
  with_reducible refine (E_Int8 K _ _ _ HE.out (by first | omega | (simp only [List.length_append, leB_len, List.length_replicate, List.length_cons, List.length_nil]; omega))).mono ?_
  rintro e w4 ⟨rfl, hw⟩
  have HG' := Hd.mk (HG.out.bel hw.2 hB (by simp [n1, n2])); have HE' := Hd.mk hw.1; have HL' := Hd.mk (HL.out.trans hw.2)
  clear hw HG HE HL c0 c1 c2 c3 c4 c5
  have HG := HG'; have HE := HE'; have HL := HL'
  clear HG' HE' HL'
  have c0 : w4.cell? ⟨g, 0, none⟩ = some (.int .i8 x0) := HG.out.cell 0 rfl
  have c1 : w4.cell? ⟨g, 1, none⟩ = some (.int .i16 x1) := HG.out.cell 1 rfl
  have c2 : w4.cell? ⟨g, 2, none⟩ = some (.int .i8 x2) := HG.out.cell 2 rfl
  have c3 : w4.cell? ⟨g, 3, none⟩ = some (.int .i16 x3) := HG.out.cell 3 rfl
  have c4 : w4.cell? ⟨g, 4, none⟩ = some (.int .i8 1) := HG.out.cell 4 rfl
  have c5 : w4.cell? ⟨g, 5, none⟩ = some (.int .i8 x5) := HG.out.cell 5 rfl
  go_wp2_with fail
  with_reducible refine (E_Int16 K _ _ _ HE.out (by first | omega | (simp only [List.length_append, leB_len, List.length_replicate, List.length_cons, List.length_nil]; omega))).mono ?_
  rintro e w5 ⟨rfl, hw⟩
  have HG' := Hd.mk (HG.out.bel hw.2 hB (by simp [n1, n2])); have HE' := Hd.mk hw.1; have HL' := Hd.mk (HL.out.trans hw.2)
  clear hw HG HE HL c0 c1 c2 c3 c4 c5
  have HG := HG'; have HE := HE'; have HL := HL'
  clear HG' HE' HL'
  have c0 : w5.cell? ⟨g, 0, none⟩ = some (.int .i8 x0) := HG.out.cell 0 rfl
  have c1 : w5.cell? ⟨g, 1, none⟩ = some (.int .i16 x1) := HG.out.cell 1 rfl
  have c2 : w5.cell? ⟨g, 2, none⟩ = some (.int .i8 x2) := HG.out.cell 2 rfl
  have c3 : w5.cell? ⟨g, 3, none⟩ = some (.int .i16 x3) := HG.out.cell 3 rfl
  have c4 : w5.cell? ⟨g, 4, none⟩ = some (.int .i8 1) := HG.out.cell 4 rfl
  have c5 : w5.cell? ⟨g, 5, none⟩ = some (.int .i8 x5) := HG.out.cell 5 rfl
  go_wp2_with fail
  with_reducible refine (E_Zeroes K _ 1 1 _ rfl HE.out (by omega) (by omega) (by first | omega | (simp only [List.length_append, leB_len, List.length_replicate, List.length_cons, List.length_nil]; omega))).mono ?_
  rintro e w6 ⟨rfl, hw⟩
  have HG' := Hd.mk (HG.out.bel hw.2 hB (by simp [n1, n2])); have HE' := Hd.mk hw.1; have HL' := Hd.mk (HL.out.trans hw.2)
  clear hw HG HE HL c0 c1 c2 c3 c4 c5
  have HG := HG'; have HE := HE'; have HL := HL'
  clear HG' HE' HL'
  have c0 : w6.cell? ⟨g, 0, none⟩ = some (.int .i8 x0) := HG.out.cell 0 rfl
  have c1 : w6.cell? ⟨g, 1, none⟩ = some (.int .i16 x1) := HG.out.cell 1 rfl
  have c2 : w6.cell? ⟨g, 2, none⟩ = some (.int .i8 x2) := HG.out.cell 2 rfl
  have c3 : w6.cell? ⟨g, 3, none⟩ = some (.int .i16 x3) := HG.out.cell 3 rfl
  have c4 : w6.cell? ⟨g, 4, none⟩ = some (.int .i8 1) := HG.out.cell 4 rfl
  have c5 : w6.cell? ⟨g, 5, none⟩ = some (.int .i8 x5) := HG.out.cell 5 rfl
  go_wp2_with fail
  with_reducible refine (E_Int8 K _ _ _ HE.out (by first | omega | (simp only [List.length_append, leB_len, List.length_replicate, List.length_cons, List.length_nil]; omega))).mono ?_
  rintro e w7 ⟨rfl, hw⟩
  have HG' := Hd.mk (HG.out.bel hw.2 hB (by simp [n1, n2])); have HE' := Hd.mk hw.1; have HL' := Hd.mk (HL.out.trans hw.2)
  clear hw HG HE HL c0 c1 c2 c3 c4 c5
  have HG := HG'; have HE := HE'; have HL := HL'
  clear HG' HE' HL'
  have c0 : w7.cell? ⟨g, 0, none⟩ = some (.int .i8 x0) := HG.out.cell 0 rfl
  have c1 : w7.cell? ⟨g, 1, none⟩ = some (.int .i16 x1) := HG.out.cell 1 rfl
  have c2 : w7.cell? ⟨g, 2, none⟩ = some (.int .i8 x2) := HG.out.cell 2 rfl
  have c3 : w7.cell? ⟨g, 3, none⟩ = some (.int .i16 x3) := HG.out.cell 3 rfl
  have c4 : w7.cell? ⟨g, 4, none⟩ = some (.int .i8 1) := HG.out.cell 4 rfl
  have c5 : w7.cell? ⟨g, 5, none⟩ = some (.int .i8 x5) := HG.out.cell 5 rfl
  go_wp2_with fail
  with_reducible refine (E_Int8 K _ _ _ HE.out (by first | omega | (simp only [List.length_append, leB_len, List.length_replicate, List.length_cons, List.length_nil]; omega))).mono ?_
  rintro e w8 ⟨rfl, hw⟩
  have HG' := Hd.mk (HG.out.bel hw.2 hB (by simp [n1, n2])); have HE' := Hd.mk hw.1; have HL' := Hd.mk (HL.out.trans hw.2)
  clear hw HG HE HL c0 c1 c2 c3 c4 c5
  have HG := HG'; have HE := HE'; have HL := HL'
  clear HG' HE' HL'
  have c0 : w8.cell? ⟨g, 0, none⟩ = some (.int .i8 x0) := HG.out.cell 0 rfl
  have c1 : w8.cell? ⟨g, 1, none⟩ = some (.int .i16 x1) := HG.out.cell 1 rfl
  have c2 : w8.cell? ⟨g, 2, none⟩ = some (.int .i8 x2) := HG.out.cell 2 rfl
  have c3 : w8.cell? ⟨g, 3, none⟩ = some (.int .i16 x3) := HG.out.cell 3 rfl
  have c4 : w8.cell? ⟨g, 4, none⟩ = some (.int .i8 1) := HG.out.cell 4 rfl
  have c5 : w8.cell? ⟨g, 5, none⟩ = some (.int .i8 x5) := HG.out.cell 5 rfl
  go_wp2_with fail
  with_reducible refine (E_Int8 K _ _ _ HE.out (by first | omega | (simp only [List.length_append, leB_len, List.length_replicate, List.length_cons, List.length_nil]; omega))).mono ?_
  rintro e w9 ⟨rfl, hw⟩
  have HG' := Hd.mk (HG.out.bel hw.2 hB (by simp [n1, n2])); have HE' := Hd.mk hw.1; have HL' := Hd.mk (HL.out.trans hw.2)
  clear hw HG HE HL c0 c1 c2 c3 c4 c5
  have HG := HG'; have HE := HE'; have HL := HL'
  clear HG' HE' HL'
  go_wp2
  go_ret
  refine ⟨rfl, ?_, HL.out⟩
  have he := HE.out
  simp only [List.append_assoc] at he
  exact he
set_option maxRecDepth 100000 in
theorem dec_init0 (K : DK) (g : Nat) (w : World) (x0 x1 x2 x3 : Int) (h : DecG K w 0 g #[.int .i8 0, .int .i16 0, .int .i8 0, .int .i16 0, .int .i8 0, .int .i8 0] 54) (fit : 14 ≤ K.xs.length) (e0 : IntKind.i8.wrap (K.num 4 1) = x0) (e1 : IntKind.i16.wrap (K.num 5 2) = x1) (e2 : IntKind.i8.wrap (K.num 7 1) = x2) (e3 : IntKind.i16.wrap (K.num 8 2) = x3) (e4 : IntKind.i8.wrap (K.num 11 1) = 0) :
    Calls Tryd.prog 21 #[.pointer (some ⟨g, 0, none⟩), .pointer (some ⟨K.d, 0, none⟩)] w fun e w' => e = .returned .nilIface ∧ DecG K w' 14 g #[.int .i8 x0, .int .i16 x1, .int .i8 x2, .int .i16 x3, .int .i8 0, .int .i8 0] 54 ∧ Bel w.heap.size [K.d, K.sb, g] w w' := by
  have HG := Hd.mk h; have HL := Hd.mk (Bel.refl w.heap.size [K.d, K.sb, g] w); have E0 := Hd.mk e0; have E1 := Hd.mk e1; have E2 := Hd.mk e2; have E3 := Hd.mk e3; have E4 := Hd.mk e4
  clear h e0 e1 e2 e3 e4
  go_enter Tryd.func21, Tryd.ntmps21
  go_wp2_with fail
  with_reducible refine (D_Skip K 0 4 4 _ rfl HG.out.d (by omega) (by omega) (by omega)).mono ?_
  rintro e w1 ⟨rfl, hw⟩
  have hg : DecG K w1 4 g #[.int .i8 0, .int .i16 0, .int .i8 0, .int .i16 0, .int .i8 0, .int .i8 0] 54 := (HG.out.went hw)
  have hl := bel_of HL.out hw.2 (Nat.le_refl _) (fun x hx => by simp at hx ⊢; rcases hx with h | h <;> simp [h])
  clear HG HL hw
  have HG := Hd.mk hg; have HL := Hd.mk hl
  clear hg hl
  go_wp2_with fail
  have C := D_Int8 K 4 _ HG.out.d (by omega)
  rw [E0.out] at C
  with_reducible refine C.mono ?_
  rintro e w2 ⟨rfl, hw⟩
  clear C
  have hg : DecG K w2 5 g #[.int .i8 0, .int .i16 0, .int .i8 0, .int .i16 0, .int .i8 0, .int .i8 0] 54 := (HG.out.went hw)
  have hl := bel_of HL.out hw.2 (Nat.le_refl _) (fun x hx => by simp at hx ⊢; rcases hx with h | h <;> simp [h])
  clear HG HL hw
  have c : w2.cell? ⟨g, 0, none⟩ = some (.int .i8 0) := hg.blk.cell 0 rfl
  have f := hg.blk.free 0
  have HG := Hd.mk ((hg.set 0 (.int .i8 x0)).cast (cs' := #[.int .i8 x0, .int .i16 0, .int .i8 0, .int .i16 0, .int .i8 0, .int .i8 0]) (by simp)); have HL := Hd.mk (hl.set (p := ⟨g, 0, none⟩) (.inr (by simp)) (.int .i8 x0))
  clear hg hl
  go_wp2_with fail
  clear c f
  go_wp2_with fail
  have C := D_Int16 K 5 _ HG.out.d (by omega)
  rw [E1.out] at C
  with_reducible refine C.mono ?_
  rintro e w3 ⟨rfl, hw⟩
  clear C
  have hg : DecG K w3 7 g #[.int .i8 x0, .int .i16 0, .int .i8 0, .int .i16 0, .int .i8 0, .int .i8 0] 54 := (HG.out.went hw)
  have hl := bel_of HL.out hw.2 (Nat.le_refl _) (fun x hx => by simp at hx ⊢; rcases hx with h | h <;> simp [h])
  clear HG HL hw
  have c : w3.cell? ⟨g, 1, none⟩ = some (.int .i16 0) := hg.blk.cell 1 rfl
  have f := hg.blk.free 1
  have HG := Hd.mk ((hg.set 1 (.int .i16 x1)).cast (cs' := #[.int .i8 x0, .int .i16 x1, .int .i8 0, .int .i16 0, .int .i8 0, .int .i8 0]) (by simp)); have HL := Hd.mk (hl.set (p := ⟨g, 1, none⟩) (.inr (by simp)) (.int .i16 x1))
  clear hg hl
  go_wp2_with fail
  clear c f
  go_wp2_with fail
  have C := D_Int8 K 7 _ HG.out.d (by omega)
  rw [E2.out] at C
  with_reducible refine C.mono ?_
  rintro e w4 ⟨rfl, hw⟩
  clear C
  have hg : DecG K w4 8 g #[.int .i8 x0, .int .i16 x1, .int .i8 0, .int .i16 0, .int .i8 0, .int .i8 0] 54 := (HG.out.went hw)
  have hl := bel_of HL.out hw.2 (Nat.le_refl _) (fun x hx => by simp at hx ⊢; rcases hx with h | h <;> simp [h])
  clear HG HL hw
  have c : w4.cell? ⟨g, 2, none⟩ = some (.int .i8 0) := hg.blk.cell 2 rfl
  have f := hg.blk.free 2
  have HG := Hd.mk ((hg.set 2 (.int .i8 x2)).cast (cs' := #[.int .i8 x0, .int .i16 x1, .int .i8 x2, .int .i16 0, .int .i8 0, .int .i8 0]) (by simp)); have HL := Hd.mk (hl.set (p := ⟨g, 2, none⟩) (.inr (by simp)) (.int .i8 x2))
  clear hg hl
  go_wp2_with fail
  clear c f
  go_wp2_with fail
  have C := D_Int16 K 8 _ HG.out.d (by omega)
  rw [E3.out] at C
  with_reducible refine C.mono ?_
  rintro e w5 ⟨rfl, hw⟩
  clear C
  have hg : DecG K w5 10 g #[.int .i8 x0, .int .i16 x1, .int .i8 x2, .int .i16 0, .int .i8 0, .int .i8 0] 54 := (HG.out.went hw)
  have hl := bel_of HL.out hw.2 (Nat.le_refl _) (fun x hx => by simp at hx ⊢; rcases hx with h | h <;> simp [h])
  clear HG HL hw
  have c : w5.cell? ⟨g, 3, none⟩ = some (.int .i16 0) := hg.blk.cell 3 rfl
  have f := hg.blk.free 3
  have HG := Hd.mk ((hg.set 3 (.int .i16 x3)).cast (cs' := #[.int .i8 x0, .int .i16 x1, .int .i8 x2, .int .i16 x3, .int .i8 0, .int .i8 0]) (by simp)); have HL := Hd.mk (hl.set (p := ⟨g, 3, none⟩) (.inr (by simp)) (.int .i16 x3))
  clear hg hl
  go_wp2_with fail
  clear c f
  go_wp2_with fail
  with_reducible refine (D_Skip K 10 1 1 _ rfl HG.out.d (by omega) (by omega) (by omega)).mono ?_
  rintro e w6 ⟨rfl, hw⟩
  have hg : DecG K w6 11 g #[.int .i8 x0, .int .i16 x1, .int .i8 x2, .int .i16 x3, .int .i8 0, .int .i8 0] 54 := (HG.out.went hw)
  have hl := bel_of HL.out hw.2 (Nat.le_refl _) (fun x hx => by simp at hx ⊢; rcases hx with h | h <;> simp [h])
  clear HG HL hw
  have HG := Hd.mk hg; have HL := Hd.mk hl
  clear hg hl
  go_wp2_with fail
  have C := D_Int8 K 11 _ HG.out.d (by omega)
  rw [E4.out] at C
  with_reducible refine C.mono ?_
  rintro e w7 ⟨rfl, hw⟩
  clear C
  have hg : DecG K w7 12 g #[.int .i8 x0, .int .i16 x1, .int .i8 x2, .int .i16 x3, .int .i8 0, .int .i8 0] 54 := (HG.out.went hw)
  have hl := bel_of HL.out hw.2 (Nat.le_refl _) (fun x hx => by simp at hx ⊢; rcases hx with h | h <;> simp [h])
  clear HG HL hw
  have c : w7.cell? ⟨g, 4, none⟩ = some (.int .i8 0) := hg.blk.cell 4 rfl
  have f := hg.blk.free 4
  have HG := Hd.mk ((hg.set 4 (.int .i8 0)).cast (cs' := #[.int .i8 x0, .int .i16 x1, .int .i8 x2, .int .i16 x3, .int .i8 0, .int .i8 0]) (by simp)); have HL := Hd.mk (hl.set (p := ⟨g, 4, none⟩) (.inr (by simp)) (.int .i8 0))
  clear hg hl
  go_wp2_with fail
  clear c f
  go_wp2_with fail
  with_reducible refine (D_Skip K 12 2 2 _ rfl HG.out.d (by omega) (by omega) (by omega)).mono ?_
  rintro e w8 ⟨rfl, hw⟩
  have hg : DecG K w8 14 g #[.int .i8 x0, .int .i16 x1, .int .i8 x2, .int .i16 x3, .int .i8 0, .int .i8 0] 54 := (HG.out.went hw)
  have hl := bel_of HL.out hw.2 (Nat.le_refl _) (fun x hx => by simp at hx ⊢; rcases hx with h | h <;> simp [h])
  clear HG HL hw
  have HG := Hd.mk hg; have HL := Hd.mk hl
  clear hg hl
  go_wp2_with fail
  with_reducible refine (D_Error K _ _ _ _ HG.out.d.b).mono ?_
  rintro e w' ⟨rfl, rfl⟩
  go_wp2
  go_ret
  exact ⟨rfl, HG.out, HL.out⟩
set_option maxRecDepth 100000 in
theorem dec_init1 (K : DK) (g : Nat) (w : World) (x0 x1 x2 x3 x5 : Int) (h : DecG K w 0 g #[.int .i8 0, .int .i16 0, .int .i8 0, .int .i16 0, .int .i8 0, .int .i8 0] 54) (fit : 14 ≤ K.xs.length) (e0 : IntKind.i8.wrap (K.num 4 1) = x0) (e1 : IntKind.i16.wrap (K.num 5 2) = x1) (e2 : IntKind.i8.wrap (K.num 7 1) = x2) (e3 : IntKind.i16.wrap (K.num 8 2) = x3) (e4 : IntKind.i8.wrap (K.num 11 1) = 1) (e5 : IntKind.i8.wrap (K.num 13 1) = x5) (ec : IntKind.i8.wrap (K.num 12 1) = 1) :
    Calls Tryd.prog 21 #[.pointer (some ⟨g, 0, none⟩), .pointer (some ⟨K.d, 0, none⟩)] w fun e w' => e = .returned .nilIface ∧ DecG K w' 14 g #[.int .i8 x0, .int .i16 x1, .int .i8 x2, .int .i16 x3, .int .i8 1, .int .i8 x5] 54 ∧ Bel w.heap.size [K.d, K.sb, g] w w' := by
  have HG := Hd.mk h; have HL := Hd.mk (Bel.refl w.heap.size [K.d, K.sb, g] w); have E0 := Hd.mk e0; have E1 := Hd.mk e1; have E2 := Hd.mk e2; have E3 := Hd.mk e3; have E4 := Hd.mk e4; have E5 := Hd.mk e5; have EC := Hd.mk ec
  clear h e0 e1 e2 e3 e4 e5 ec
  go_enter Tryd.func21, Tryd.ntmps21
  go_wp2_with fail
  with_reducible refine (D_Skip K 0 4 4 _ rfl HG.out.d (by omega) (by omega) (by omega)).mono ?_
  rintro e w1 ⟨rfl, hw⟩
  have hg : DecG K w1 4 g #[.int .i8 0, .int .i16 0, .int .i8 0, .int .i16 0, .int .i8 0, .int .i8 0] 54 := (HG.out.went hw)
  have hl := bel_of HL.out hw.2 (Nat.le_refl _) (fun x hx => by simp at hx ⊢; rcases hx with h | h <;> simp [h])
  clear HG HL hw
  have HG := Hd.mk hg; have HL := Hd.mk hl
  clear hg hl
  go_wp2_with fail
  have C := D_Int8 K 4 _ HG.out.d (by omega)
  rw [E0.out] at C
  with_reducible refine C.mono ?_
  rintro e w2 ⟨rfl, hw⟩
  clear C
  have hg : DecG K w2 5 g #[.int .i8 0, .int .i16 0, .int .i8 0, .int .i16 0, .int .i8 0, .int .i8 0] 54 := (HG.out.went hw)
  have hl := bel_of HL.out hw.2 (Nat.le_refl _) (fun x hx => by simp at hx ⊢; rcases hx with h | h <;> simp [h])
  clear HG HL hw
  have c : w2.cell? ⟨g, 0, none⟩ = some (.int .i8 0) := hg.blk.cell 0 rfl
  have f := hg.blk.free 0
  have HG := Hd.mk ((hg.set 0 (.int .i8 x0)).cast (cs' := #[.int .i8 x0, .int .i16 0, .int .i8 0, .int .i16 0, .int .i8 0, .int .i8 0]) (by simp)); have HL := Hd.mk (hl.set (p := ⟨g, 0, none⟩) (.inr (by simp)) (.int .i8 x0))
  clear hg hl
  go_wp2_with fail
  clear c f
  go_wp2_with fail
  have C := D_Int16 K 5 _ HG.out.d (by omega)
  rw [E1.out] at C
  with_reducible refine C.mono ?_
  rintro e w3 ⟨rfl, hw⟩
  clear C
  have hg : DecG K w3 7 g #[.int .i8 x0, .int .i16 0, .int .i8 0, .int .i16 0, .int .i8 0, .int .i8 0] 54 := (HG.out.went hw)
  have hl := bel_of HL.out hw.2 (Nat.le_refl _) (fun x hx => by simp at hx ⊢; rcases hx with h | h <;> simp [h])
  clear HG HL hw
  have c : w3.cell? ⟨g, 1, none⟩ = some (.int .i16 0) := hg.blk.cell 1 rfl
  have f := hg.blk.free 1
  have HG := Hd.mk ((hg.set 1 (.int .i16 x1)).cast (cs' := #[.int .i8 x0, .int .i16 x1, .int .i8 0, .int .i16 0, .int .i8 0, .int .i8 0]) (by simp)); have HL := Hd.mk (hl.set (p := ⟨g, 1, none⟩) (.inr (by simp)) (.int .i16 x1))
  clear hg hl
  go_wp2_with fail
  clear c f
  go_wp2_with fail
  have C := D_Int8 K 7 _ HG.out.d (by omega)
  rw [E2.out] at C
  with_reducible refine C.mono ?_
  rintro e w4 ⟨rfl, hw⟩
  clear C
  have hg : DecG K w4 8 g #[.int .i8 x0, .int .i16 x1, .int .i8 0, .int .i16 0, .int .i8 0, .int .i8 0] 54 := (HG.out.went hw)
  have hl := bel_of HL.out hw.2 (Nat.le_refl _) (fun x hx => by simp at hx ⊢; rcases hx with h | h <;> simp [h])
  clear HG HL hw
  have c : w4.cell? ⟨g, 2, none⟩ = some (.int .i8 0) := hg.blk.cell 2 rfl
  have f := hg.blk.free 2
  have HG := Hd.mk ((hg.set 2 (.int .i8 x2)).cast (cs' := #[.int .i8 x0, .int .i16 x1, .int .i8 x2, .int .i16 0, .int .i8 0, .int .i8 0]) (by simp)); have HL := Hd.mk (hl.set (p := ⟨g, 2, none⟩) (.inr (by simp)) (.int .i8 x2))
  clear hg hl
  go_wp2_with fail
  clear c f
  go_wp2_with fail
  have C := D_Int16 K 8 _ HG.out.d (by omega)
  rw [E3.out] at C
  with_reducible refine C.mono ?_
  rintro e w5 ⟨rfl, hw⟩
  clear C
  have hg : DecG K w5 10 g #[.int .i8 x0, .int .i16 x1, .int .i8 x2, .int .i16 0, .int .i8 0, .int .i8 0] 54 := (HG.out.went hw)
  have hl := bel_of HL.out hw.2 (Nat.le_refl _) (fun x hx => by simp at hx ⊢; rcases hx with h | h <;> simp [h])
  clear HG HL hw
  have c : w5.cell? ⟨g, 3, none⟩ = some (.int .i16 0) := hg.blk.cell 3 rfl
  have f := hg.blk.free 3
  have HG := Hd.mk ((hg.set 3 (.int .i16 x3)).cast (cs' := #[.int .i8 x0, .int .i16 x1, .int .i8 x2, .int .i16 x3, .int .i8 0, .int .i8 0]) (by simp)); have HL := Hd.mk (hl.set (p := ⟨g, 3, none⟩) (.inr (by simp)) (.int .i16 x3))
  clear hg hl
  go_wp2_with fail
  clear c f
  go_wp2_with fail
  with_reducible refine (D_Skip K 10 1 1 _ rfl HG.out.d (by omega) (by omega) (by omega)).mono ?_
  rintro e w6 ⟨rfl, hw⟩
  have hg : DecG K w6 11 g #[.int .i8 x0, .int .i16 x1, .int .i8 x2, .int .i16 x3, .int .i8 0, .int .i8 0] 54 := (HG.out.went hw)
  have hl := bel_of HL.out hw.2 (Nat.le_refl _) (fun x hx => by simp at hx ⊢; rcases hx with h | h <;> simp [h])
  clear HG HL hw
  have HG := Hd.mk hg; have HL := Hd.mk hl
  clear hg hl
  go_wp2_with fail
  have C := D_Int8 K 11 _ HG.out.d (by omega)
  rw [E4.out] at C
  with_reducible refine C.mono ?_
  rintro e w7 ⟨rfl, hw⟩
  clear C
  have hg : DecG K w7 12 g #[.int .i8 x0, .int .i16 x1, .int .i8 x2, .int .i16 x3, .int .i8 0, .int .i8 0] 54 := (HG.out.went hw)
  have hl := bel_of HL.out hw.2 (Nat.le_refl _) (fun x hx => by simp at hx ⊢; rcases hx with h | h <;> simp [h])
  clear HG HL hw
  have c : w7.cell? ⟨g, 4, none⟩ = some (.int .i8 0) := hg.blk.cell 4 rfl
  have f := hg.blk.free 4
  have HG := Hd.mk ((hg.set 4 (.int .i8 1)).cast (cs' := #[.int .i8 x0, .int .i16 x1, .int .i8 x2, .int .i16 x3, .int .i8 1, .int .i8 0]) (by simp)); have HL := Hd.mk (hl.set (p := ⟨g, 4, none⟩) (.inr (by simp)) (.int .i8 1))
  clear hg hl
  go_wp2_with fail
  clear c f
  go_wp2_with fail
  have C := D_Int8 K 12 _ HG.out.d (by omega)
  rw [EC.out] at C
  with_reducible refine C.mono ?_
  rintro e w8 ⟨rfl, hw⟩
  clear C
  have hg : DecG K w8 13 g #[.int .i8 x0, .int .i16 x1, .int .i8 x2, .int .i16 x3, .int .i8 1, .int .i8 0] 54 := (HG.out.went hw)
  have hl := bel_of HL.out hw.2 (Nat.le_refl _) (fun x hx => by simp at hx ⊢; rcases hx with h | h <;> simp [h])
  clear HG HL hw
  have HG := Hd.mk hg; have HL := Hd.mk hl
  clear hg hl
  go_wp2_with fail
  have C := D_Int8 K 13 _ HG.out.d (by omega)
  rw [E5.out] at C
  with_reducible refine C.mono ?_
  rintro e w9 ⟨rfl, hw⟩
  clear C
  have hg : DecG K w9 14 g #[.int .i8 x0, .int .i16 x1, .int .i8 x2, .int .i16 x3, .int .i8 1, .int .i8 0] 54 := (HG.out.went hw)
  have hl := bel_of HL.out hw.2 (Nat.le_refl _) (fun x hx => by simp at hx ⊢; rcases hx with h | h <;> simp [h])
  clear HG HL hw
  have c : w9.cell? ⟨g, 5, none⟩ = some (.int .i8 0) := hg.blk.cell 5 rfl
  have f := hg.blk.free 5
  have HG := Hd.mk ((hg.set 5 (.int .i8 x5)).cast (cs' := #[.int .i8 x0, .int .i16 x1, .int .i8 x2, .int .i16 x3, .int .i8 1, .int .i8 x5]) (by simp)); have HL := Hd.mk (hl.set (p := ⟨g, 5, none⟩) (.inr (by simp)) (.int .i8 x5))
  clear hg hl
  go_wp2_with fail
  clear c f
  go_wp2_with fail
  with_reducible refine (D_Error K _ _ _ _ HG.out.d.b).mono ?_
  rintro e w' ⟨rfl, rfl⟩
  go_wp2
  go_ret
  exact ⟨rfl, HG.out, HL.out⟩
end Go.Proofs.YtnkengcajechbaaDoor.Kb
