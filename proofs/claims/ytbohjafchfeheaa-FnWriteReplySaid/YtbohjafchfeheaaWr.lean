/- Numbers of eight bytes, read into a slice: what FnWriteReply's walk reads. -/
import Derived.Test.YtbohjafchfeheaaAffB
namespace Go.Proofs.Ytbohjafchfeheaa.Kb
open Go Go.RowKit
set_option linter.unusedVariables false
set_option linter.unusedSimpArgs false
set_option maxHeartbeats 1000000
theorem infoID : (Try.prog.info? 130).map (fun i => (i.zero, i.size, i.bytes)) = some (some (.int .u64 0), 1, 8) := by kernel_rfl
/-- What resizeSlice makes of nothing. -/
def RoomU (w : World) (n : Nat) (e : Ending) (w' : World) : Prop := e = .returned (.slice (some ⟨w.heap.size, 0, none⟩) n n) ∧ Blk w' w.heap.size (zs n (.int .u64 0)).toArray 130 ∧ Below w.heap.size w w' ∧ w'.heap.size = w.heap.size + 1
set_option maxRecDepth 100000 in
theorem resize64 (n : Nat) (m : Int) (hm : m = n) (hn : n ≤ 100000) (w : World) :
    Calls Try.prog 92 #[.slice none 0 0, .int .i64 m] w fun e w' => RoomU w n e w' := by
  subst hm
  have q1 : ∀ (w : World) (a : Option Addr) (n c n' c' : Nat), (binOp .eql 126 (.slice a n c) (.slice none n' c')).run Try.prog w = .ok (.bool a.isNone) w := fun w a n c n' c' => Lib.run_eql_slice_nil w _ _ a n c n' c' Try.underlying126
  go_enter Try.func92, Try.ntmps92
  go_wp2_with (refine wpList_make_z rfl _ _ 126 rfl 130 (.int .u64 0) 8 Try.underlying126 infoID rfl .i64 .i64 _ _ n rfl rfl rfl rfl (by omega) (by omega) ?_)
  intro w1 hb hl hs
  have H := Hd.mk (And.intro hb (And.intro hl hs))
  clear hb hl hs
  go_wp2
  go_ret
  exact ⟨rfl, H.out.1, H.out.2.1, H.out.2.2⟩
/-- The numbers that have been read stand in the row. -/
def GotU (cs : Array Value) (ns : List Int) (i : Nat) : Prop := cs.size = ns.length ∧ ∀ j (h : j < ns.length), cs[j]? = some (.int .u64 (if j < i then ns[j] else 0))
theorem GotU.set {cs : Array Value} {ns : List Int} {i : Nat} (h : GotU cs ns i) (hi : i < ns.length) : GotU (cs.setIfInBounds i (.int .u64 ns[i])) ns (i + 1) := by
  obtain ⟨h1, h2⟩ := h
  refine ⟨by simpa using h1, fun j hj => ?_⟩
  rw [Array.getElem?_setIfInBounds]
  by_cases e : i = j
  · subst e; simp [h1, hi]
  · rw [if_neg e, h2 j hj]
    by_cases k : j < i
    · rw [if_pos k, if_pos (by omega)]
    · rw [if_neg k, if_neg (by omega)]
/-- What decodeNumArg leaves. -/
def NumsU (K : DK) (w : World) (R : Nat) (ns : List Int) (e : Ending) (w' : World) : Prop :=
  e = .returned .nilIface ∧ ∃ G cs, Blk w' R #[.slice (some ⟨G, 0, none⟩) ns.length ns.length] 128 ∧ Blk w' G cs 130 ∧ GotU cs ns ns.length ∧ w.heap.size ≤ G ∧ Bel w.heap.size [K.d, K.sb, R] w w'
set_option maxRecDepth 100000 in
theorem decodeIds (K : DK) (R : Nat) (ns : List Int) (m : Int) (hm : m = ns.length) (w : World) (h : DecG K w 0 R #[.slice none 0 0] 128) (fit : 8 * ns.length ≤ K.xs.length) (hn : ns.length ≤ 1000)
    (hx : ∀ i (hi : i < ns.length), K.num (8 * i) 8 = ns[i]) :
    Calls Try.prog 66 #[.pointer (some ⟨R, 0, none⟩), .pointer (some ⟨K.d, 0, none⟩), .int .i64 m] w fun e w' => NumsU K w R ns e w' := by
  have c0 : w.cell? ⟨R, 0, none⟩ = some (.slice none 0 0) := h.blk.cell 0 rfl
  have H := Hd.mk h; have HX := Hd.mk hx; have FIT := Hd.mk fit
  have hlt := h.blk.lt
  subst hm
  clear h hx fit
  go_enter Try.func66, Try.ntmps66
  go_wp2_with fail
  with_reducible refine (resize64 ns.length _ rfl (by omega) _).mono ?_
  rintro e w1 ⟨rfl, hb, hl, hs⟩
  have T0 := Hd.mk (Two.new H.out hl hb)
  have HB := Hd.mk (Bel.of (S := [K.d, K.sb, R]) hl)
  have d0 : w1.cell? ⟨R, 0, none⟩ = some (.slice none 0 0) := T0.out.bR.cell 0 rfl
  have g0 := T0.out.bR.free 0
  clear hb hl c0
  go_wp2
  go_loopw [7] (fun i wr => ∃ k : Nat, k ≤ ns.length ∧ i = .int .i64 k ∧ ∃ cs, Two K wr (8 * k) R w.heap.size (.slice (some ⟨w.heap.size, 0, none⟩) ns.length ns.length) cs 128 130 ∧ GotU cs ns k ∧ Bel w.heap.size [K.d, K.sb, R] w wr) (fun i _ => ns.length - (intOf i).toNat)
  case atStart =>
    refine ⟨0, by omega, rfl, _, T0.out.setR _, ⟨by simp [zs_len], fun j hj => ?_⟩, HB.out.set (.inr (by simp)) _⟩
    rw [zs_get _ _ _ hj, if_neg (by omega)]
  case round =>
    obtain ⟨k, hk, rfl, cs, ht, hg, hb⟩ := hrel
    by_cases hlt : k < ns.length
    · have c0 : wr.cell? ⟨R, 0, none⟩ = some (.slice (some ⟨w.heap.size, 0, none⟩) ns.length ns.length) := ht.bR.cell 0 rfl
      have C := D_Uint64 K (8 * k) wr.drew ht.d.drew (by have := FIT.out; omega)
      rw [HX.out k hlt] at C
      have hgk : cs[k]? = some (.int .u64 0) := by rw [hg.2 k hlt, if_neg (by omega)]
      have HGS := Hd.mk (hg.set hlt)
      have HT := Hd.mk ht.drew1; have HBW := Hd.mk hb.drew; have HK := Hd.mk hgk
      generalize ns[k] = y at *
      have C := Hd.mk C
      clear ht hg hb hgk
      go_wp2
      go_region_with (go_at_call 93; (with_reducible refine C.out.mono ?_); rintro e w2 ⟨rfl, hw⟩; have HT2 := Hd.mk (HT.out.went hw); have HB2 := Hd.mk hw.2; have e0 : w2.cell? ⟨R, 0, none⟩ = some (.slice (some ⟨w.heap.size, 0, none⟩) ns.length ns.length) := HT2.out.bR.cell 0 rfl; have e1 : w2.cell? ⟨w.heap.size, k, none⟩ = some (.int .u64 0) := HT2.out.bG.cell k HK.out; have f1 := HT2.out.bG.free k; clear hw)
      all_goals
        go_wp2
        go_roundw
        case rel =>
          refine ⟨k + 1, by omega, by go_num, _, HT2.out.set k _, HGS.out, ?_⟩
          exact ((HBW.out.then HB2.out HBW.out.size (fun x hx _ => by simp at hx ⊢; rcases hx with h | h <;> simp [h])).set (.inl (by simp)) _)
        case measure => simp [intOf]; omega
    · obtain rfl : k = ns.length := by omega
      have C := Hd.mk (D_Error K _ _ .nilIface wr ht.d.b)
      have HT := Hd.mk ht; have HG := Hd.mk hg; have HBW := Hd.mk hb
      clear ht hg hb
      go_wp2_with fail
      with_reducible refine C.out.mono ?_
      rintro e w2 ⟨rfl, rfl⟩
      go_wp2
      go_ret
      exact ⟨rfl, _, _, HT.out.bR, HT.out.bG, HG.out, Nat.le_refl _, HBW.out⟩
theorem infoU64 : (Try.prog.info? 24).map (fun i => (i.zero, i.size, i.bytes)) = some (some (.int .u64 0), 1, 8) := by kernel_rfl
/-- Cells of numbers. -/
abbrev uc (xs : List Int) : List Value := xs.map (Value.int .u64)
/-- What the reading of the ids answers: a new row of them. -/
def IdsR (w : World) (S : List Nat) (ns : List Int) (last : Value) (e : Ending) (w' : World) : Prop :=
  ∃ v, e = .returned (.tuple #[v, last]) ∧ w'.ownsRow w.heap.size 24 1 v ns.length (uc ns) ∧ Bel w.heap.size S w w'
set_option maxRecDepth 100000 in
theorem zzWriteReply (K : DK) (ns : List Int) (m : Int) (hm : m = ns.length) (w : World) (h : Dec K w 0 .nilIface) (fit : 8 * ns.length ≤ K.xs.length) (hn : ns.length ≤ 1000)
    (hx : ∀ i (hi : i < ns.length), K.num (8 * i) 8 = ns[i]) :
    Calls Try.prog 37 #[.pointer (some ⟨K.d, 0, none⟩), .int .i64 m] w fun e w' => IdsR w [K.d, K.sb] ns .nilIface e w' := by
  obtain ⟨i0, hi, hz0, hz1, hz2⟩ := info_of infoU64
  have I := Hd.mk (And.intro hi (And.intro hz0 (And.intro hz1 hz2)))
  have hb := (Below.refl w.heap.size w).alloc (Nat.le_refl _) (.cells #[.slice none 0 0] 128)
  have C := Hd.mk (decodeIds K w.heap.size ns m hm _ (DecG.new h #[.slice none 0 0] 128) fit hn hx)
  have HB := Hd.mk hb
  clear h fit hx hb hm hi hz0 hz1 hz2
  go_enter Try.func37, Try.ntmps37
  go_wp2_with fail
  with_reducible refine C.out.mono ?_
  rintro e w1 ⟨rfl, G, cs, hR, hG, hg, hge, hb⟩
  have c0 : w1.cell? ⟨w.heap.size, 0, none⟩ = some (.slice (some ⟨G, 0, none⟩) ns.length ns.length) := hR.cell 0 rfl
  have HG := Hd.mk hG; have HGot := Hd.mk hg; have HGE := Hd.mk hge
  have HB2 := Hd.mk ((Bel.of (S := [K.d, K.sb]) HB.out).then hb (by simp) (fun x hx hlt => by simp at hx ⊢; rcases hx with h | h | h <;> simp [h]; omega))
  clear hR hG hg hge hb C HB
  go_wp2
  go_loopw [8, 22] (fun v i wr => ∃ k : Nat, k ≤ ns.length ∧ i = .int .i64 k ∧ wr.ownsRow w1.heap.size 24 1 v k (uc (ns.take k)) ∧ Below w1.heap.size w1 wr) (fun _ i _ => ns.length - (intOf i).toNat)
  case atStart => exact ⟨0, by omega, rfl, by simpa using World.ownsRow_nil _ _ _ _, Below.refl _ _⟩
  case round =>
    obtain ⟨k, hk, rfl, hown, hbl⟩ := hrel
    by_cases hlt : k < ns.length
    · have c1 : wr.cell? ⟨G, k, none⟩ = some (.int .u64 ns[k]) := (HG.out.below hbl HG.out.lt).cell k (by rw [HGot.out.2 k hlt, if_pos hlt])
      have ets : uc (ns.take (k + 1)) = uc (ns.take k) ++ [.int .u64 ns[k]] := by
        show List.map _ (ns.take (k + 1)) = _
        rw [List.take_succ_eq_append_getElem hlt, List.map_append]
        rfl
      have EB := Hd.mk ets; have HB3 := Hd.mk hbl; have HO := Hd.mk hown
      have HL := Hd.mk (show (uc (ns.take k)).length = k by simp; omega)
      generalize ns[k] = x at *
      generalize uc (ns.take k) = R at *
      have hb4 : Below w1.heap.size w1 (wr.alloc (.cells #[.int .u64 x] 24)) := hbl.alloc hbl.size _
      have hown1 := hown.alloc (.cells #[.int .u64 x] 24)
      have hnew := Blk.new wr #[.int .u64 x] 24
      have HB4 := Hd.mk hb4; have HN := Hd.mk hnew
      clear ets hbl hown hb4 hnew
      go_wp2_with (at_builtin; refine wpList_append_own _ rfl _ _ 22 rfl w1.heap.size 24 i0 (.int .u64 0) 1 8 Try.underlying22 I.out.1 I.out.2.1 I.out.2.2.1 I.out.2.2.2 rfl (by decide) _ _ _ rfl hown1 ⟨wr.heap.size, 0, none⟩ 1 1 [.int .u64 x] rfl ?c0 ?c1 ?c2 ?c3 ?c4 ?c5 ?_)
      case c0 => rfl
      case c1 =>
        intro j u hu
        exact HN.out.cellz j (by simpa using hu)
      case c2 =>
        intro u hu
        simp at hu
        subst hu
        rfl
      case c3 => unfold maxLen; omega
      case c4 => omega
      case c5 => exact HB4.out.size
      intro v' w2 hown' hgrow _
      have HO2 := Hd.mk hown'
      have HB5 := Hd.mk (HB4.out.grown hgrow HB4.out.size (fun k hk => (hown1.lt k hk).1))
      clear hown' hgrow hown1 c1
      go_wp2
      go_roundw
      case rel =>
        refine ⟨k + 1, by omega, by go_num, ?_, HB5.out⟩
        rw [EB.out]
        exact HO2.out
      case measure => simp [intOf]; omega
    · obtain rfl : k = ns.length := by omega
      go_wp2
      rw [List.take_length] at hown
      refine bodyPost_ret (v := .tuple #[_, .nilIface]) (by simp [results, Try.results37, go_sem]) rfl ⟨_, rfl, own_base hown HB2.out.size, HB2.out.trans (Bel.of (hbl.mono HB2.out.size))⟩
theorem catch_writeReply (a b : Value) (w : World) :
    CallsD Try.prog 36 #[a, b] .returning w fun e u' w' => e = .returned (.tuple #[]) ∧ u' = .returning ∧ w' = w := by
  refine callsD_of_wpS Try.func36 rfl fun c₀ cs hu => ?_
  apply wpS_seq
  apply wpS_region
  simp [wpOpsS, go_sem, recoverD, hu, Try.ntmps36, Exit.thenS]
  refine wpS_cond (t := false) (by simp [Act.eval, Array.replicate]) ?_
  simp only [Bool.false_eq_true, if_false]
  refine wpS_of_wp (wp_skip ?_)
  cases c₀
  simp_all [bodyPostS, results, Try.results36]
theorem two {W : World} {g B : Nat} {a0 a1 : Value} {t0 t1 : TypeId} (v0 v1 : Value) (q0 : Blk W g #[a0] t0) (q1 : Blk W (g + 1) #[a1] t1) (w : World) (hg : w.heap.size ≤ g) (hb : Below w.heap.size w W)
    (V : World) (hV : V = (W.setCell ⟨g, 0, none⟩ v0).setCell ⟨g + 1, 0, none⟩ v1) {e : TypeId} {z n : Nat} {v : Value} {xs : List Value} (ho : W.ownsRow B e z v n xs) (hB : g + 1 < B) :
    V.cell? ⟨g, 0, none⟩ = some v0 ∧ V.cell? ⟨g + 1, 0, none⟩ = some v1 ∧ Below w.heap.size w V ∧ V.ownsRow B e z v n xs := by
  subst hV
  refine ⟨?_, ?_, ?_, ?_⟩
  · exact ((q0.set 0 v0).set_ne (p := ⟨g + 1, 0, none⟩) (by simp <;> omega) v1).cell 0 rfl
  · exact ((q1.set_ne (p := ⟨g, 0, none⟩) (by simp <;> omega) v0).set 0 v1).cell 0 rfl
  · exact (hb.setCell (p := ⟨g, 0, none⟩) hg v0).setCell (p := ⟨g + 1, 0, none⟩) (by simp <;> omega) v1
  · exact ownsRow_setCell_below (ownsRow_setCell_below ho (a := ⟨g, 0, none⟩) (by simp; omega) v0) (a := ⟨g + 1, 0, none⟩) hB v1
set_option maxRecDepth 100000 in
theorem writeReplyOf (A : Option Addr) (n c : Nat) (xs ns : List Int) (m : Int) (hm : m = ns.length) (w : World) (hr : Rd w [] A n xs) (hn : n ≤ c) (hc : c ≤ maxLen) (hby : ∀ x ∈ xs, 0 ≤ x ∧ x < 256) (fit : 8 * ns.length ≤ xs.length) (hn1 : ns.length ≤ 100)
    (hx : ∀ i (hi : i < ns.length), numL xs (8 * i) 8 = ns[i]) :
    Calls Try.prog 15 #[.slice A n c, .int .i64 m] w fun e w' => IdsR w [] ns (.int .i64 0) e w' := by
  have hmf : ∀ (fn : Fn) (first cap : Array Value) (w : World), (Instr.makeFunc fn first cap).run Try.prog w = .ok (.func fn first cap) w := fun _ _ _ _ => rfl
  have hB : Below w.heap.size w ((w.alloc (.cells #[.slice none 0 0] 22)).alloc (.cells #[.int .i64 0] 3)) := ((Below.refl _ _).alloc (Nat.le_refl _) _).alloc (by simp) _
  have g0 := (Blk.new w #[.slice none 0 0] 22).alloc (.cells #[.int .i64 0] 3)
  have g1 := Blk.new (w.alloc (.cells #[.slice none 0 0] 22)) #[.int .i64 0] 3
  simp only [World.size_alloc] at g0 g1
  have C := Hd.mk (decoder_new A n c xs false false _ (hr.below hB) hn hc hby)
  have hm0 : ¬ m < 0 := by omega
  have hm1 : ¬ 100 < m := by omega
  have HB := Hd.mk hB; have G0 := Hd.mk g0; have G1 := Hd.mk g1; have HX := Hd.mk hx; have FIT := Hd.mk fit; have HM := Hd.mk hm
  clear hr hn hc hby hB g0 g1 hx fit hm
  go_enter_defers Try.func15, Try.ntmps15
  go_wp2_with fail
  with_reducible refine C.out.mono ?_
  intro e w1 k1
  obtain ⟨K, rfl, k2, l1, l2, hd, hb1⟩ := k1.to
  subst k2
  have C1 := Hd.mk (zzWriteReply K ns m HM.out w1 hd FIT.out (by omega) HX.out)
  have HL := Hd.mk hb1; have L1 := Hd.mk l1; have L2 := Hd.mk l2
  clear k1 l1 l2 hd hb1 C HX FIT
  go_wp2_with fail
  with_reducible refine C1.out.mono ?_
  rintro e w2 ⟨v, rfl, hown, hb⟩
  obtain ⟨A2, n2, c2, rfl⟩ := own_slice hown
  have hs1 := HL.out.size
  have l1 := L1.out; have l2 := L2.out
  simp at hs1 l1 l2
  have hg0 := (G0.out.below HL.out (by simp <;> omega)).bel hb (by omega) (by simp; omega)
  have hg1 := (G1.out.below HL.out (by simp <;> omega)).bel hb (by omega) (by simp; omega)
  have HB2 := Hd.mk (Bel.to' ((Bel.of (HB.out.trans (HL.out.mono (by simp; omega)))).trans (hb.weak (B' := w.heap.size) (by omega) (S' := [K.d, K.sb]) (fun x hx _ => hx))) (by simp; omega))
  have x0 : w2.cell? ⟨w.heap.size, 0, none⟩ = some (.slice none 0 0) := hg0.cell 0 rfl
  have x1 : w2.cell? ⟨w.heap.size + 1, 0, none⟩ = some (.int .i64 0) := hg1.cell 0 rfl
  have f0 := hg0.free 0; have f1 := hg1.free 0
  have G0' := Hd.mk hg0; have G1' := Hd.mk hg1; have HO := Hd.mk hown
  clear hb hg0 hg1 HB HL G0 G1 C1 hown
  go_wp2
  obtain ⟨V, hV⟩ : ∃ V, V = ((w2.setCell ⟨w.heap.size, 0, none⟩ (.slice A2 n2 c2)).setCell ⟨w.heap.size, 0, none⟩ (.slice A2 n2 c2)).setCell ⟨w.heap.size + 1, 0, none⟩ (.int .i64 0) := ⟨_, rfl⟩
  rw [← hV]
  obtain ⟨y0, y1, hbl, ho⟩ := two _ _ ((G0'.out.set 0 (.slice A2 n2 c2)).cast (cs' := #[.slice A2 n2 c2]) (by simp)) (G1'.out.set_ne (p := ⟨w.heap.size, 0, none⟩) (by simp <;> omega) (.slice A2 n2 c2)) w (Nat.le_refl _) (HB2.out.setCell (p := ⟨w.heap.size, 0, none⟩) (by simp) (.slice A2 n2 c2)) V hV (ownsRow_setCell_below HO.out (a := ⟨w.heap.size, 0, none⟩) (by simp; omega) (.slice A2 n2 c2)) (by omega)
  clear hV
  refine leaves_cons (f := 36) (args := #[.pointer (some ⟨w.heap.size, 0, none⟩), .pointer (some ⟨w.heap.size + 1, 0, none⟩)]) (by simp) (by simp [go_sem]) ?_
  refine (catch_writeReply _ _ _).mono ?_
  rintro e u' w'' ⟨rfl, rfl, rfl⟩
  simp [Leaves, settle, results, Try.results15, go_sem, y0, y1]
  exact ⟨_, rfl, own_base ho (by omega), Bel.of hbl⟩
end Go.Proofs.Ytbohjafchfeheaa.Kb
