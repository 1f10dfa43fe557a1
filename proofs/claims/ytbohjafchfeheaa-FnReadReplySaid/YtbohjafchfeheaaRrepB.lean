/- The reply to a request for a piece of a lob: the doors. -/
import Derived.Test.YtbohjafchfeheaaRrep
namespace Go.Proofs.Ytbohjafchfeheaa.Kb
open Go Go.RowKit
set_option linter.unusedVariables false
set_option linter.unusedSimpArgs false
set_option maxHeartbeats 1000000
/-- What ReadReplyOf answers. -/
def ReplyOut (w : World) (o : Int) (data : List Int) (e : Ending) (w' : World) : Prop := ∃ A c, e = .returned (.tuple #[.int .i64 o, .slice A data.length c, .int .i64 0]) ∧ Rd w' [] A data.length data ∧ Below w.heap.size w w'
/-- What ZzReadReply answers. -/
def ReplyR (w : World) (S : List Nat) (o : Int) (data : List Int) (last : Value) (K : DK) (e : Ending) (w' : World) : Prop :=
  ∃ A c, e = .returned (.tuple #[.int .i64 o, .slice A data.length c, last]) ∧ Rd w' [] A data.length data ∧ DecB K w' K.xs.length K.xs.length .nilIface ∧ (0 < data.length → ∃ g, A = some ⟨g, 0, none⟩ ∧ w.heap.size ≤ g) ∧ Bel w.heap.size S w w'
set_option maxRecDepth 100000 in
theorem zzReadReply (K : DK) (id o : Int) (data : List Int) (w : World) (h : Dec K w 0 .nilIface) (hlen : K.xs.length = 16 + data.length) (hd : data.length ≤ 1000) (e0 : K.num 0 8 = id) (e1 : IntKind.i8.wrap (K.num 8 1) = o) (e2 : wrap32 (K.num 9 4) = data.length) (hdr : K.xs.drop 16 = data) (o0 : -128 ≤ o ∧ o ≤ 127) :
    Calls Try.prog 48 #[.pointer (some ⟨K.d, 0, none⟩), .int .u64 id] w fun e w' => ReplyR w [K.d, K.sb] o data .nilIface K e w' := by
  have l1 := h.dlt; have l2 := h.slt
  have hb0 := (Below.refl w.heap.size w).alloc (Nat.le_refl _) (.cells (lobCells id 0 (.slice none 0 0)) 154)
  have hg0 := DecG.new h (lobCells id 0 (.slice none 0 0)) 154
  have hb1 : Below (w.alloc (.cells (lobCells id 0 (.slice none 0 0)) 154)).heap.size (w.alloc (.cells (lobCells id 0 (.slice none 0 0)) 154)) ((w.alloc (.cells (lobCells id 0 (.slice none 0 0)) 154)).alloc (.cells #[.pointer (some ⟨w.heap.size, 0, none⟩)] 156)) := (Below.refl _ _).alloc (Nat.le_refl _) _
  have hg1 := hg0.bel hb1
  have hR := Blk.new (w.alloc (.cells (lobCells id 0 (.slice none 0 0)) 154)) #[.pointer (some ⟨w.heap.size, 0, none⟩)] 156
  have C := Hd.mk (decodeReply K (w.heap.size + 1) w.heap.size id o data _ hg1 (by simpa using hR) (by omega) (by omega) (by omega) hlen hd e0 e1 e2 hdr)
  have HB := Hd.mk (hb0.trans (hb1.mono (by simp))); have HRR := Hd.mk hR; have L1 := Hd.mk l1; have L2 := Hd.mk l2
  obtain ⟨o1, o2⟩ := o0
  clear h hb0 hg0 hb1 hg1 hR hlen e0 e1 e2 hdr
  go_enter Try.func48, Try.ntmps48
  go_wp2_with fail
  with_reducible refine C.out.mono ?_
  rintro e w1 ⟨rfl, A, c, hL, hrd, hA, hdb, hb⟩
  have hR1 : Blk w1 (w.heap.size + 1) #[.pointer (some ⟨w.heap.size, 0, none⟩)] 156 := by
    have := HRR.out.bel hb HRR.out.lt (by have := L1.out; have := L2.out; simp; omega)
    simpa using this
  have c0 : w1.cell? ⟨w.heap.size + 1, 0, none⟩ = some (.pointer (some ⟨w.heap.size, 0, none⟩)) := hR1.cell 0 rfl
  have c2 : w1.cell? ⟨w.heap.size, 2, none⟩ = some (.int .i8 o) := hL.cell 2 rfl
  have c6 : w1.cell? ⟨w.heap.size, 6, none⟩ = some (.slice A data.length c) := hL.cell 6 rfl
  have HRD := Hd.mk hrd; have HDB := Hd.mk hdb; have HA := Hd.mk hA
  have HB2 := Hd.mk ((Bel.of (S := [K.d, K.sb]) HB.out).then hb (by simp; omega) (fun x hx hlt => by simp at hx ⊢; omega))
  clear hL hrd hA hdb hb hR1 C HB HRR
  go_wp2
  go_quiet (fail)
  go_wp2
  refine bodyPost_ret (v := .tuple #[.int .i64 o, .slice A data.length c, .nilIface]) (by simp [results, Try.results48, go_sem]) rfl ⟨A, c, rfl, HRD.out.below ((Bel.refl _ [] _).drewN _).to, HDB.out.bel (B := w1.heap.size) (S := []) ((Bel.refl _ [] _).drewN _) (by simp) (by simp), fun h => ?_, HB2.out.drewN _⟩
  obtain ⟨g, h1, h2⟩ := HA.out h
  simp at h2
  exact ⟨g, h1, by omega⟩
theorem catch_readReply (a0 a1 a2 : Value) (w : World) :
    CallsD Try.prog 47 #[a0, a1, a2] .returning w fun e u' w' => e = .returned (.tuple #[]) ∧ u' = .returning ∧ w' = w := by
  refine callsD_of_wpS Try.func47 rfl fun c₀ cs hu => ?_
  apply wpS_seq
  apply wpS_region
  simp [wpOpsS, go_sem, recoverD, hu, Try.ntmps47, Exit.thenS]
  refine wpS_cond (t := false) (by simp [Act.eval, Array.replicate]) ?_
  simp only [Bool.false_eq_true, if_false]
  refine wpS_of_wp (wp_skip ?_)
  cases c₀
  simp_all [bodyPostS, results, Try.results47]
theorem three_rr {W : World} {g : Nat} {a0 a1 a2 : Value} {t0 t1 t2 : TypeId} (v0 v1 v2 : Value) (q0 : Blk W (g) #[a0] t0) (q1 : Blk W (g + 1) #[a1] t1) (q2 : Blk W (g + 1 + 1) #[a2] t2) (w : World) (hg : w.heap.size ≤ g) (hb : Below w.heap.size w W)
    (V : World) (hV : V = (((W.setCell ⟨g, 0, none⟩ v0).setCell ⟨g + 1, 0, none⟩ v1).setCell ⟨g + 1 + 1, 0, none⟩ v2)) :
    V.cell? ⟨g, 0, none⟩ = some v0 ∧ V.cell? ⟨g + 1, 0, none⟩ = some v1 ∧ V.cell? ⟨g + 1 + 1, 0, none⟩ = some v2 ∧ Below w.heap.size w V ∧ (∀ G cs U, Blk W G cs U → G ≠ g → G ≠ g + 1 → G ≠ g + 1 + 1 → Blk V G cs U) ∧ Bel w.heap.size [] w V := by
  subst hV
  refine ⟨?_, ?_, ?_, (((hb.setCell (p := ⟨g, 0, none⟩) (by simp <;> omega) v0).setCell (p := ⟨g + 1, 0, none⟩) (by simp <;> omega) v1).setCell (p := ⟨g + 1 + 1, 0, none⟩) (by simp <;> omega) v2), ?_, Bel.of (((hb.setCell (p := ⟨g, 0, none⟩) (by simp <;> omega) v0).setCell (p := ⟨g + 1, 0, none⟩) (by simp <;> omega) v1).setCell (p := ⟨g + 1 + 1, 0, none⟩) (by simp <;> omega) v2)⟩
  · exact (((q0.set 0 v0).set_ne (p := ⟨g + 1, 0, none⟩) (by simp <;> omega) v1).set_ne (p := ⟨g + 1 + 1, 0, none⟩) (by simp <;> omega) v2).cell 0 rfl
  · exact (((q1.set_ne (p := ⟨g, 0, none⟩) (by simp <;> omega) v0).set 0 v1).set_ne (p := ⟨g + 1 + 1, 0, none⟩) (by simp <;> omega) v2).cell 0 rfl
  · exact (((q2.set_ne (p := ⟨g, 0, none⟩) (by simp <;> omega) v0).set_ne (p := ⟨g + 1, 0, none⟩) (by simp <;> omega) v1).set 0 v2).cell 0 rfl
  · intro G cs U h n0 n1 n2
    exact (((h.set_ne (p := ⟨g, 0, none⟩) (Ne.symm n0) v0).set_ne (p := ⟨g + 1, 0, none⟩) (Ne.symm n1) v1).set_ne (p := ⟨g + 1 + 1, 0, none⟩) (Ne.symm n2) v2)
set_option maxRecDepth 100000 in
theorem readReplyOf (A : Option Addr) (n c : Nat) (xs : List Int) (id o : Int) (data : List Int) (w : World) (hr : Rd w [] A n xs) (hn : n ≤ c) (hc : c ≤ maxLen) (hby : ∀ x ∈ xs, 0 ≤ x ∧ x < 256) (hlen : xs.length = 16 + data.length) (hd : data.length ≤ 1000) (e0 : numL xs 0 8 = id) (e1 : IntKind.i8.wrap (numL xs 8 1) = o) (e2 : wrap32 (numL xs 9 4) = data.length) (hdr : xs.drop 16 = data) (o0 : -128 ≤ o ∧ o ≤ 127) :
    Calls Try.prog 21 #[.slice A n c, .int .u64 id] w fun e w' => ReplyOut w o data e w' := by
  have hmf : ∀ (fn : Fn) (first cap : Array Value) (w : World), (Instr.makeFunc fn first cap).run Try.prog w = .ok (.func fn first cap) w := fun _ _ _ _ => rfl
  have hB : Below w.heap.size w (((w.alloc (.cells #[.int .i64 0] 3)).alloc (.cells #[.slice none 0 0] 23)).alloc (.cells #[.int .i64 0] 3)) := ((((Below.refl _ _).alloc (by simp <;> omega) _).alloc (by simp <;> omega) _).alloc (by simp <;> omega) _)
  have g0 := (((Blk.new w #[.int .i64 0] 3).alloc (.cells #[.slice none 0 0] 23)).alloc (.cells #[.int .i64 0] 3))
  have g1 := ((Blk.new (w.alloc (.cells #[.int .i64 0] 3)) #[.slice none 0 0] 23).alloc (.cells #[.int .i64 0] 3))
  have g2 := (Blk.new ((w.alloc (.cells #[.int .i64 0] 3)).alloc (.cells #[.slice none 0 0] 23)) #[.int .i64 0] 3)
  simp only [World.size_alloc] at g0 g1 g2
  have HB := Hd.mk hB; have G0 := Hd.mk g0; have G1 := Hd.mk g1; have G2 := Hd.mk g2
  have C := Hd.mk (decoder_new A n c xs false false _ (hr.below hB) hn hc hby)
  have HLEN := Hd.mk hlen; have E0 := Hd.mk e0; have E1 := Hd.mk e1; have E2 := Hd.mk e2; have HDR := Hd.mk hdr; have O0 := Hd.mk o0
  clear hr hn hc hby hlen e0 e1 e2 hdr o0 hB g0 g1 g2
  go_enter_defers Try.func21, Try.ntmps21
  go_wp2_with fail
  with_reducible refine C.out.mono ?_
  intro e w1 k1
  obtain ⟨K, rfl, k2, l1, l2, hd1, hb1⟩ := k1.to
  subst k2
  have C1 := Hd.mk (zzReadReply K id o data w1 hd1 HLEN.out hd E0.out E1.out E2.out HDR.out O0.out)
  have HL := Hd.mk hb1; have L1 := Hd.mk l1; have L2 := Hd.mk l2
  clear k1 l1 l2 hd1 hb1 C E0 E1 E2 HDR
  go_wp2_with fail
  with_reducible refine C1.out.mono ?_
  rintro e w2 ⟨A2, c2, rfl, hrd, hdb, hA, hb⟩
  have hs1 := HL.out.size
  have l1 := L1.out; have l2 := L2.out
  simp at hs1 l1 l2
  have hg0 := (G0.out.below HL.out (by simp <;> omega)).bel hb (by omega) (by simp; omega)
  have hg1 := (G1.out.below HL.out (by simp <;> omega)).bel hb (by omega) (by simp; omega)
  have hg2 := (G2.out.below HL.out (by simp <;> omega)).bel hb (by omega) (by simp; omega)
  have HB2 := Hd.mk (Bel.to' ((Bel.of (HB.out.trans (HL.out.mono (by simp; omega)))).trans (hb.weak (B' := w.heap.size) (by omega) (S' := [K.d, K.sb]) (fun x hx _ => hx))) (by simp; omega))
  have x0 : w2.cell? ⟨w.heap.size, 0, none⟩ = some (.int .i64 0) := hg0.cell 0 rfl; have f0 := hg0.free 0
  have x1 : w2.cell? ⟨w.heap.size + 1, 0, none⟩ = some (.slice none 0 0) := hg1.cell 0 rfl; have f1 := hg1.free 0
  have x2 : w2.cell? ⟨w.heap.size + 1 + 1, 0, none⟩ = some (.int .i64 0) := hg2.cell 0 rfl; have f2 := hg2.free 0
  have GG0 := Hd.mk hg0; have GG1 := Hd.mk hg1; have GG2 := Hd.mk hg2
  have HD := Hd.mk hdb; have HRD := Hd.mk hrd; have HA := Hd.mk hA
  clear hb hdb hrd hA hg0 hg1 hg2 HB HL G0 G1 G2 C1
  obtain ⟨W, hW⟩ : ∃ W, W = ((w2.setCell ⟨w.heap.size, 0, none⟩ (.int .i64 o)).setCell ⟨w.heap.size + 1, 0, none⟩ (.slice A2 data.length c2)) := ⟨_, rfl⟩
  have q0 : Blk W (w.heap.size) #[.int .i64 o] 3 := by
    rw [hW]
    exact ((GG0.out.set 0 (.int .i64 o)).set_ne (p := ⟨w.heap.size + 1, 0, none⟩) (by simp <;> omega) _).cast (by simp)
  have q1 : Blk W (w.heap.size + 1) #[.slice A2 data.length c2] 23 := by
    rw [hW]
    exact ((GG1.out.set_ne (p := ⟨w.heap.size, 0, none⟩) (by simp <;> omega) _).set 0 (.slice A2 data.length c2)).cast (by simp)
  have q2 : Blk W (w.heap.size + 1 + 1) #[.int .i64 0] 3 := by
    rw [hW]
    exact ((GG2.out.set_ne (p := ⟨w.heap.size, 0, none⟩) (by simp <;> omega) _).set_ne (p := ⟨w.heap.size + 1, 0, none⟩) (by simp <;> omega) _).cast (by simp)
  have hbl : Below w.heap.size w W := by
    rw [hW]
    exact ((HB2.out.setCell (p := ⟨w.heap.size, 0, none⟩) (by simp <;> omega) _).setCell (p := ⟨w.heap.size + 1, 0, none⟩) (by simp <;> omega) _)
  have q4 := (HD.out.blk.set_ne (p := ⟨w.heap.size, 0, none⟩) (by simp <;> omega) (.int .i64 o)).set_ne (p := ⟨w.heap.size + 1, 0, none⟩) (by simp <;> omega) (.slice A2 data.length c2)
  rw [← hW] at q4
  have hrd : Rd W [] A2 data.length data := by
    rw [hW]
    exact HRD.out.keep HA.out (S := [w.heap.size, w.heap.size + 1]) (((Bel.refl _ _ _).set (.inr (by simp)) _).set (.inr (by simp)) _) (by simp; omega)
  have C2 := Hd.mk (err_blk K.d .nilIface _ rfl W q4)
  have Q0 := Hd.mk q0; have Q1 := Hd.mk q1; have Q2 := Hd.mk q2; have HBL := Hd.mk hbl; have HRD2 := Hd.mk hrd
  clear GG0 GG1 GG2 HD HB2 q4 hbl hrd HRD
  go_wp2_with fail
  rw [← hW]
  clear hW x0 x1 x2 f0 f1 f2
  with_reducible refine C2.out.mono ?_
  rintro e w3 ⟨rfl, rfl⟩
  have x0 : W.cell? ⟨w.heap.size, 0, none⟩ = some (.int .i64 o) := q0.cell 0 rfl; have f0 := q0.free 0
  have x1 : W.cell? ⟨w.heap.size + 1, 0, none⟩ = some (.slice A2 data.length c2) := q1.cell 0 rfl; have f1 := q1.free 0
  have x2 : W.cell? ⟨w.heap.size + 1 + 1, 0, none⟩ = some (.int .i64 0) := q2.cell 0 rfl; have f2 := q2.free 0
  clear q0 q1 q2 C2
  go_wp2
  go_region
  all_goals
    go_wp2
    obtain ⟨V, hV⟩ : ∃ V, V = ((W.setCell ⟨w.heap.size, 0, none⟩ (.int .i64 o)).setCell ⟨w.heap.size + 1, 0, none⟩ (.slice A2 data.length c2)).setCell ⟨w.heap.size + 1 + 1, 0, none⟩ (.int .i64 0) := ⟨_, rfl⟩
    rw [← hV]
    obtain ⟨y0, y1, y2, hbl, _, _⟩ := three_rr _ _ _ Q0.out Q1.out Q2.out w (Nat.le_refl _) HBL.out V hV
    have hrd : Rd V [] A2 data.length data := by
      rw [hV]
      exact HRD2.out.keep HA.out (S := [w.heap.size, w.heap.size + 1, w.heap.size + 1 + 1]) ((((Bel.refl _ _ _).set (.inr (by simp)) _).set (.inr (by simp)) _).set (.inr (by simp)) _) (by simp; omega)
    clear hV
    refine leaves_cons (f := 47) (args := #[.pointer (some ⟨w.heap.size, 0, none⟩), .pointer (some ⟨w.heap.size + 1, 0, none⟩), .pointer (some ⟨w.heap.size + 1 + 1, 0, none⟩)]) (by simp) (by simp [go_sem]) ?_
    refine (catch_readReply _ _ _ _).mono ?_
    rintro e u' w'' ⟨rfl, rfl, rfl⟩
    simp [Leaves, settle, results, Try.results21, go_sem, y0, y1, y2]
    exact ⟨A2, c2, rfl, hrd.below (Below.refl _ _).drew, hbl.drew⟩
end Go.Proofs.Ytbohjafchfeheaa.Kb
