/- The reply to a request for a piece of a lob, read: what FnReadReply's walk reads. -/
import Derived.Test.YtbohjafchfeheaaAffB
import Derived.Test.YtbohjafchfeheaaZero
namespace Go.Proofs.Ytbohjafchfeheaa.Kb
open Go Go.RowKit
set_option linter.unusedVariables false
set_option linter.unusedSimpArgs false
set_option maxHeartbeats 1000000
/-- What slices.Grow makes of nothing. -/
def GrownTo (w : World) (n : Nat) (e : Ending) (w' : World) : Prop :=
  ∃ A c, e = .returned (.slice A 0 c) ∧ n ≤ c ∧ c ≤ maxLen ∧ (0 < n → A = some ⟨w.heap.size, 0, none⟩ ∧ ∃ cs : List Value, cs.length = c ∧ Blk w' w.heap.size cs.toArray 5) ∧ Below w.heap.size w w'
set_option maxRecDepth 100000 in
theorem growNil (n : Nat) (m : Int) (hm : m = n) (hn : n ≤ 1000000) (w : World) :
    Calls Try.prog 103 #[.slice none 0 0, .int .i64 m] w fun e w' => GrownTo w n e w' := by
  subst hm
  by_cases h0 : n = 0
  · subst h0
    go_enter Try.func103, Try.ntmps103
    go_wp2
    go_ret
    exact ⟨none, 0, rfl, Nat.le_refl _, by decide, fun h => absurd h (by decide), Below.refl _ _⟩
  · obtain ⟨j0, hj0, hj1, hj2, hj3⟩ := info_of infoB
    have hr := fun ty => Lib.run_append_nil_zeros (P := Try.prog) w 23 3 ty 5 j0 (.int .u8 0) .i64 .i64 Try.underlying23 Try.underlying3 hj0 hj1 n (by omega) (by omega) (by omega) (by rw [hj3]; omega)
    have hG1 := grownCap_ge w n 0 5
    have hG2 := grownCap_le_maxLen w n 0 5 (by unfold maxLen; omega)
    generalize grownCap w n 0 5 = G at *
    have HR := Hd.mk hr; have HG2 := Hd.mk hG2
    unfold maxLen at hG2
    have hp : 0 < (n : Int) := by omega
    clear hr hj0 hj1 hj2 hj3
    go_enter Try.func103, Try.ntmps103
    go_wp2_with (at_builtin; refine Lib.wpList_append_run _ rfl _ _ _ _ rfl _ _ rfl rfl _ _ (HR.out _) ?_)
    go_ret
    refine ⟨_, G, rfl, hG1, HG2.out, fun _ => ⟨rfl, (Builtin.zeroCells #[.int .u8 0] n ++ Builtin.zeroCells #[.int .u8 0] (G - n)).toList, ?_, ?_⟩, ((Below.refl _ _).drew.alloc (by simp) _)⟩
    · rw [Array.toList_append, toList_zeroCells, toList_zeroCells]; simp; omega
    · exact (Blk.new w.drew _ _).cast (by simp)
/-- What is read stays across writes to lower blocks. -/
theorem Rd.keep {w w' : World} {S : List Nat} {A : Option Addr} {n B : Nat} {xs : List Int} (h : Rd w [] A n xs) (hA : 0 < n → ∃ g, A = some ⟨g, 0, none⟩ ∧ B ≤ g) (hb : Bel w.heap.size S w w') (hS : ∀ x ∈ S, x < B) : Rd w' [] A n xs := by
  refine ⟨h.len, h.small, fun j hj => ?_⟩
  obtain ⟨ad, h1, h2, h3, h4⟩ := h.at_ j hj
  obtain ⟨g, rfl, hg⟩ := hA (by rw [← h.len]; omega)
  cases h1
  refine ⟨_, rfl, ?_, Nat.lt_of_lt_of_le h3 hb.size, by simp⟩
  rw [hb.cell (p := (⟨g, 0, none⟩ : Addr).add j) (by rw [add_block]; exact h3) (by rw [add_block]; intro hm; exact Nat.not_lt.2 hg (hS _ hm))]
  exact h2
/-- A reply as it is read: the descriptor's block. -/
abbrev lobCells (id o : Int) (v : Value) : Array Value := #[.nilIface, .int .i8 0, .int .i8 o, .int .i64 0, .int .i64 0, .int .u64 id, v]
/-- What the reading of a reply leaves. -/
def Replied (K : DK) (w : World) (R L : Nat) (id o : Int) (data : List Int) (e : Ending) (w' : World) : Prop :=
  e = .returned .nilIface ∧ ∃ A c, Blk w' L (lobCells id o (.slice A data.length c)) 154 ∧ Rd w' [] A data.length data ∧ (0 < data.length → ∃ g, A = some ⟨g, 0, none⟩ ∧ w.heap.size ≤ g) ∧ DecB K w' K.xs.length K.xs.length .nilIface ∧ Bel w.heap.size [K.d, K.sb, L] w w'
set_option maxRecDepth 100000 in
theorem decodeReply (K : DK) (R L : Nat) (id o : Int) (data : List Int) (w : World) (h : DecG K w 0 L (lobCells id 0 (.slice none 0 0)) 154) (hR : Blk w R #[.pointer (some ⟨L, 0, none⟩)] 156) (r1 : R ≠ K.d) (r2 : R ≠ K.sb) (r3 : R ≠ L)
    (hlen : K.xs.length = 16 + data.length) (hd : data.length ≤ 1000) (e0 : K.num 0 8 = id) (e1 : IntKind.i8.wrap (K.num 8 1) = o) (e2 : wrap32 (K.num 9 4) = data.length) (hdr : K.xs.drop 16 = data) :
    Calls Try.prog 74 #[.pointer (some ⟨R, 0, none⟩), .pointer (some ⟨K.d, 0, none⟩), .int .i64 1] w fun e w' => Replied K w R L id o data e w' := by
  have C := Hd.mk (D_Uint64 K 0 w h.d (by omega))
  rw [e0] at C
  have H := Hd.mk h; have HR := Hd.mk hR; have HLEN := Hd.mk hlen; have E1 := Hd.mk e1; have E2 := Hd.mk e2; have HDR := Hd.mk hdr
  clear h hR hlen e0 e1 e2 hdr
  go_enter Try.func74, Try.ntmps74
  go_wp2_with fail
  with_reducible refine C.out.mono ?_
  rintro e w1 ⟨rfl, hw⟩
  have H1 := Hd.mk (H.out.went hw); have HR1 := Hd.mk (HR.out.bel hw.2 HR.out.lt (by simp [r1, r2])); have B1 := Hd.mk hw.2
  have c0 : w1.cell? ⟨R, 0, none⟩ = some (.pointer (some ⟨L, 0, none⟩)) := HR1.out.cell 0 rfl
  have c5 : w1.cell? ⟨L, 5, none⟩ = some (.int .u64 id) := H1.out.blk.cell 5 rfl
  have C2 := D_Int8 K (0 + 8) w1.drew H1.out.d.drew (by have := HLEN.out; omega)
  rw [show IntKind.i8.wrap (K.num (0 + 8) 1) = o from E1.out] at C2
  have C2 := Hd.mk C2
  clear hw C
  go_wp2_with fail
  go_region_with (go_at_call 98; (with_reducible refine C2.out.mono ?_); rintro e w2 ⟨rfl, hw⟩; have H2 := Hd.mk ((H1.out.bel (Below.refl _ _).drew).went hw); have HR2 := Hd.mk (HR1.out.drew.bel hw.2 HR1.out.lt (by simp [r1, r2])); have B2 := Hd.mk (hw.2); have d0 : w2.cell? ⟨R, 0, none⟩ = some (.pointer (some ⟨L, 0, none⟩)) := HR2.out.cell 0 rfl; have d2 : w2.cell? ⟨L, 2, none⟩ = some (.int .i8 0) := H2.out.blk.cell 2 rfl; have f2 := H2.out.blk.free 2; clear hw)
  all_goals
    go_wp2_with fail
    obtain ⟨W, hW⟩ : ∃ W, W = w2.setCell ⟨L, 2, none⟩ (.int .i8 o) := ⟨_, rfl⟩
    rw [← hW]
    have h3 : DecG K W 9 L (lobCells id o (.slice none 0 0)) 154 := by
      rw [hW]
      exact (H2.out.set 2 (.int .i8 o)).cast (by simp)
    have hR3 : Blk W R #[.pointer (some ⟨L, 0, none⟩)] 156 := by
      rw [hW]
      exact HR2.out.set_ne (p := ⟨L, 2, none⟩) (Ne.symm r3) _
    have hb3 : Bel w.heap.size [K.d, K.sb, L] w W := by
      rw [hW]
      refine Bel.set ?_ (.inr (by simp)) _
      exact ((B1.out.weak (Nat.le_refl _) (fun x hx _ => by simp at hx ⊢; rcases hx with h | h <;> simp [h])).drew).then B2.out B1.out.size (fun x hx _ => by simp at hx ⊢; rcases hx with h | h <;> simp [h])
    clear hW d0 d2 f2 c0 c5
    have C3 := D_Int32 K 9 W h3.d (by have := HLEN.out; omega)
    rw [E2.out] at C3
    have C3 := Hd.mk C3
    have H3 := Hd.mk h3; have HR3 := Hd.mk hR3; have B3 := Hd.mk hb3
    clear h3 hR3 hb3 H1 HR1 B1 H2 HR2 B2 H HR C2
    with_reducible refine C3.out.mono ?_
    rintro e w3 ⟨rfl, hw⟩
    have h4 := H3.out.went hw
    have C4 := Hd.mk (D_ZzRoom K 13 13 .nilIface w3 h4.d.b data.length data.length (by rw [if_pos]; have := HLEN.out; omega))
    have H4 := Hd.mk h4; have HR4 := Hd.mk (HR3.out.bel hw.2 HR3.out.lt (by simp [r1, r2])); have B4 := Hd.mk (B3.out.then hw.2 B3.out.size (fun x hx _ => by simp at hx ⊢; rcases hx with h | h <;> simp [h]))
    clear hw h4 C3 H3 HR3 B3
    go_wp2_with fail
    with_reducible refine C4.out.mono ?_
    rintro e w4 ⟨rfl, m4, rfl⟩
    have C5 := Hd.mk (D_Skip K 13 3 3 (w3.drewN m4) rfl (H4.out.d.below ((Bel.refl _ [] _).drewN m4).to) (by decide) (by decide) (by have := HLEN.out; omega))
    clear C4
    go_wp2_with fail
    with_reducible refine C5.out.mono ?_
    rintro e w5 ⟨rfl, hw⟩
    have H5 := Hd.mk ((H4.out.bel ((Bel.refl _ [] _).drewN m4).to).went hw)
    have HR5 := Hd.mk ((HR4.out.drewN m4).bel hw.2 HR4.out.lt (by simp [r1, r2])); have B5 := Hd.mk ((B4.out.drewN m4).then hw.2 B4.out.size (fun x hx _ => by simp at hx ⊢; rcases hx with h | h <;> simp [h]))
    have d0 : w5.cell? ⟨R, 0, none⟩ = some (.pointer (some ⟨L, 0, none⟩)) := HR5.out.cell 0 rfl
    have d6 : w5.cell? ⟨L, 6, none⟩ = some (.slice none 0 0) := H5.out.blk.cell 6 rfl
    clear hw C5 H4 HR4 B4
    have C6 := Hd.mk (growNil data.length _ rfl (by omega) w5.drew)
    go_wp2_with fail
    go_region_with (go_at_call 103; (with_reducible refine C6.out.mono ?_); rintro e w6 ⟨A, c, rfl, hnc, hcm, hnew, hb⟩; have H6 := Hd.mk ((H5.out.bel (Below.refl _ _).drew).bel hb); have HR6 := Hd.mk (HR5.out.drew.below hb HR5.out.lt); have B6 := Hd.mk hb; have NEW := Hd.mk hnew; have HCM := Hd.mk hcm; unfold maxLen at hcm; have d0 : w6.cell? ⟨R, 0, none⟩ = some (.pointer (some ⟨L, 0, none⟩)) := HR6.out.cell 0 rfl; have d6 : w6.cell? ⟨L, 6, none⟩ = some (.slice none 0 0) := H6.out.blk.cell 6 rfl; have f6 := H6.out.blk.free 6; clear hnew hb)
    all_goals
      obtain ⟨W, hW⟩ : ∃ W, W = w6.setCell ⟨L, 6, none⟩ (.slice A data.length c) := ⟨_, rfl⟩
      rw [← hW]
      have h7 : DecG K W 16 L (lobCells id o (.slice A data.length c)) 154 := by
        rw [hW]
        exact (H6.out.set 6 _).cast (by simp)
      have hR7 : Blk W R #[.pointer (some ⟨L, 0, none⟩)] 156 := by
        rw [hW]
        exact HR6.out.set_ne (p := ⟨L, 6, none⟩) (Ne.symm r3) _
      have hb7 : Bel w.heap.size [K.d, K.sb, L] w W := by
        rw [hW]
        exact (B5.out.drew.then (S' := []) (Bel.of B6.out) B5.out.size (by simp)).set (.inr (by simp)) _
      have hll : L < w5.heap.size := H5.out.blk.lt
      have hroom : ∃ g cs T, Blk W g (List.toArray cs) T ∧ g ≠ K.d ∧ g ≠ L ∧ g ≠ R ∧ Rd W [g] K.ra K.xs.length K.xs ∧ (0 < data.length → A = some ⟨g, 0, none⟩) ∧ data.length ≤ cs.length ∧ (g = K.sb ∨ w.heap.size ≤ g) ∧ (0 < data.length → w.heap.size ≤ g) := by
        by_cases h0 : data.length = 0
        · obtain ⟨Z, hz, hZ⟩ := h7.d.sc
          exact ⟨K.sb, Z, _, hZ, Ne.symm h7.d.b.ne, Ne.symm h7.n2, Ne.symm r2, h7.d.b.rd.sub (by simp), fun h => absurd h (by omega), by omega, .inl rfl, fun h => absurd h (by omega)⟩
        · obtain ⟨hA, cs, hl, hblk⟩ := NEW.out (by omega)
          have hlt := H5.out.d.dlt
          have hs := B5.out.size
          have hrl := HR5.out.lt
          have hne : w5.heap.size ≠ L := by omega
          refine ⟨w5.heap.size, cs, 5, ?_, by omega, by omega, by omega, ?_, fun _ => hA, by omega, .inr hs, fun _ => hs⟩
          · rw [hW]
            exact hblk.set_ne (p := ⟨L, 6, none⟩) (by simpa using hne.symm) _
          · rw [hW]
            refine (((H5.out.rd.join (H5.out.rd.more (S' := [w5.heap.size]) (fun x hx _ => by simp at hx; omega))).below ((Below.refl _ w5).drew.trans B6.out)).set (p := ⟨L, 6, none⟩) (by simp) _).sub (by simp)
      obtain ⟨g, cs, T, hg, g1, g2, g3, hgx, hA, hk, hgs, hge⟩ := hroom
      have C7 := Hd.mk (D_Bytes K 16 16 W h7.d.b g cs T hg g1 hgx data.length c A hA hk (by have := HLEN.out; omega) (by omega))
      have H7 := Hd.mk h7; have HR7 := Hd.mk hR7; have B7 := Hd.mk hb7; have HA := Hd.mk hA; have HGS := Hd.mk hgs; have HGE := Hd.mk hge
      have d0 : W.cell? ⟨R, 0, none⟩ = some (.pointer (some ⟨L, 0, none⟩)) := hR7.cell 0 rfl
      have d6 : W.cell? ⟨L, 6, none⟩ = some (.slice A data.length c) := h7.blk.cell 6 rfl
      clear hW h7 hR7 hb7 hll hg hgx hA hgs hge H6 HR6 B6 NEW H5 HR5 B5 C6
      go_wp2_with fail
      with_reducible refine C7.out.mono ?_
      rintro e w7 ⟨rfl, hd7, hblk7, hb7⟩
      have hdata : (K.xs.drop 16).take data.length = data := by rw [HDR.out]; exact List.take_of_length_le (Nat.le_refl _)
      rw [hdata] at hblk7
      have hrd : Rd w7 [] A data.length data := by
        by_cases h0 : data.length = 0
        · exact ⟨rfl, by omega, fun j hj => absurd hj (by omega)⟩
        · rw [HA.out (by omega)]
          exact rd_row hblk7 data (splice_get cs data (by omega)) (by omega)
      have hL7 : Blk w7 L (lobCells id o (.slice A data.length c)) 154 := H7.out.blk.bel hb7 H7.out.blk.lt (by simp [H7.out.n1, g2.symm])
      have hdec : DecB K w7 K.xs.length K.xs.length .nilIface := by have e := HLEN.out; rw [e]; exact hd7
      have hbel : Bel w.heap.size [K.d, K.sb, L] w w7 := B7.out.then hb7 B7.out.size (fun x hx hlt => by
        simp at hx ⊢
        rcases hx with h | h
        · simp [h]
        · rcases HGS.out with h' | h'
          · simp [h, h']
          · omega)
      have X1 := Hd.mk hrd; have X2 := Hd.mk hL7; have X3 := Hd.mk hdec; have X4 := Hd.mk hbel
      clear hd7 hblk7 hb7 hrd hL7 hdec hbel hdata d0 d6 C7
      go_wp2
      go_ret
      exact ⟨rfl, A, c, X2.out, X1.out, fun h => ⟨g, HA.out h, HGE.out h⟩, X3.out, X4.out⟩
end Go.Proofs.Ytbohjafchfeheaa.Kb
