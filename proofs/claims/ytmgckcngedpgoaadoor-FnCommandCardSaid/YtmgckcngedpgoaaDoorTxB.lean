/- cesu8's Encoder.Transform. -/
import Derived.Test.YtmgckcngedpgoaaDoorTxA
namespace Go.Proofs.YtmgckcngedpgoaaDoor.Kb
open Go Go.RowKit
set_option linter.unusedVariables false
set_option linter.unusedSimpArgs false
set_option maxHeartbeats 2000000
/-- The error of a destination that is too short. -/
def shortE : Value := .iface 137 (.agg #[.bool true])
set_option maxRecDepth 100000 in
theorem errShort (w : World) : Calls Tryd.prog 114 #[] w fun e w' => e = .returned shortE ∧ w = w' := by
  go_enter Tryd.func114, Tryd.ntmps114
  go_wp2
  go_ret
  exact ⟨rfl, rfl⟩
/-- What Encoder.Transform answers: k characters are written. -/
def EncOut (w : World) (d doff nd : Nat) (cur : List Value) (t : TypeId) (F : List Int) (e : Ending) (w' : World) : Prop :=
  ∃ k er, k ≤ F.length ∧ e = .returned (.tuple #[.int .i64 (cB (F.take k)).length, .int .i64 (uB (F.take k)).length, er]) ∧ (cB (F.take k)).length ≤ nd ∧ Blk w' d (splice cur doff (bc (cB (F.take k)))).toArray t ∧ Bel w.heap.size [d] w w' ∧
    ((k = F.length ∧ er = .nilIface) ∨ (k < F.length ∧ nd < (cB (F.take (k + 1))).length ∧ er = shortE))
theorem splice_zero (L : List Value) (off : Nat) : splice L off [] = L := by simp [splice]
theorem splice_app (L : List Value) (off : Nat) (xs ys : List Value) (h : off + xs.length + ys.length ≤ L.length) : splice (splice L off xs) (off + xs.length) ys = splice L off (xs ++ ys) := by
  unfold splice
  have h1 : (L.take off).length = off := by simp; omega
  have h2 : (L.take off ++ xs).length = off + xs.length := by simp; omega
  rw [← List.append_assoc, ← List.append_assoc, List.take_left' h2]
  simp only [List.append_assoc]
  congr 3
  rw [← List.append_assoc]
  rw [List.drop_append, h2, List.drop_eq_nil_of_le (by omega), List.nil_append, List.drop_drop]
  congr 1
  simp
  omega
theorem splice_size (L : List Value) (off : Nat) (xs : List Value) (h : off + xs.length ≤ L.length) : (splice L off xs).length = L.length := by
  unfold splice
  simp
  omega
theorem tabs_bel {w w' : World} {d : Nat} (hT : Go.Lib.Utf8Tabs 3 4 w) (hb : Bel w.heap.size [d] w w') (hd : 4 + 1 ≤ d) (hg : d < w.heap.size) : Go.Lib.Utf8Tabs 3 4 w' :=
  ⟨fun k hk => by rw [hb.cell (p := ⟨3, k, none⟩) (by simp; omega) (by simp; omega)]; exact hT.1 k hk, fun i hi => ⟨by rw [hb.cell (p := ⟨4, 2 * i, none⟩) (by simp; omega) (by simp; omega)]; exact (hT.2 i hi).1, by rw [hb.cell (p := ⟨4, 2 * i + 1, none⟩) (by simp; omega) (by simp; omega)]; exact (hT.2 i hi).2⟩⟩
set_option maxRecDepth 100000 in
theorem encT (p : Nat) (d doff nd cd g off n c : Nat) (cur : List Value) (t : TypeId) (F : List Int) (w : World) (hd : Blk w d cur.toArray t) (hdl : doff + nd ≤ cur.length) (hnd : nd ≤ 1000000000) (hcd : nd ≤ cd)
    (hsrc : Rd w [d] (some ⟨g, off, none⟩) n (uB F)) (hnc : n ≤ c) (hT : Go.Lib.Utf8Tabs 3 4 w) (hd2 : 4 + 1 ≤ d) (hF : ∀ r ∈ F, good r) :
    Calls Tryd.prog 122 #[.pointer (some ⟨p, 0, none⟩), .slice (some ⟨d, doff, none⟩) nd cd, .slice (some ⟨g, off, none⟩) n c, .bool true] w fun e w' => EncOut w d doff nd cur t F e w' := by
  have hn : n ≤ 140737488351232 := by have := hsrc.small; omega
  have HD := Hd.mk hd; have HS := Hd.mk hsrc; have HT := Hd.mk hT; have HF := Hd.mk hF; have LN := Hd.mk hsrc.len
  clear hd hsrc hT hF
  go_enter Tryd.func122, Tryd.ntmps122
  go_wp2
  go_loopw [11, 12] (fun i j wr => ∃ k : Nat, k ≤ F.length ∧ i = .int .i64 (uB (F.take k)).length ∧ j = .int .i64 (cB (F.take k)).length ∧ (cB (F.take k)).length ≤ nd ∧ Blk wr d (splice cur doff (bc (cB (F.take k)))).toArray t ∧ Bel w.heap.size [d] w wr) (fun i _ _ => n - (intOf i).toNat)
  case atStart => exact ⟨0, Nat.zero_le _, rfl, rfl, by simp [cB], HD.out.cast (by simp [cB, bc, splice_zero]), Bel.refl _ _ _⟩
  case round =>
    obtain ⟨k, hk, rfl, rfl, hjn, hb, hl⟩ := hrel
    have HB := Hd.mk hb; have HL := Hd.mk hl
    clear hb hl
    have LF := Hd.mk (show (bc (cB (F.take k))).length = (cB (F.take k)).length by simp)
    by_cases hkl : k < F.length
    · have R2 := (HS.out.bel HL.out).dropN (uB (F.take k)).length
      rw [uB_drop, uB_here hkl] at R2
      have hgood := HF.out F[k] (List.getElem_mem hkl)
      have UN := Hd.mk (uB_next hkl); have CN := Hd.mk (cB_next hkl)
      have hlen := R2.len
      obtain ⟨r, hr⟩ : ∃ r, F[k] = r := ⟨_, rfl⟩
      rw [hr] at R2 hgood UN CN hlen
      have hul := encU_len r
      have han : (uB (F.take k)).length ≤ n := by rw [← LN.out, uB_split F k, List.length_append]; omega
      obtain ⟨a, ha⟩ : ∃ a, (uB (F.take k)).length = a := ⟨_, rfl⟩
      obtain ⟨b, hb⟩ : ∃ b, (cB (F.take k)).length = b := ⟨_, rfl⟩
      rw [ha] at R2 hlen han ⊢
      rw [hb] at hjn ⊢
      have UL := Hd.mk (show (uB (F.take (k + 1))).length = a + (encU r).length by rw [UN.out, List.length_append, ha])
      have CL := Hd.mk (show (cB (F.take (k + 1))).length = b + (encC r).length by rw [CN.out, List.length_append, hb])
      have HA := Hd.mk ha; have HBB := Hd.mk hb
      have HG := Hd.mk hgood
      rw [List.length_append] at hlen
      have i1 : (a : Int) < n := by omega
      have SZ := Hd.mk (show (splice cur doff (bc (cB (F.take k)))).length = cur.length from splice_size _ _ _ (by rw [LF.out, HBB.out]; omega))
      clear hr ha hb hlen
      by_cases hlow : r < 128
      · have e1 := encU_low hlow HG.out.1
        have e2 := encC_low hlow HG.out.1
        have s1 := R2.at0 (x := r) (by rw [e1]; rfl)
        rw [e1] at UL; rw [e2] at CL
        simp only [List.length_cons, List.length_nil, Nat.zero_add] at UL CL
        clear e1 R2
        by_cases hsh : nd ≤ b
        · have i2 : (nd : Int) ≤ b := by omega
          have CE := Hd.mk (errShort wr)
          go_wp2_with fail
          with_reducible refine CE.out.mono ?_
          rintro e w2 ⟨rfl, rfl⟩
          clear CE
          go_wp2_with fail
          go_ret3
          exact ⟨k, shortE, hk, (by rw [HBB.out, HA.out]; rfl), by rw [HBB.out]; exact hjn, HB.out, HL.out, .inr ⟨hkl, by rw [CL.out]; omega, rfl⟩⟩
        · have i2 : ¬ (nd : Int) ≤ b := by omega
          have i3 : (b : Int) < nd := by omega
          have f0 := HB.out.free (doff + b)
          have c0 : wr.cell? ⟨d, doff + b, none⟩ = some ((splice cur doff (bc (cB (F.take k))))[doff + b]'(by rw [SZ.out]; omega)) := HB.out.cell (doff + b) (by rw [List.getElem?_toArray, List.getElem?_eq_getElem])
          go_wp2_with fail
          refine ⟨⟨k + 1, by omega, by rw [UL.out]; go_num, by rw [CL.out]; go_num, by rw [CL.out]; omega, ?_, HL.out.set (.inr (by simp)) _⟩, by simp [intOf]; omega⟩
          refine (HB.out.set (doff + b) _).cast ?_
          rw [CN.out, e2]
          have := splice_next cur doff (bc (cB (F.take k))) (.int .u8 r) (by rw [LF.out, HBB.out]; omega)
          rw [LF.out, HBB.out] at this
          rw [List.setIfInBounds_toArray, this]
          simp [bc]
      · have hl := encC_lenC HG.out.2.2.1
        obtain ⟨p1, q1, hp1, hp2, hp3, _⟩ := encU_high (r := r) (by omega) HG.out.2.1
        have s1 := R2.at0 (x := p1) (by rw [hp1]; rfl)
        have j1 : ¬ p1 < 128 := by omega
        have j2 : ¬ c = a := by omega
        have j3 : (r == 65533) = false := by have := HG.out.2.2.2; simpa using this
        have C1 := Hd.mk (utf8_decU g (off + a) (n - a) (c - a) _ _ r wr (R2.sub (by simp)) rfl (fun x hx => by
          rcases List.mem_append.1 hx with h | h
          · exact encU_byte r HG.out.1 HG.out.2.1 x h
          · exact uB_byte (fun r hr => HF.out r (List.mem_of_mem_drop hr)) x h) (tabs_bel HT.out HL.out hd2 HD.out.lt) HG.out.v)
        have C2 := Hd.mk (fun w => runeLen r w HG.out.1 HG.out.2.1)
        rw [← hl] at C2
        have hcl := encC_len6 r
        have UP := Hd.mk (encU_len r)
        have HH := Hd.mk (HB.out)
        have CE3 := Hd.mk (fun (w2 : World) (hb : Below wr.heap.size wr w2) (h : b + (encC r).length ≤ nd) => cesu_enc d (doff + b) (nd - b) (cd - b) (splice cur doff (bc (cB (F.take k)))) t r w2 (HH.out.below hb HH.out.lt) (by rw [SZ.out]; omega) (by omega) (by omega) HG.out.1 HG.out.2.1)
        obtain ⟨M, hM⟩ : ∃ M, (encC r).length = M := ⟨_, rfl⟩
        obtain ⟨U, hU⟩ : ∃ U, (encU r).length = U := ⟨_, rfl⟩
        rw [hM] at C2 CL hcl
        simp only [hM] at CE3
        rw [hU] at C1 UL UP hul
        have HM := Hd.mk hM
        clear hl hp1 hp2 hp3 R2 hM hU
        have j4 : ((M : Int) == -1) = false := by simp
        go_wp2_with fail
        with_reducible refine C1.out.mono ?_
        rintro e w2 ⟨rfl, hb2⟩
        have HB2 := Hd.mk hb2
        clear hb2 C1
        go_wp2_with fail
        with_reducible refine (C2.out w2).mono ?_
        rintro e w3 ⟨rfl, rfl⟩
        clear C2
        by_cases hsh : nd < b + M
        · have i2 : (nd : Int) < b + M := by omega
          have CE := Hd.mk (errShort w3)
          go_wp2_with fail
          with_reducible refine CE.out.mono ?_
          rintro e w4 ⟨rfl, rfl⟩
          clear CE
          go_wp2_with fail
          go_ret3
          exact ⟨k, shortE, hk, (by rw [HBB.out, HA.out]; rfl), by rw [HBB.out]; exact hjn, HB.out.below HB2.out HB.out.lt, HL.out.trans ((show Bel wr.heap.size [] wr w3 from Bel.of HB2.out).weak HL.out.size (fun x hx _ => by simp at hx)), .inr ⟨hkl, by rw [CL.out]; omega, rfl⟩⟩
        · have i2 : ¬ (nd : Int) < b + M := by omega
          have i3 : (b : Int) ≤ nd := by omega
          have i4 : ¬ cd = b := by omega
          have CE4 := Hd.mk (CE3.out w3 HB2.out (by omega))
          clear CE3
          go_wp2_with fail
          with_reducible refine CE4.out.mono ?_
          rintro e w4 ⟨rfl, hb4, hl4⟩
          have HB4 := Hd.mk hb4
          have HL4 := Hd.mk ((HL.out.trans ((show Bel wr.heap.size [] wr w3 from Bel.of HB2.out).weak (S' := [d]) HL.out.size (fun x hx _ => by simp at hx))).trans (hl4.weak (Nat.le_trans HL.out.size HB2.out.size) (fun x hx _ => hx)))
          clear hb4 hl4 CE4
          go_wp2_with fail
          refine ⟨⟨k + 1, by omega, by rw [UL.out]; go_num, by rw [CL.out]; go_num, by rw [CL.out]; omega, ?_, HL4.out⟩, by have := UP.out; simp [intOf]; omega⟩
          refine HB4.out.cast ?_
          rw [CN.out]
          have := splice_app cur doff (bc (cB (F.take k))) (bc (encC r)) (by rw [LF.out, HBB.out]; simp; rw [HM.out]; omega)
          rw [LF.out, HBB.out] at this
          rw [this]
          simp [bc]
    · obtain rfl : k = F.length := by omega
      have hz : (uB (F.take F.length)).length = n := by rw [List.take_length]; exact LN.out
      rw [hz]
      obtain ⟨b, hb⟩ : ∃ b, (cB (F.take F.length)).length = b := ⟨_, rfl⟩
      rw [hb] at hjn ⊢
      have HBB := Hd.mk hb; have HZ := Hd.mk hz
      clear hb hz
      go_wp2_with fail
      go_ret3
      exact ⟨F.length, .nilIface, Nat.le_refl _, (by rw [HBB.out, HZ.out]; rfl), by rw [HBB.out]; exact hjn, HB.out, HL.out, .inl ⟨rfl, rfl⟩⟩
end Go.Proofs.YtmgckcngedpgoaaDoor.Kb
