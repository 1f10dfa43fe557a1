/- cesu8's Decoder.Transform, where all fits. -/
import Derived.Test.YtmgckcngedpgoaaDoorTxB
namespace Go.Proofs.YtmgckcngedpgoaaDoor.Kb
open Go Go.RowKit
set_option linter.unusedVariables false
set_option linter.unusedSimpArgs false
set_option maxHeartbeats 2000000
set_option maxRecDepth 100000 in
theorem uLen (r : Int) (w : World) (h : isV r) :
    Calls Tryd.prog 118 #[.int .i32 r] w fun e w' => e = .returned (.int .i64 (encU r).length) ∧ w' = w := by
  obtain ⟨h0, h1, h2⟩ := h
  have E := encU_isV h2
  rcases (by omega : r < 128 ∨ (128 ≤ r ∧ r < 2048) ∨ (2048 ≤ r ∧ r < 55296) ∨ (57343 < r ∧ r < 65536) ∨ 65536 ≤ r) with hA | hA | hA | hA | hA
  · have hl : (encU r).length = 1 := by rw [E]; unfold enc1; rw [if_pos hA]; rfl
    rw [hl]; clear hl E h2
    go_enter Tryd.func118, Tryd.ntmps118
    go_wp2
    go_ret
    exact ⟨rfl, rfl⟩
  · have hl : (encU r).length = 2 := by rw [E]; unfold enc1; rw [if_neg (by omega), if_pos (by omega)]; rfl
    rw [hl]; clear hl E h2
    obtain ⟨hA1, hA2⟩ := hA
    go_enter Tryd.func118, Tryd.ntmps118
    go_wp2
    go_ret
    exact ⟨rfl, rfl⟩
  · have hl : (encU r).length = 3 := by rw [E]; unfold enc1; rw [if_neg (by omega), if_neg (by omega), if_pos (by omega)]; rfl
    rw [hl]; clear hl E h2
    obtain ⟨hA1, hA2⟩ := hA
    have hB : ¬ (55296 ≤ r) := by omega
    go_enter Tryd.func118, Tryd.ntmps118
    go_wp2
    go_ret
    exact ⟨rfl, rfl⟩
  · have hl : (encU r).length = 3 := by rw [E]; unfold enc1; rw [if_neg (by omega), if_neg (by omega), if_pos (by omega)]; rfl
    rw [hl]; clear hl E h2
    obtain ⟨hA1, hA2⟩ := hA
    go_enter Tryd.func118, Tryd.ntmps118
    go_wp2
    go_ret
    exact ⟨rfl, rfl⟩
  · have hl : (encU r).length = 4 := by rw [E]; unfold enc1; rw [if_neg (by omega), if_neg (by omega), if_neg (by omega)]; rfl
    rw [hl]; clear hl E h2
    go_enter Tryd.func118, Tryd.ntmps118
    go_wp2
    go_ret
    exact ⟨rfl, rfl⟩
/-- cesu8.DecodeRune of CESU-8. -/
theorem ce_decC (g off n c : Nat) (xs rest : List Int) (r : Int) (w : World) (hr : Rd w [] (some ⟨g, off, none⟩) n xs) (hnc : n ≤ c) (hxs : xs = encC r ++ rest) (hby : ∀ x ∈ xs, 0 ≤ x ∧ x < 256) (hT : Go.Lib.Utf8Tabs 3 4 w) (hv : isV r) :
    Calls Tryd.prog 68 #[.slice (some ⟨g, off, none⟩) n c] w fun e w' => RuneAt r (encC r).length w e w' := by
  by_cases h : r < 65536
  · exact ce_dec_low g off n c xs rest r w hr hxs hby hT hv.1 h hv.2.2
  · have e : (encC r).length = 6 := by rw [encC_6 r (by omega)]; simp [three]
    rw [e]
    exact ce_dec_high g off n c xs rest r w hr hnc hxs (by omega) hv.2.1
/-- What Decoder.Transform answers. -/
def DecOut (w : World) (d doff : Nat) (cur : List Value) (t : TypeId) (F : List Int) (e : Ending) (w' : World) : Prop :=
  e = .returned (.tuple #[.int .i64 (uB F).length, .int .i64 (cB F).length, .nilIface]) ∧ Blk w' d (splice cur doff (bc (uB F))).toArray t ∧ Bel w.heap.size [d] w w'
set_option maxRecDepth 100000 in
theorem decT (p : Nat) (d doff nd cd g off n c : Nat) (cur : List Value) (t : TypeId) (F : List Int) (w : World) (hd : Blk w d cur.toArray t) (hdl : doff + nd ≤ cur.length) (hnd : nd ≤ 1000000000) (hcd : nd ≤ cd) (hfit : (uB F).length ≤ nd)
    (hsrc : Rd w [d] (some ⟨g, off, none⟩) n (cB F)) (hnc : n ≤ c) (hT : Go.Lib.Utf8Tabs 3 4 w) (hd2 : 4 + 1 ≤ d) (hF : ∀ r ∈ F, good r) :
    Calls Tryd.prog 113 #[.pointer (some ⟨p, 0, none⟩), .slice (some ⟨d, doff, none⟩) nd cd, .slice (some ⟨g, off, none⟩) n c, .bool true] w fun e w' => DecOut w d doff cur t F e w' := by
  have hn : n ≤ 140737488351232 := by have := hsrc.small; omega
  have HD := Hd.mk hd; have HS := Hd.mk hsrc; have HT := Hd.mk hT; have HF := Hd.mk hF; have LN := Hd.mk hsrc.len; have HFIT := Hd.mk hfit
  clear hd hsrc hT hF hfit
  go_enter Tryd.func113, Tryd.ntmps113
  go_wp2
  go_loopw [11, 12] (fun i j wr => ∃ k : Nat, k ≤ F.length ∧ i = .int .i64 (cB (F.take k)).length ∧ j = .int .i64 (uB (F.take k)).length ∧ Blk wr d (splice cur doff (bc (uB (F.take k)))).toArray t ∧ Bel w.heap.size [d] w wr) (fun i _ _ => n - (intOf i).toNat)
  case atStart => exact ⟨0, Nat.zero_le _, rfl, rfl, HD.out.cast (by simp [uB, bc, splice_zero]), Bel.refl _ _ _⟩
  case round =>
    obtain ⟨k, hk, rfl, rfl, hb, hl⟩ := hrel
    have HB := Hd.mk hb; have HL := Hd.mk hl
    clear hb hl
    have LF := Hd.mk (show (bc (uB (F.take k))).length = (uB (F.take k)).length by simp)
    by_cases hkl : k < F.length
    · have R2 := (HS.out.bel HL.out).dropN (cB (F.take k)).length
      rw [cB_drop, cB_here hkl] at R2
      have hgood := HF.out F[k] (List.getElem_mem hkl)
      have UN := Hd.mk (uB_next hkl); have CN := Hd.mk (cB_next hkl)
      have hlen := R2.len
      have hfit := HFIT.out
      rw [uB_split F (k + 1), List.length_append, UN.out, List.length_append] at hfit
      obtain ⟨r, hr⟩ : ∃ r, F[k] = r := ⟨_, rfl⟩
      rw [hr] at R2 hgood UN CN hlen hfit
      have hul := encC_len6 r
      have han : (cB (F.take k)).length ≤ n := by rw [← LN.out, cB_split F k, List.length_append]; omega
      obtain ⟨a, ha⟩ : ∃ a, (cB (F.take k)).length = a := ⟨_, rfl⟩
      obtain ⟨b, hb⟩ : ∃ b, (uB (F.take k)).length = b := ⟨_, rfl⟩
      rw [ha] at R2 hlen han ⊢
      rw [hb] at hfit ⊢
      have UL := Hd.mk (show (cB (F.take (k + 1))).length = a + (encC r).length by rw [CN.out, List.length_append, ha])
      have CL := Hd.mk (show (uB (F.take (k + 1))).length = b + (encU r).length by rw [UN.out, List.length_append, hb])
      have HA := Hd.mk ha; have HBB := Hd.mk hb
      have HG := Hd.mk hgood
      rw [List.length_append] at hlen
      have i1 : (a : Int) < n := by omega
      have SZ := Hd.mk (show (splice cur doff (bc (uB (F.take k)))).length = cur.length from splice_size _ _ _ (by rw [LF.out, HBB.out]; omega))
      have hupos := (encU_len r).2
      clear hr ha hb hlen
      by_cases hlow : r < 128
      · have e1 := encU_low hlow HG.out.1
        have e2 := encC_low hlow HG.out.1
        have s1 := R2.at0 (x := r) (by rw [e2]; rfl)
        rw [e2] at UL; rw [e1] at CL
        simp only [List.length_cons, List.length_nil, Nat.zero_add] at UL CL
        clear e2 R2
        have i2 : ¬ (nd : Int) ≤ b := by omega
        have i3 : (b : Int) < nd := by omega
        have f0 := HB.out.free (doff + b)
        have c0 : wr.cell? ⟨d, doff + b, none⟩ = some ((splice cur doff (bc (uB (F.take k))))[doff + b]'(by rw [SZ.out]; omega)) := HB.out.cell (doff + b) (by rw [List.getElem?_toArray, List.getElem?_eq_getElem])
        go_wp2_with fail
        refine ⟨⟨k + 1, by omega, by rw [UL.out]; go_num, by rw [CL.out]; go_num, ?_, HL.out.set (.inr (by simp)) _⟩, by simp [intOf]; omega⟩
        refine (HB.out.set (doff + b) _).cast ?_
        rw [UN.out, e1]
        have := splice_next cur doff (bc (uB (F.take k))) (.int .u8 r) (by rw [LF.out, HBB.out]; omega)
        rw [LF.out, HBB.out] at this
        rw [List.setIfInBounds_toArray, this]
        simp [bc]
      · obtain ⟨p1, q1, hp1, hp2, hp3⟩ := encC_high (r := r) (by omega) HG.out.2.1
        have s1 := R2.at0 (x := p1) (by rw [hp1]; rfl)
        have j1 : ¬ p1 < 128 := by omega
        have j2 : ¬ c = a := by omega
        have j3 : (r == 65533) = false := by have := HG.out.2.2.2; simpa using this
        have C1 := Hd.mk (ce_decC g (off + a) (n - a) (c - a) _ _ r wr (R2.sub (by simp)) (by omega) rfl (fun x hx => by
          rcases List.mem_append.1 hx with h | h
          · exact encC_byteL r HG.out.1 HG.out.2.1 x h
          · exact cB_byte (fun r hr => HF.out r (List.mem_of_mem_drop hr)) x h) (tabs_bel HT.out HL.out hd2 HD.out.lt) HG.out.v)
        have C2 := Hd.mk (fun w => uLen r w HG.out.v)
        have HH := Hd.mk (HB.out)
        have CE3 := Hd.mk (fun (w2 : World) (hb : Below wr.heap.size wr w2) => utf8_enc d (doff + b) (nd - b) (cd - b) (splice cur doff (bc (uB (F.take k)))) t r w2 (HH.out.below hb HH.out.lt) (by rw [SZ.out]; omega) (by omega) (by omega) HG.out.1 HG.out.2.1)
        have hul4 := encU_len r
        obtain ⟨M, hM⟩ : ∃ M, (encU r).length = M := ⟨_, rfl⟩
        obtain ⟨U, hU⟩ : ∃ U, (encC r).length = U := ⟨_, rfl⟩
        rw [hM] at C2 CL hfit hul4
        rw [hU] at C1 UL hul
        have HM := Hd.mk hM
        clear hp1 hp2 hp3 R2 hM hU
        have j4 : ((M : Int) == -1) = false := by simp
        have i2 : ¬ (nd : Int) < b + M := by omega
        have i3 : (b : Int) ≤ nd := by omega
        have i4 : ¬ cd = b := by omega
        go_wp2_with fail
        with_reducible refine C1.out.mono ?_
        rintro e w2 ⟨rfl, hb2⟩
        have HB2 := Hd.mk hb2
        clear hb2 C1
        go_wp2_with fail
        with_reducible refine (C2.out w2).mono ?_
        rintro e w3 ⟨rfl, rfl⟩
        clear C2
        have CE4 := Hd.mk (CE3.out w3 HB2.out)
        clear CE3
        go_wp2_with fail
        with_reducible refine CE4.out.mono ?_
        rintro e w4 ⟨rfl, hb4, hl4⟩
        have HB4 := Hd.mk hb4
        have HL4 := Hd.mk ((HL.out.trans ((show Bel wr.heap.size [] wr w3 from Bel.of HB2.out).weak (S' := [d]) HL.out.size (fun x hx _ => by simp at hx))).trans (hl4.weak (Nat.le_trans HL.out.size HB2.out.size) (fun x hx _ => hx)))
        clear hb4 hl4 CE4
        go_wp2_with fail
        refine ⟨⟨k + 1, by omega, by rw [UL.out]; go_num, by rw [CL.out]; go_num, ?_, HL4.out⟩, by simp [intOf]; omega⟩
        refine HB4.out.cast ?_
        rw [UN.out]
        have := splice_app cur doff (bc (uB (F.take k))) (bc (encU r)) (by rw [LF.out, HBB.out]; simp; rw [HM.out]; omega)
        rw [LF.out, HBB.out] at this
        rw [this]
        simp [bc]
    · obtain rfl : k = F.length := by omega
      have hz : (cB (F.take F.length)).length = n := by rw [List.take_length]; exact LN.out
      rw [hz]
      obtain ⟨b, hb⟩ : ∃ b, (uB (F.take F.length)).length = b := ⟨_, rfl⟩
      rw [hb]
      have HBB := Hd.mk hb; have HZ := Hd.mk hz
      clear hb hz
      go_wp2_with fail
      go_ret3
      have h1 := HBB.out; have h2 := HB.out
      rw [List.take_length] at h1 h2
      exact ⟨by rw [h1, LN.out]; rfl, h2, HL.out⟩
end Go.Proofs.YtmgckcngedpgoaaDoor.Kb
