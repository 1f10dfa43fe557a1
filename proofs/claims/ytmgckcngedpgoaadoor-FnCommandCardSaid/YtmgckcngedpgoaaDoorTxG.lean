/- How many bytes a text has in CESU-8: cesu8.Size, cesu8.StringSize; the reference's bytes. -/
import Derived.Test.YtmgckcngedpgoaaDoorTxF
namespace Go.Proofs.YtmgckcngedpgoaaDoor.Kb
open Go Go.RowKit
set_option linter.unusedVariables false
set_option linter.unusedSimpArgs false
set_option maxHeartbeats 2000000
set_option maxRecDepth 100000 in
theorem ceSize (g off n c : Nat) (F : List Int) (w : World) (hr : Rd w [] (some ⟨g, off, none⟩) n (uB F)) (hnc : n ≤ c) (hc : c ≤ 9223372036854775807) (hn : n ≤ 100000) (hT : Go.Lib.Utf8Tabs 3 4 w) (hw2 : 4 + 1 ≤ w.heap.size) (hF : ∀ r ∈ F, good r) :
    Calls Tryd.prog 58 #[.slice (some ⟨g, off, none⟩) n c] w fun e w' => e = .returned (.int .i64 (cB F).length) ∧ Below w.heap.size w w' := by
  have HR := Hd.mk hr; have HT := Hd.mk hT; have HF := Hd.mk hF; have LN := Hd.mk hr.len; have CU := Hd.mk (cb_le_ub F)
  clear hr hT hF
  go_enter Tryd.func58, Tryd.ntmps58
  go_wp2
  go_loopw [0, 3] (fun s m wr => ∃ (k : Nat) (A' : Option Addr) (c' : Nat), k ≤ F.length ∧ s = .slice A' (n - (uB (F.take k)).length) c' ∧ (k < F.length → A' = some ⟨g, off + (uB (F.take k)).length, none⟩ ∧ c' = c - (uB (F.take k)).length) ∧ m = .int .i64 (cB (F.take k)).length ∧ Below w.heap.size w wr) (fun s _ _ => lenOf s)
  case atStart => exact ⟨0, _, _, Nat.zero_le _, by simp [uB]; exact ⟨rfl, rfl⟩, fun _ => ⟨by simp [uB], by simp [uB]⟩, by simp [cB], Below.refl _ _⟩
  case round =>
    obtain ⟨k, A', c', hk, rfl, hA, rfl, hb⟩ := hrel
    have HB := Hd.mk hb
    clear hb
    by_cases hkl : k < F.length
    · obtain ⟨rfl, rfl⟩ := hA hkl
      have R2 := (HR.out.below HB.out).dropN (uB (F.take k)).length
      rw [uB_drop, uB_here hkl] at R2
      have hgood := HF.out F[k] (List.getElem_mem hkl)
      have UN := Hd.mk (uB_next hkl); have CN := Hd.mk (cB_next hkl)
      have hlen := R2.len
      have RL := Hd.mk (show (uB (F.drop (k + 1))).length = 0 ↔ k + 1 = F.length by
        constructor
        · intro h
          rcases Nat.lt_or_ge (k + 1) F.length with h1 | h1
          · have := uB_pos (F := F.drop (k + 1)) (by simp; omega)
            omega
          · omega
        · intro h
          rw [List.drop_eq_nil_of_le (by omega)]; rfl)
      have cbl := Hd.mk (show (cB (F.take k)).length ≤ 2 * n by
        have h1 := cB_split F k
        have h2 := congrArg List.length h1
        rw [List.length_append] at h2
        have := CU.out; have := LN.out; omega)
      obtain ⟨r, hr⟩ : ∃ r, F[k] = r := ⟨_, rfl⟩
      rw [hr] at R2 hgood UN CN hlen
      have hul := encU_len r
      have han : (uB (F.take k)).length ≤ n := by rw [← LN.out, uB_split F k, List.length_append]; omega
      have UL := Hd.mk (show (uB (F.take (k + 1))).length = (uB (F.take k)).length + (encU r).length by rw [UN.out, List.length_append])
      have CL := Hd.mk (show (cB (F.take (k + 1))).length = (cB (F.take k)).length + (encC r).length by rw [CN.out, List.length_append])
      have hl := encC_lenC hgood.2.2.1
      have hcl := encC_len6 r
      have C1 := Hd.mk (ce_decU g (off + (uB (F.take k)).length) (n - (uB (F.take k)).length) (c - (uB (F.take k)).length) _ _ r wr R2 rfl (fun x hx => by
        rcases List.mem_append.1 hx with h | h
        · exact encU_byte r hgood.1 hgood.2.1 x h
        · exact uB_byte (fun r hr => HF.out r (List.mem_of_mem_drop hr)) x h) (tabs_below HT.out HB.out hw2) hgood.v)
      have C2 := Hd.mk (fun w => runeLen r w hgood.1 hgood.2.1)
      rw [← hl] at C2
      rw [List.length_append] at hlen
      obtain ⟨a, ha⟩ : ∃ a, (uB (F.take k)).length = a := ⟨_, rfl⟩
      obtain ⟨b, hbb⟩ : ∃ b, (cB (F.take k)).length = b := ⟨_, rfl⟩
      obtain ⟨M, hM⟩ : ∃ M, (encC r).length = M := ⟨_, rfl⟩
      obtain ⟨U, hU⟩ : ∃ U, (encU r).length = U := ⟨_, rfl⟩
      rw [ha] at C1 UL han hlen ⊢
      rw [hbb] at CL cbl ⊢
      rw [hM] at C2 CL hcl
      rw [hU] at C1 UL hul hlen
      have RLL := Hd.mk (show n - a = U ↔ k + 1 = F.length by rw [← RL.out]; omega)
      have bl := cbl.out
      clear R2 hgood hl ha hbb hM hU hr RL
      have i1 : (0 : Int) < ((n - a : Nat) : Int) := by omega
      have i2 : (U : Int) ≤ ((n - a : Nat) : Int) := by omega
      go_wp2_with fail
      with_reducible refine C1.out.mono ?_
      rintro e w2 ⟨rfl, hb2⟩
      have HB2 := Hd.mk (HB.out.trans (hb2.mono HB.out.size))
      clear hb2 C1
      go_wp2_with fail
      with_reducible refine (C2.out w2).mono ?_
      rintro e w3 ⟨rfl, rfl⟩
      clear C2
      by_cases hq : c - a = U
      · have EQ := Hd.mk (show k + 1 = F.length from RLL.out.1 (by omega))
        go_wp2_with fail
        refine ⟨⟨k + 1, _, _, by omega, by rw [UL.out, Nat.sub_add_eq], fun h => by have := EQ.out; omega, by rw [CL.out]; go_num, HB2.out⟩, by simp only [lenOf]; omega⟩
      · go_wp2_with fail
        refine ⟨⟨k + 1, _, _, by omega, by rw [UL.out, Nat.sub_add_eq], fun h => ⟨by rw [UL.out, Nat.add_assoc], by rw [UL.out, Nat.sub_add_eq]⟩, by rw [CL.out]; go_num, HB2.out⟩, by simp only [lenOf]; omega⟩
    · obtain rfl : k = F.length := by omega
      rw [List.take_length, LN.out, Nat.sub_self]
      have HX := Hd.mk HB.out
      go_wp2_with fail
      go_ret
      exact ⟨rfl, HX.out⟩
theorem str_uB {F : List Int} (h : ∀ r ∈ F, isV r) : strOfNums (uB F) = runesBytes F := by rw [← nums_runes h, str_nums]
end Go.Proofs.YtmgckcngedpgoaaDoor.Kb
