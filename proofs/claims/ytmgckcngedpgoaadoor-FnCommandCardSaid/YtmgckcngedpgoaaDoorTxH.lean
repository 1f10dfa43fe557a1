/- spec.CeText: the bytes of characters. -/
import Derived.Test.YtmgckcngedpgoaaDoorTxG
namespace Go.Proofs.YtmgckcngedpgoaaDoor.Kb
open Go Go.RowKit
set_option linter.unusedVariables false
set_option linter.unusedSimpArgs false
set_option maxHeartbeats 2000000
/-- What CeText answers. -/
def TextOut (w : World) (xs : List Int) (e : Ending) (w' : World) : Prop := ∃ v, e = .returned v ∧ w'.ownsRow w.heap.size 5 1 v xs.length (bc xs) ∧ Below w.heap.size w w'
set_option maxRecDepth 100000 in
theorem ceText (A : Option Addr) (n c : Nat) (F : List Int) (w : World) (hr : RdI w A n F) (hn : n ≤ 100000) (hF : ∀ r ∈ F, good r) :
    Calls Tryd.prog 12 #[.slice A n c] w fun e w' => TextOut w (cB F) e w' := by
  obtain ⟨i0, hi, hz0, hz1, hz2⟩ := info_of infoU8
  have I := Hd.mk (And.intro hi (And.intro hz0 (And.intro hz1 hz2)))
  have HR := Hd.mk hr; have HF := Hd.mk hF
  clear hi hz0 hz1 hz2 hr hF
  go_enter Tryd.func12, Tryd.ntmps12
  go_wp2
  go_loopw [3, 8] (fun v i wr => ∃ k : Nat, k ≤ n ∧ i = .int .i64 k ∧ wr.ownsRow w.heap.size 5 1 v (cB (F.take k)).length (bc (cB (F.take k))) ∧ Below w.heap.size w wr) (fun _ i _ => n - (intOf i).toNat)
  case atStart => exact ⟨0, by omega, rfl, by simpa [cB, bc] using World.ownsRow_nil _ _ _ _, Below.refl _ _⟩
  case round =>
    obtain ⟨k, hk, rfl, hown, hb⟩ := hrel
    have hr2 := HR.out.below hb
    have hxl := HR.out.len
    have HB := Hd.mk hb; have O := Hd.mk hown
    clear hb hown
    by_cases hkl : k < n
    · have hkx : k < F.length := by omega
      obtain ⟨ad, rfl, hc, _⟩ := hr2.at_ k hkx
      have hgood := HF.out F[k] (List.getElem_mem hkx)
      have CN := Hd.mk (cB_next hkx)
      have CBL := Hd.mk (show (cB (F.take k)).length ≤ 6 * n by have := cB_le (F.take k); rw [List.length_take] at this; omega)
      obtain ⟨r, hr⟩ : ∃ r, F[k]'hkx = r := ⟨_, rfl⟩
      rw [hr] at hc hgood CN
      have C := Hd.mk (ceRune r wr hgood.1 hgood.2.1)
      have hel := encC_len6 r
      clear hr hxl hr2 hgood
      go_wp2_with fail
      with_reducible refine C.out.mono ?_
      rintro e w2 ⟨A2, c2, rfl, hrd, hc1, hc2, hb2⟩
      have RD := Hd.mk hrd; have HB2 := Hd.mk (HB.out.trans (hb2.mono HB.out.size)); have O2 := Hd.mk (own_below O.out hb2)
      have LE := Hd.mk hb2.size
      clear hrd hb2 C
      have cbl := CBL.out
      go_wp2_with (at_builtin; refine wpList_append_rd rfl _ _ 24 rfl w.heap.size 5 i0 (.int .u8 0) Tryd.underlying24 I.out.1 I.out.2.1 I.out.2.2.1 I.out.2.2.2 rfl _ _ _ rfl O2.out (some A2) (encC r).length c2 (encC r) rfl RD.out (by omega) (Nat.le_trans HB.out.size LE.out) ?_)
      intro v' w3 hown' hgrow
      have HO := Hd.mk hown'
      have HB3 := Hd.mk (HB2.out.grown hgrow HB2.out.size (fun k hk => (O2.out.lt k hk).1))
      clear hown' hgrow
      go_wp2
      go_roundw
      case rel =>
        refine ⟨k + 1, by omega, by go_num, ?_, HB3.out⟩
        rw [CN.out, List.length_append]
        have := HO.out
        simpa [bc] using this
      case measure => simp [intOf]; omega
    · obtain rfl : k = n := by omega
      have e1 : F.take k = F := List.take_of_length_le (by omega)
      have o := O.out
      rw [e1] at o
      have OO := Hd.mk o
      clear o
      go_wp2
      refine bodyPost_ret (v := _) (by simp [results, Tryd.results12, go_sem]) rfl ⟨_, rfl, OO.out, HB.out⟩
end Go.Proofs.YtmgckcngedpgoaaDoor.Kb
