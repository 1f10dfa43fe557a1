/- Decoder.CESU8Bytes; the command read. -/
import Derived.Test.YtmgckcngedpgoaaDoorCmB
namespace Go.Proofs.YtmgckcngedpgoaaDoor.Kb
open Go Go.RowKit
set_option linter.unusedVariables false
set_option linter.unusedSimpArgs false
set_option maxHeartbeats 2000000
/-- What Decoder.CESU8Bytes answers. -/
def DcOut (K : DK) (w : World) (p n : Nat) (xs : List Int) (e : Ending) (w' : World) : Prop := ∃ g c, e = .returned (.tuple #[.slice (some ⟨g, 0, none⟩) xs.length c, .nilIface]) ∧ xs.length ≤ c ∧ c ≤ maxLen ∧ Rd w' [] (some ⟨g, 0, none⟩) xs.length xs ∧ w.heap.size ≤ g ∧ Went K w p n w'
set_option maxRecDepth 100000 in
theorem D_Cesu (K : DK) (tb p n : Nat) (v : Value) (F : List Int) (w : World) (h : Dec K w p .nilIface) (fit : p + n ≤ K.xs.length) (hx : (K.xs.drop p).take n = cB F) (hn : n ≤ 100000) (htr : K.tr = .iface 92 (.pointer (some ⟨tb, 0, none⟩))) (htb : Blk w tb #[v] 128)
    (t1 : tb ≠ K.d) (t2 : tb ≠ K.sb) (hT : Go.Lib.Utf8Tabs 3 4 w) (q1 : 4 + 1 ≤ K.d) (q2 : 4 + 1 ≤ K.sb) (hF : ∀ r ∈ F, good r) (hp : p ≤ 1000000000) :
    Calls Tryd.prog 62 #[.pointer (some ⟨K.d, 0, none⟩), .int .i64 n] w fun e w' => DcOut K w p n (uB F) e w' := by
  obtain ⟨Z, hz, hZ⟩ := h.sc
  have c2 : w.cell? ⟨K.d, 2, none⟩ = some .nilIface := h.b.blk.cell 2 rfl
  have c3 : w.cell? ⟨K.d, 3, none⟩ = some (.slice (some ⟨K.sb, 0, none⟩) 4096 4096) := h.b.blk.cell 3 rfl
  have HTR := Hd.mk htr
  have HH := Hd.mk h; have HTB := Hd.mk htb; have HT := Hd.mk hT; have HF := Hd.mk hF; have HX := Hd.mk hx
  have dlt := h.b.blk.lt
  have slt := hZ.lt
  have tlt := htb.lt
  have XL := Hd.mk (show (cB F).length = n by rw [← hx]; simp; omega)
  have hq : 4 + 1 ≤ w.heap.size := by omega
  by_cases hbig : n ≤ 4096
  · have C := Hd.mk (readFull_ok K p p _ h.b K.sb Z 5 hZ (Ne.symm h.b.ne) (h.b.rd.sub (by simp)) n 4096 (some ⟨K.sb, 0, none⟩) (fun _ => rfl) (by omega) fit (by omega))
    have HZ := Hd.mk hz
    have i1 : ¬ (4096 : Int) < n := by omega
    have i2 : (n : Int) ≤ 4096 := by omega
    clear h htb hT hF hx hZ hz htr
    go_enter Tryd.func62, Tryd.ntmps62
    go_wp2_with fail
    with_reducible refine C.out.mono ?_
    rintro e w1 ⟨rfl, hr⟩
    have HR := Hd.mk hr
    have hbl := hr.2.2
    have R1 := Hd.mk (show Rd w1 [] (some ⟨K.sb, 0, none⟩) n (cB F) from by
      have h1 := hr.2.1
      rw [HX.out] at h1
      have h2 := splice_rd h1 (by rw [XL.out]; omega)
      rwa [XL.out] at h2)
    have c4 : w1.cell? ⟨K.d, 4, none⟩ = some (.iface 92 (.pointer (some ⟨tb, 0, none⟩))) := by rw [← HTR.out]; exact hr.1.blk.cell 4 rfl
    have CB := Hd.mk (bytesDec tb K.sb n 4096 v F w1 (HTB.out.bel hbl HTB.out.lt (by simp; exact ⟨t1, t2⟩)) R1.out hbig (by decide) hn (tabs_belB HT.out hbl hq (by simp; exact ⟨q1, q2⟩)) (Nat.le_trans hq hbl.size) HF.out)
    have LE := Hd.mk hbl.size
    clear hr hbl C c2 c3
    go_wp2_with fail
    with_reducible refine CB.out.mono ?_
    rintro e w2 ⟨g2, cc, rfl, k1, k2, k3, k4, k5⟩
    have K1 := Hd.mk k1; have K2 := Hd.mk k2; have K3 := Hd.mk k3; have K4 := Hd.mk (Nat.le_trans LE.out k4)
    have WN := Hd.mk (went_of HZ.out HH.out hbig HR.out k5 fit)
    clear k1 k2 k3 k4 k5 CB c4
    go_wp2_with fail
    go_ret2
    exact ⟨g2, cc, rfl, K1.out, K2.out, K3.out, K4.out, WN.out⟩
  · have CZ := Hd.mk (D_ZzRoom K p p .nilIface w h.b n n (by rw [if_pos]; omega))
    have i1 : (4096 : Int) < n := by omega
    clear h htb hT hF hx hZ hz htr
    go_enter Tryd.func62, Tryd.ntmps62
    go_wp2_with fail
    with_reducible refine CZ.out.mono ?_
    rintro e w1 ⟨rfl, md, rfl⟩
    have B1 := Hd.mk (show Below w.heap.size w (w.drewN md) from ⟨rfl, rfl, rfl, Nat.le_refl _, fun _ _ => rfl⟩)
    clear CZ c2 c3
    go_wp2_with (refine wpList_make_z rfl _ _ 24 rfl 5 (.int .u8 0) 1 Tryd.underlying24 infoU8 rfl .i64 .i64 _ _ n rfl rfl rfl rfl (by omega) (by omega) ?_)
    intro w2 hb2 hl2 hs2
    have BK := Hd.mk (show Blk w2 w.heap.size (zs n (.int .u8 0)).toArray 5 from hb2)
    have B2 := Hd.mk (B1.out.trans (hl2.mono B1.out.size))
    have D2 := Hd.mk (HH.out.bel (S := []) (Bel.of B2.out) (by simp) (by simp) (by simp))
    have RX := Hd.mk ((HH.out.b.rd.more (S' := [w.heap.size]) (fun x hx _ => by simp at hx; omega)).below B2.out)
    have C := Hd.mk (readFull_ok K p p w2 D2.out.b w.heap.size (zs n (.int .u8 0)) 5 BK.out (by omega) RX.out n n (some ⟨w.heap.size, 0, none⟩) (fun _ => rfl) (by rw [zs_len]; omega) fit (by omega))
    have s2 : w2.heap.size = w.heap.size + 1 := hs2
    have S2 := Hd.mk s2
    clear hb2 hl2 hs2 s2
    go_wp2_with fail
    with_reducible refine C.out.mono ?_
    rintro e w3 ⟨rfl, hr⟩
    have hbl : Bel w.heap.size [K.d, K.sb] w w3 := ((show Bel w.heap.size [] w w2 from Bel.of B2.out).weak (Nat.le_refl _) (fun x hx _ => by simp at hx)).trans (hr.2.2.weak B2.out.size (fun x hx hlt => by simp at hx; rcases hx with h | h <;> first | omega | (rw [h]; simp)))
    have hbl2 := hr.2.2
    have R1 := Hd.mk (show Rd w3 [] (some ⟨w.heap.size, 0, none⟩) n (cB F) from by
      have h1 := hr.2.1
      rw [HX.out] at h1
      have h2 := splice_rd h1 (by rw [XL.out]; omega)
      rwa [XL.out] at h2)
    have c4 : w3.cell? ⟨K.d, 4, none⟩ = some (.iface 92 (.pointer (some ⟨tb, 0, none⟩))) := by rw [← HTR.out]; exact hr.1.blk.cell 4 rfl
    have CB := Hd.mk (bytesDec tb w.heap.size n n v F w3 (HTB.out.bel hbl HTB.out.lt (by simp; exact ⟨t1, t2⟩)) R1.out (Nat.le_refl _) (by omega) hn (tabs_belB HT.out hbl hq (by simp; exact ⟨q1, q2⟩)) (Nat.le_trans hq hbl.size) HF.out)
    have LE := Hd.mk hbl.size
    have WD := Hd.mk (show Dec K w3 (p + n) .nilIface from by
      obtain ⟨Z2, hz2, hZ2⟩ := D2.out.sc
      exact ⟨hr.1, ⟨Z2, hz2, hZ2.bel hbl2 hZ2.lt (by simp; exact ⟨Ne.symm HH.out.b.ne, by omega⟩)⟩, HH.out.by_⟩)
    have HBL := Hd.mk hbl
    clear hr hbl hbl2 C
    go_wp2_with fail
    with_reducible refine CB.out.mono ?_
    rintro e w4 ⟨g2, cc, rfl, k1, k2, k3, k4, k5⟩
    have K1 := Hd.mk k1; have K2 := Hd.mk k2; have K3 := Hd.mk k3; have K4 := Hd.mk (Nat.le_trans LE.out k4)
    have WN := Hd.mk (show Went K w p n w4 from ⟨WD.out.bel (S := []) (Bel.of k5) (by simp) (by simp) (by simp), HBL.out.trans ((show Bel w3.heap.size [] w3 w4 from Bel.of k5).weak LE.out (fun x hx _ => by simp at hx))⟩)
    clear k1 k2 k3 k4 k5 CB c4
    go_wp2_with fail
    go_ret2
    exact ⟨g2, cc, rfl, K1.out, K2.out, K3.out, K4.out, WN.out⟩
end Go.Proofs.YtmgckcngedpgoaaDoor.Kb
