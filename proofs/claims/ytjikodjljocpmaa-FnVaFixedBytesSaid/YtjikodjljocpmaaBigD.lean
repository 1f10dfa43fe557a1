/- math/big: Int.SetBytes, Neg, Bits, Sign; impl.bigOf. -/
import Derived.Test.YtjikodjljocpmaaBigC
import Derived.Test.YtjikodjljocpmaaNatG
import Derived.Lib.Builder
namespace Go.Proofs.Ytjikodjljocpmaa.Kb
open Go Go.RowKit
set_option linter.unusedVariables false
set_option linter.unusedSimpArgs false
set_option maxHeartbeats 1000000
/-- What Int.SetBytes answers, of a number that is new. -/
def SetOut (w : World) (g n : Nat) (e : Ending) (w' : World) : Prop := ∃ A l c, e = .returned (.pointer (some ⟨g, 0, none⟩)) ∧ Blk w' g #[.bool false, .slice A l c] 80 ∧ DigV .u64 WB w' A l c n ∧ Bel w.heap.size [g] w w' ∧ (∀ ad, A = some ad → w.heap.size ≤ ad.block) ∧ WBlk w' A l c n
set_option maxRecDepth 100000 in
theorem intSetBytes (g : Nat) (A : Option Addr) (n c : Nat) (xs : List Int) (w : World) (hg : Blk w g #[.bool false, .slice none 0 0] 80) (hr : Rd w [] A n xs) (hby : ∀ x ∈ xs, 0 ≤ x ∧ x < 256) (hn : n ≤ 1000) (hnc : n ≤ c) (hc : c ≤ 9223372036854775807) :
    Calls Try.prog 44 #[.pointer (some ⟨g, 0, none⟩), .slice A n c] w fun e w' => SetOut w g (beN xs) e w' := by
  have C := Hd.mk (setBytes A n c xs w hr hby hn hnc hc)
  have HG := Hd.mk hg
  have y0 : w.cell? ⟨g, 0, none⟩ = some (.bool false) := hg.cell 0 rfl
  have y1 : w.cell? ⟨g, 1, none⟩ = some (.slice none 0 0) := hg.cell 1 rfl
  have f0 := hg.free 0; have f1 := hg.free 1
  clear hr hby hg
  go_enter Try.func44, Try.ntmps44
  go_wp2_with fail
  with_reducible refine C.out.mono ?_
  rintro e w2 ⟨A2, l2, c2, rfl, hd, hb, hf, hw⟩
  have HB := Hd.mk (HG.out.below hb HG.out.lt)
  have HD := Hd.mk hd; have HL := Hd.mk hb; have HF := Hd.mk hf; have HW := Hd.mk hw
  clear hd hb hf hw y0 y1 f0 f1
  have y0 : w2.cell? ⟨g, 0, none⟩ = some (.bool false) := HB.out.cell 0 rfl
  have y1 : w2.cell? ⟨g, 1, none⟩ = some (.slice none 0 0) := HB.out.cell 1 rfl
  have f0 := HB.out.free 0; have f1 := HB.out.free 1
  go_wp2_with fail
  go_ret
  have hne : ∀ (i : Nat) ad, A2 = some ad → ad.block ≠ (⟨g, i, none⟩ : Addr).block := fun i ad h e => by have h1 := HF.out ad h; have h2 := HG.out.lt; simp at e; omega
  exact ⟨A2, l2, c2, rfl, ((HB.out.set 1 (.slice A2 l2 c2)).set 0 (.bool false)).cast rfl, (HD.out.set (hne 1) _).set (hne 0) _, (((Bel.of HL.out).set (.inr (by simp)) _).set (.inr (by simp)) _), HF.out, HW.out.keep fun ad cs h hb => (hb.set_ne (Ne.symm (hne 1 ad h)) _).set_ne (Ne.symm (hne 0 ad h)) _⟩
/-- A number of math/big in block g. -/
structure BigI (w : World) (g : Nat) (neg : Bool) (A : Option Addr) (l c a : Nat) : Prop where
  blk : Blk w g #[.bool neg, .slice A l c] 80
  dig : DigV .u64 WB w A l c a
  ne : ∀ ad, A = some ad → ad.block ≠ g
theorem BigI.below {w w' : World} {g : Nat} {neg : Bool} {A : Option Addr} {l c a : Nat} (h : BigI w g neg A l c a) (hb : Below w.heap.size w w') : BigI w' g neg A l c a := ⟨h.blk.below hb h.blk.lt, h.dig.below hb, h.ne⟩
theorem bigI_apart {w : World} {g : Nat} {neg : Bool} {A : Option Addr} {l c a : Nat} (h : BigI w g neg A l c a) : ∀ ad, A = some ad → 0 < l → ad.block < w.heap.size := by
  intro ad h1 h2
  obtain ⟨g1, e, _, hl⟩ := h.dig.at_ 0 h2
  rw [e] at h1
  cases h1
  exact hl
set_option maxRecDepth 100000 in
theorem intBits (g : Nat) (neg : Bool) (A : Option Addr) (l c a : Nat) (w : World) (h : BigI w g neg A l c a) :
    Calls Try.prog 48 #[.pointer (some ⟨g, 0, none⟩)] w fun e w' => e = .returned (.slice A l c) ∧ w = w' := by
  have y1 : w.cell? ⟨g, 1, none⟩ = some (.slice A l c) := h.blk.cell 1 rfl
  clear h
  go_enter Try.func48, Try.ntmps48
  go_wp2
  go_ret
  exact ⟨rfl, rfl⟩
/-- The sign of a number: 0, -1 or 1. -/
def sgn (neg : Bool) (a : Nat) : Int := if a = 0 then 0 else if neg then -1 else 1
set_option maxRecDepth 100000 in
theorem intSign (g : Nat) (neg : Bool) (A : Option Addr) (l c a : Nat) (w : World) (h : BigI w g neg A l c a) :
    Calls Try.prog 49 #[.pointer (some ⟨g, 0, none⟩)] w fun e w' => e = .returned (.int .i64 (sgn neg a)) ∧ w = w' := by
  have y0 : w.cell? ⟨g, 0, none⟩ = some (.bool neg) := h.blk.cell 0 rfl
  have y1 : w.cell? ⟨g, 1, none⟩ = some (.slice A l c) := h.blk.cell 1 rfl
  have HZ := Hd.mk (h.dig.zero_iff WB1)
  clear h
  by_cases hl : l = 0
  · have HA := Hd.mk (HZ.out.1 hl)
    subst hl
    go_enter Try.func49, Try.ntmps49
    go_wp2
    go_ret
    exact ⟨i64_eq (by simp [sgn, HA.out]), rfl⟩
  · have HA := Hd.mk (show a ≠ 0 from fun h => hl (HZ.out.2 h))
    have hl' : ((l : Int) == 0) = false := by simp; omega
    cases neg
    · go_enter Try.func49, Try.ntmps49
      go_wp2
      go_ret
      exact ⟨i64_eq (by simp [sgn, HA.out]), rfl⟩
    · go_enter Try.func49, Try.ntmps49
      go_wp2
      go_ret
      exact ⟨i64_eq (by simp [sgn, HA.out]), rfl⟩
theorem infoI : (Try.prog.info? 80).map (fun i => (i.zero, i.size, i.bytes)) = some (some (.agg #[.bool false, .slice none 0 0]), 2, 32) := by kernel_rfl
set_option maxRecDepth 100000 in
theorem intSetSame (g : Nat) (w : World) :
    Calls Try.prog 62 #[.pointer (some ⟨g, 0, none⟩), .pointer (some ⟨g, 0, none⟩)] w fun e w' => e = .returned (.pointer (some ⟨g, 0, none⟩)) ∧ w = w' := by
  obtain ⟨j, hj, _⟩ := info_of infoI
  have hne : ∀ W : World, (binOp .neq 53 (.pointer (some ⟨g, 0, none⟩)) (.pointer (some ⟨g, 0, none⟩))).run Try.prog W = .ok (.bool false) W := fun W => Lib.run_neq_ptr_same W _ Try.underlying53 hj
  go_enter Try.func62, Try.ntmps62
  go_wp2
  go_ret
  exact ⟨rfl, rfl⟩
/-- A number with the other sign, in its place. -/
def NegOut (w : World) (g : Nat) (neg : Bool) (A : Option Addr) (l c a : Nat) (e : Ending) (w' : World) : Prop :=
  e = .returned (.pointer (some ⟨g, 0, none⟩)) ∧ BigI w' g (!neg && decide (a ≠ 0)) A l c a ∧ Bel w.heap.size [g] w w'
set_option maxRecDepth 100000 in
theorem intNegSame (g : Nat) (neg : Bool) (A : Option Addr) (l c a : Nat) (w : World) (h : BigI w g neg A l c a) :
    Calls Try.prog 45 #[.pointer (some ⟨g, 0, none⟩), .pointer (some ⟨g, 0, none⟩)] w fun e w' => NegOut w g neg A l c a e w' := by
  have y0 : w.cell? ⟨g, 0, none⟩ = some (.bool neg) := h.blk.cell 0 rfl
  have y1 : w.cell? ⟨g, 1, none⟩ = some (.slice A l c) := h.blk.cell 1 rfl
  have f0 := h.blk.free 0
  have HZ := Hd.mk (h.dig.zero_iff WB1)
  have H := Hd.mk h
  have C := Hd.mk (intSetSame g w)
  have ST : ∀ b : Bool, b = (!neg && decide (a ≠ 0)) → BigI (w.setCell ⟨g, 0, none⟩ (.bool b)) g (!neg && decide (a ≠ 0)) A l c a := fun b hb => by
    subst hb
    exact ⟨(H.out.blk.set 0 _).cast rfl, H.out.dig.set (fun ad h e => H.out.ne ad h e) _, H.out.ne⟩
  have HS := Hd.mk ST
  clear h ST
  by_cases hl : l = 0
  · have HA := Hd.mk (HZ.out.1 hl)
    subst hl
    go_enter Try.func45, Try.ntmps45
    go_wp2_with fail
    with_reducible refine C.out.mono ?_
    rintro e w2 ⟨rfl, rfl⟩
    go_wp2
    go_ret
    exact ⟨rfl, HS.out _ (by simp [HA.out]), (Bel.refl _ _ _).set (.inr (by simp)) _⟩
  · have HA := Hd.mk (show a ≠ 0 from fun h => hl (HZ.out.2 h))
    have hl' : (0 : Int) < l := by omega
    go_enter Try.func45, Try.ntmps45
    go_wp2_with fail
    with_reducible refine C.out.mono ?_
    rintro e w2 ⟨rfl, rfl⟩
    go_wp2
    go_ret
    exact ⟨rfl, HS.out _ (by simp [HA.out]), (Bel.refl _ _ _).set (.inr (by simp)) _⟩
/-- What impl.bigOf answers. -/
def BigOut (w : World) (neg : Bool) (a : Nat) (e : Ending) (w' : World) : Prop := ∃ g A l c, e = .returned (.tuple #[.pointer (some ⟨g, 0, none⟩), .bool true]) ∧ w.heap.size ≤ g ∧ BigI w' g (neg && decide (a ≠ 0)) A l c a ∧ Below w.heap.size w w' ∧ (∀ ad, A = some ad → w.heap.size ≤ ad.block) ∧ WBlk w' A l c a
set_option maxRecDepth 100000 in
theorem bigOf (neg : Bool) (A : Option Addr) (n c : Nat) (xs : List Int) (w : World) (hr : Rd w [] A n xs) (hby : ∀ x ∈ xs, 0 ≤ x ∧ x < 256) (hn : n ≤ 400) (hnc : n ≤ c) (hc : c ≤ 9223372036854775807) :
    Calls Try.prog 26 #[.agg #[.bool neg, .slice A n c]] w fun e w' => BigOut w neg (beN xs) e w' := by
  have HB0 := Hd.mk (show Below w.heap.size w ((w.alloc (.cells #[.bool neg, .slice A n c] 24)).alloc (.cells #[.bool false, .slice none 0 0] 80)) from ((Below.refl _ _).alloc (Nat.le_refl _) _).alloc (by simp) _)
  have HR0 := Hd.mk (show Blk ((w.alloc (.cells #[.bool neg, .slice A n c] 24)).alloc (.cells #[.bool false, .slice none 0 0] 80)) (w.heap.size + 1) #[.bool false, .slice none 0 0] 80 by simpa using Blk.new (w.alloc (.cells #[.bool neg, .slice A n c] 24)) #[.bool false, .slice none 0 0] 80)
  have HP0 := Hd.mk ((Blk.new w #[.bool neg, .slice A n c] 24).alloc (.cells #[.bool false, .slice none 0 0] 80))
  have C := Hd.mk (intSetBytes (w.heap.size + 1) A n c xs _ HR0.out (hr.below HB0.out) hby (by omega) hnc hc)
  clear hr hby
  go_enter Try.func26, Try.ntmps26
  go_wp2_with fail
  with_reducible refine C.out.mono ?_
  rintro e w2 ⟨A2, l2, c2, rfl, hb, hd, hl, hf, hw⟩
  have hbl : Below w.heap.size w w2 := HB0.out.trans ((hl.weak (by simp <;> omega) (fun x hx hlt => by simp at hx; omega)).to)
  have hfr : ∀ ad, A2 = some ad → w.heap.size ≤ ad.block := fun ad h => by have := hf ad h; simp at this; omega
  have HI := Hd.mk (show BigI w2 (w.heap.size + 1) false A2 l2 c2 (beN xs) from ⟨hb, hd, fun ad h e => by have := hf ad h; simp at this; omega⟩)
  have k0 : w2.cell? ⟨w.heap.size, 0, none⟩ = some (.bool neg) := (HP0.out.bel hl (by simp <;> omega) (by simp)).cell 0 rfl
  have HL := Hd.mk hbl; have HF := Hd.mk hfr; have HW := Hd.mk hw
  have HF2 := Hd.mk hf
  clear hb hd hl hf hw hbl hfr C
  cases neg
  · go_wp2_with fail
    go_ret2
    exact ⟨_, A2, l2, c2, rfl, by omega, by simpa using HI.out, HL.out, HF.out, HW.out⟩
  · have C2 := Hd.mk (intNegSame _ _ _ _ _ _ _ HI.out)
    go_wp2_with fail
    with_reducible refine C2.out.mono ?_
    rintro e w3 ⟨rfl, hi, hb3⟩
    have HI3 := Hd.mk hi
    have HW3 := Hd.mk (HW.out.keep (w' := w3) fun ad cs h hb => hb.bel hb3 hb.lt (by have := HF2.out ad h; simp at this ⊢; omega))
    have HL3 := Hd.mk (HL.out.trans ((hb3.weak HL.out.size (fun x hx hlt => by simp at hx; omega)).to))
    clear hi hb3
    go_wp2_with fail
    go_ret2
    exact ⟨_, A2, l2, c2, rfl, by omega, by simpa using HI3.out, HL3.out, HF.out, HW3.out⟩
end Go.Proofs.Ytjikodjljocpmaa.Kb
