/- How Encoders and Decoders are made. -/
import Derived.Test.YtmgckcngedpgoaaDoorDecN
import Derived.Test.YtmgckcngedpgoaaDoorEncM
namespace Go.Proofs.YtmgckcngedpgoaaDoor.Kb
open Go Go.RowKit
set_option linter.unusedVariables false
set_option linter.unusedSimpArgs false
set_option maxHeartbeats 1000000
set_option maxRecDepth 100000 in
theorem defaultDecoder (w : World) : Calls Tryd.prog 30 #[] w fun e w' => e = .returned (.iface 92 (.pointer (some ⟨w.heap.size, 0, none⟩))) ∧ Blk w' w.heap.size #[.nilFunc] 128 ∧ w'.heap.size = w.heap.size + 1 ∧ Below w.heap.size w w' := by
  go_enter Tryd.func30, Tryd.ntmps30
  go_wp2
  go_ret
  exact ⟨rfl, Blk.new _ _ _, by simp, (Below.refl _ _).alloc (Nat.le_refl _) _⟩
set_option maxRecDepth 100000 in
theorem defaultEncoder (w : World) : Calls Tryd.prog 43 #[] w fun e w' => e = .returned (.iface 106 (.pointer (some ⟨w.heap.size, 0, none⟩))) ∧ Blk w' w.heap.size #[.nilFunc] 139 ∧ w'.heap.size = w.heap.size + 1 ∧ Below w.heap.size w w' := by
  go_enter Tryd.func43, Tryd.ntmps43
  go_wp2
  go_ret
  exact ⟨rfl, Blk.new _ _ _, by simp, (Below.refl _ _).alloc (Nat.le_refl _) _⟩
set_option maxRecDepth 100000 in
theorem newDecoder (ra : Option Addr) (n rc : Nat) (tr : Value) (em : Bool) (w : World) (T : TypeId) (tv : Value) (ht : tr = .iface T tv) :
    Calls Tryd.prog 29 #[.slice ra n rc, tr, .bool em] w fun e w' => e = .returned (.pointer (some ⟨w.heap.size + 1, 0, none⟩)) ∧ Blk w' w.heap.size (zs 4096 (.int .u8 0)).toArray 5 ∧
      Blk w' (w.heap.size + 1) #[.slice ra n rc, .int .i64 0, .nilIface, .slice (some ⟨w.heap.size, 0, none⟩) 4096 4096, tr, .int .i64 0, .bool false, .bool em] 87 ∧ Below w.heap.size w w' := by
  subst ht
  go_enter Tryd.func29, Tryd.ntmps29
  go_wp2_with (refine wpList_make_z rfl _ _ 24 rfl 5 (.int .u8 0) 1 Tryd.underlying24 infoB rfl .i64 .i64 4096 4096 4096 rfl rfl rfl rfl (by decide) (by decide) ?_)
  intro w1 hb hl hs
  have HB := Hd.mk hb; have HL := Hd.mk hl; have HS := Hd.mk hs
  clear hb hl hs
  go_wp2
  go_ret
  have e : w1.heap.size = w.heap.size + 1 := HS.out
  refine ⟨by rw [← e]; rfl, HB.out.alloc _, ?_, HL.out.alloc HL.out.size _⟩
  rw [← e]
  exact Blk.new _ _ _
set_option maxRecDepth 100000 in
theorem setDfv1 (d : Nat) (b v0 : Bool) (v : Array Value) (T : TypeId) (w : World) (h : Blk w d v T) (hv : v[6]? = some (.bool v0)) :
    Calls Tryd.prog 31 #[.pointer (some ⟨d, 0, none⟩), .bool b] w fun e w' => e = .returned (.tuple #[]) ∧ w' = w.setCell ⟨d, 6, none⟩ (.bool b) := by
  have c6 := h.cell 6 hv
  have f6 := h.free 6
  clear h hv
  go_enter Tryd.func31, Tryd.ntmps31
  go_wp2
  go_end0
  exact ⟨rfl, rfl⟩
/-- What a new Decoder is. -/
def NewDec (w : World) (ra : Option Addr) (rc : Nat) (xs : List Int) (a em : Bool) (e : Ending) (w' : World) : Prop :=
  ∃ K : DK, e = .returned (.pointer (some ⟨K.d, 0, none⟩)) ∧ K.ra = ra ∧ K.rc = rc ∧ K.xs = xs ∧ K.a = a ∧ K.e = em ∧ w.heap.size ≤ K.d ∧ w.heap.size ≤ K.sb ∧
    (∃ tb, w.heap.size ≤ tb ∧ tb ≠ K.d ∧ tb ≠ K.sb ∧ K.tr = .iface 92 (.pointer (some ⟨tb, 0, none⟩)) ∧ Blk w' tb #[.nilFunc] 128) ∧ Dec K w' 0 .nilIface ∧ Below w.heap.size w w'
set_option maxRecDepth 100000 in
theorem decoder_new (ra : Option Addr) (n rc : Nat) (xs : List Int) (a em : Bool) (w : World) (h : Rd w [] ra n xs) (hn : n ≤ rc) (hr : rc ≤ maxLen) (hby : ∀ x ∈ xs, 0 ≤ x ∧ x < 256) :
    Calls Tryd.prog 16 #[.slice ra n rc, .bool a, .bool em] w fun e w' => NewDec w ra rc xs a em e w' := by
  have H := Hd.mk h; have HY := Hd.mk hby
  clear h hby
  go_enter Tryd.func16, Tryd.ntmps16
  go_wp2_with fail
  with_reducible refine (defaultDecoder _).mono ?_
  rintro e w1 ⟨rfl, hb1, hs1, hl1⟩
  have B1 := Hd.mk hb1; have S1 := Hd.mk hs1; have L1 := Hd.mk hl1
  clear hb1 hs1 hl1
  go_wp2_with fail
  with_reducible refine (newDecoder ra n rc _ em w1 _ _ rfl).mono ?_
  rintro e w2 ⟨rfl, hb2, hc2, hl2⟩
  have B2 := Hd.mk hb2; have C2 := Hd.mk hc2; have L2 := Hd.mk hl2
  clear hb2 hc2 hl2
  go_wp2_with fail
  with_reducible refine (setDfv1 (w1.heap.size + 1) a false _ _ _ C2.out rfl).mono ?_
  rintro e w3 ⟨rfl, rfl⟩
  go_wp2
  go_ret
  have e1 := S1.out
  have l1 := L1.out.size
  have hlen := H.out.len
  have hbl : Below w.heap.size w w2 := L1.out.trans (L2.out.mono (by omega))
  have hr3 : Rd (w2.setCell ⟨w1.heap.size + 1, 6, none⟩ (.bool a)) [w1.heap.size + 1, w1.heap.size] ra n xs := (((H.out.more (S' := [w1.heap.size + 1, w1.heap.size]) (fun x hx _ => by simp at hx; omega)).below hbl).set (by simp) _)
  refine ⟨⟨w1.heap.size + 1, w1.heap.size, ra, rc, xs, _, a, em⟩, rfl, rfl, rfl, rfl, rfl, rfl, by simp; omega, by simp; omega, ⟨w.heap.size, Nat.le_refl _, by simp; omega, by simp; omega, rfl, ?_⟩, ⟨⟨(C2.out.set 6 _).cast (by simp [hlen]), ?_, by simp, by simp, by simpa [hlen] using hn, hr, by simp⟩, ⟨_, zs_len _ _, B2.out.set_ne (p := ⟨w1.heap.size + 1, 6, none⟩) (by simp) _⟩, HY.out⟩, hbl.setCell (by simp; omega) _⟩
  · exact ((B1.out.below L2.out (by omega)).set_ne (p := ⟨w1.heap.size + 1, 6, none⟩) (by simp; omega) _)
  · simp only []
    rw [hlen]
    exact hr3
set_option maxRecDepth 100000 in
theorem newEncoder (wr : Nat) (tr : Value) (w : World) (T : TypeId) (tv : Value) (ht : tr = .iface T tv) :
    Calls Tryd.prog 42 #[.pointer (some ⟨wr, 0, none⟩), tr] w fun e w' => e = .returned (.pointer (some ⟨w.heap.size + 1, 0, none⟩)) ∧ Blk w' w.heap.size (zs 4096 (.int .u8 0)).toArray 5 ∧
      Blk w' (w.heap.size + 1) #[.pointer (some ⟨wr, 0, none⟩), .slice (some ⟨w.heap.size, 0, none⟩) 4096 4096, tr] 105 ∧ Below w.heap.size w w' := by
  subst ht
  go_enter Tryd.func42, Tryd.ntmps42
  go_wp2_with (refine wpList_make_z rfl _ _ 24 rfl 5 (.int .u8 0) 1 Tryd.underlying24 infoB rfl .i64 .i64 4096 4096 4096 rfl rfl rfl rfl (by decide) (by decide) ?_)
  intro w1 hb hl hs
  have HB := Hd.mk hb; have HL := Hd.mk hl; have HS := Hd.mk hs
  clear hb hl hs
  go_wp2
  go_ret
  have e : w1.heap.size = w.heap.size + 1 := HS.out
  refine ⟨by rw [← e]; rfl, HB.out.alloc _, ?_, HL.out.alloc HL.out.size _⟩
  rw [← e]
  exact Blk.new _ _ _
/-- What a new Encoder is. -/
def NewEnc (w : World) (wr : Nat) (e : Ending) (w' : World) : Prop :=
  ∃ (eb sb tb : Nat), e = .returned (.pointer (some ⟨eb, 0, none⟩)) ∧ w.heap.size ≤ eb ∧ w.heap.size ≤ sb ∧ w.heap.size ≤ tb ∧ eb ≠ sb ∧ tb ≠ eb ∧ tb ≠ sb ∧
    Blk w' eb #[.pointer (some ⟨wr, 0, none⟩), .slice (some ⟨sb, 0, none⟩) 4096 4096, .iface 106 (.pointer (some ⟨tb, 0, none⟩))] 105 ∧ Blk w' sb (zs 4096 (.int .u8 0)).toArray 5 ∧
    Blk w' tb #[.nilFunc] 139 ∧ Below w.heap.size w w'
set_option maxRecDepth 100000 in
theorem encoder_new (wr : Nat) (w : World) :
    Calls Tryd.prog 25 #[.pointer (some ⟨wr, 0, none⟩)] w fun e w' => NewEnc w wr e w' := by
  go_enter Tryd.func25, Tryd.ntmps25
  go_wp2_with fail
  with_reducible refine (defaultEncoder _).mono ?_
  rintro e w1 ⟨rfl, hb1, hs1, hl1⟩
  have B1 := Hd.mk hb1; have S1 := Hd.mk hs1; have L1 := Hd.mk hl1
  clear hb1 hs1 hl1
  go_wp2_with fail
  with_reducible refine (newEncoder wr _ w1 _ _ rfl).mono ?_
  rintro e w2 ⟨rfl, hb2, hc2, hl2⟩
  have B2 := Hd.mk hb2; have C2 := Hd.mk hc2; have L2 := Hd.mk hl2
  clear hb2 hc2 hl2
  go_wp2
  go_ret
  have e1 := S1.out
  have l1 := L1.out.size
  exact ⟨w1.heap.size + 1, w1.heap.size, w.heap.size, rfl, by omega, by omega, Nat.le_refl _, by omega, by omega, by omega, C2.out, B2.out, B1.out.below L2.out (by omega), L1.out.trans (L2.out.mono (by omega))⟩
/-- An Encoder to begin with: nothing is written yet. -/
theorem Enc.start {w : World} {wr eb sb : Nat} {tr : Value} (h1 : Blk w eb #[.pointer (some ⟨wr, 0, none⟩), .slice (some ⟨sb, 0, none⟩) 4096 4096, tr] 105) (h2 : Blk w sb (zs 4096 (.int .u8 0)).toArray 5)
    (h3 : Blk w wr #[.slice none 0 0] 60) (n1 : eb ≠ sb) (n2 : eb ≠ wr) (n3 : sb ≠ wr) : Enc ⟨eb, sb, wr, tr, w.heap.size⟩ w [] :=
  ⟨h1, ⟨_, zs_len _ _, h2⟩, ⟨_, h3, World.ownsRow_nil _ _ _ _⟩, n1, n2, n3, h1.lt, h2.lt, h3.lt, Nat.le_refl _, by simp⟩
end Go.Proofs.YtmgckcngedpgoaaDoor.Kb
