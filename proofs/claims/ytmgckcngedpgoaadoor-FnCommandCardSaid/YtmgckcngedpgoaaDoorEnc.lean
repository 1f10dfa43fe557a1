/- The Writer's Write and the Encoder's Bytes: what they write. -/
import Derived.Test.YtmgckcngedpgoaaDoorLe
namespace Go.Proofs.YtmgckcngedpgoaaDoor.Kb
open Go Go.RowKit
set_option linter.unusedVariables false
set_option linter.unusedSimpArgs false
set_option maxHeartbeats 1000000
/-- What does not change in an Encoder: its block, its scratch row's, its Writer's, its transformer, and a number above them all. -/
structure EK where
  e : Nat
  sb : Nat
  wr : Nat
  tr : Value
  B : Nat
/-- An Encoder as it stands: out has been written. -/
structure Enc (K : EK) (w : World) (out : List Int) : Prop where
  blk : Blk w K.e #[.pointer (some ⟨K.wr, 0, none⟩), .slice (some ⟨K.sb, 0, none⟩) 4096 4096, K.tr] 105
  sc : ∃ Z : List Value, Z.length = 4096 ∧ Blk w K.sb Z.toArray 5
  own : ∃ v, Blk w K.wr #[v] 60 ∧ w.ownsRow K.B 5 1 v out.length (bc out)
  n1 : K.e ≠ K.sb
  n2 : K.e ≠ K.wr
  n3 : K.sb ≠ K.wr
  l1 : K.e < K.B
  l2 : K.sb < K.B
  l3 : K.wr < K.B
  le : K.B ≤ w.heap.size
  small : out.length ≤ 1000000000
/-- What a write leaves. -/
def Wrote (K : EK) (w : World) (out xs : List Int) (w' : World) : Prop := Enc K w' (out ++ xs) ∧ Bel K.B [K.sb, K.wr] w w'
theorem infoB : (Tryd.prog.info? 5).map (fun i => (i.zero, i.size, i.bytes)) = some (some (.int .u8 0), 1, 1) := by kernel_rfl
theorem Rd.addr {w : World} {S : List Nat} {A : Option Addr} {n : Nat} {xs : List Int} (h : Rd w S A n xs) (hA : A.isSome = true) : ∃ ad, A = some ad ∧ ∀ j u, (bc xs)[j]? = some u → w.cell? (ad.add j) = some u := by
  obtain ⟨ad, rfl⟩ := Option.isSome_iff_exists.1 hA
  refine ⟨ad, rfl, fun j u hu => ?_⟩
  rw [List.getElem?_map] at hu
  simp at hu
  obtain ⟨x, hx, rfl⟩ := hu
  obtain ⟨hj, rfl⟩ := List.getElem?_eq_some_iff.1 hx
  obtain ⟨ad', h1, h2, _⟩ := h.at_ j hj
  cases h1
  exact h2
theorem own_sliceE {w : World} {B : Nat} {e : TypeId} {s n : Nat} {v : Value} {xs : List Value} (h : w.ownsRow B e s v n xs) : ∃ p a b, v = .slice p a b := by
  obtain ⟨_, h⟩ := h
  rcases h with ⟨h, _⟩ | ⟨g, cap, cur, h, _⟩
  · exact ⟨_, _, _, h⟩
  · exact ⟨_, _, _, h⟩
set_option maxRecDepth 100000 in
theorem W_Write (K : EK) (out xs : List Int) (w : World) (h : Enc K w out) (A : Option Addr) (n c : Nat) (hp : Rd w [] A n xs) (hA : A.isSome = true) (hn : out.length + n ≤ 1000000000) :
    Calls Tryd.prog 70 #[.pointer (some ⟨K.wr, 0, none⟩), .slice A n c] w fun e w' => e = .returned (.tuple #[.int .i64 n, .nilIface]) ∧ Wrote K w out xs w' := by
  obtain ⟨v, hv, hown⟩ := h.own
  obtain ⟨ad, rfl, hcells⟩ := hp.addr hA
  have hlen := hp.len
  obtain ⟨i0, hi, hz0, hz1, hz2⟩ := info_of infoB
  have I := Hd.mk (And.intro hi (And.intro hz0 (And.intro hz1 hz2)))
  have c0 : w.cell? ⟨K.wr, 0, none⟩ = some v := hv.cell 0 rfl
  have HC := Hd.mk hcells
  have HL := Hd.mk hlen
  have H := Hd.mk h
  have HV := Hd.mk hv
  clear hi hz0 hz1 hz2 hcells hlen hp hA h hv
  go_enter Tryd.func70, Tryd.ntmps70
  go_wp2_with (at_builtin; refine wpList_append_own _ rfl _ _ 24 rfl K.B 5 i0 (.int .u8 0) 1 1 Tryd.underlying24 I.out.1 I.out.2.1 I.out.2.2.1 I.out.2.2.2 rfl (by decide) _ _ _ rfl hown ad n c (bc xs) rfl ?c0 ?c1 ?c2 ?c3 ?c4 ?c5 ?_)
  case c0 => simp [HL.out]
  case c1 => exact HC.out
  case c2 =>
    intro u hu
    obtain ⟨x, _, rfl⟩ := List.mem_map.1 hu
    rfl
  case c3 => unfold maxLen; omega
  case c4 => omega
  case c5 => exact H.out.le
  intro v' w1 hown' hgrow _
  have hne : v.ownBlock ≠ some K.wr := fun e => by have := (hown.lt K.wr e).1; have := H.out.l3; omega
  have hv1 := HV.out.grown hgrow hne
  have d0 : w1.cell? ⟨K.wr, 0, none⟩ = some v := hv1.cell 0 rfl
  have f0 := hv1.free 0
  have HO := Hd.mk hown; have HO' := Hd.mk hown'; have HG := Hd.mk hgrow; have HV1 := Hd.mk hv1
  clear hown hown' hgrow hv1 c0
  obtain ⟨p1, a1, b1, rfl⟩ := own_sliceE HO'.out
  go_wp2
  go_ret2
  have hb : Bel K.B [K.sb, K.wr] w (w1.setCell ⟨K.wr, 0, none⟩ (.slice p1 a1 b1)) := ((Bel.refl _ _ _).grown HG.out H.out.le (fun k hk => .inl (HO.out.lt k hk).1)).set (.inr (by simp)) _
  obtain ⟨h1, ⟨Z, hz, hZ⟩, _, h4, h5, h6, h7, h8, h9, h10, h11⟩ := H.out
  have h2 := fun (k : Nat) hk => (HO.out.lt k hk).1
  refine ⟨rfl, ⟨h1.grown HG.out (fun e => ?_) |>.set_ne (p := ⟨K.wr, 0, none⟩) (Ne.symm h5) _, ⟨Z, hz, hZ.grown HG.out (fun e => ?_) |>.set_ne (p := ⟨K.wr, 0, none⟩) (Ne.symm h6) _⟩, ⟨.slice p1 a1 b1, (HV1.out.set 0 _).cast (by simp), ?_⟩, h4, h5, h6, h7, h8, h9, ?_, ?_⟩, hb⟩
  · have := h2 _ e; omega
  · have := h2 _ e; omega
  · have hw := ownsRow_setCell_below HO'.out (a := ⟨K.wr, 0, none⟩) h9 (.slice p1 a1 b1)
    have e : bc (out ++ xs) = bc out ++ bc xs := List.map_append
    rw [List.length_append, HL.out, e]
    exact hw
  · exact Nat.le_trans h10 hb.size
  · rw [List.length_append, HL.out]; exact hn
/-- A row's first bytes can be read. -/
theorem rd_row {w : World} {g : Nat} {cs : Array Value} {t : TypeId} (h : Blk w g cs t) (xs : List Int) (hx : ∀ j (hj : j < xs.length), cs[j]? = some (.int .u8 xs[j])) (hs : xs.length ≤ 140737488351232) : Rd w [] (some ⟨g, 0, none⟩) xs.length xs :=
  ⟨rfl, hs, fun j hj => ⟨_, rfl, h.cellz j (hx j hj), h.lt, by simp⟩⟩
theorem wrote_of {K : EK} {w w1 w2 : World} {out xs : List Int} (hb : Bel K.B [K.sb, K.wr] w w1) (h : Wrote K w1 out xs w2) : Wrote K w out xs w2 := ⟨h.1, hb.trans h.2⟩
/-- The scratch row written. -/
theorem Enc.scr {K : EK} {w w1 : World} {out : List Int} (h : Enc K w out) (hb : Bel w.heap.size [K.sb] w w1) (Z : List Value) (hz : Z.length = 4096) (hZ : Blk w1 K.sb Z.toArray 5) : Enc K w1 out := by
  obtain ⟨h1, _, ⟨v, hv, hown⟩, h4, h5, h6, h7, h8, h9, h10, h11⟩ := h
  refine ⟨h1.bel hb h1.lt (by simp; exact h4), ⟨Z, hz, hZ⟩, ⟨v, hv.bel hb hv.lt (by simp; exact Ne.symm h6), ?_⟩, h4, h5, h6, h7, h8, h9, Nat.le_trans h10 hb.size, h11⟩
  refine hown.kept (row := some K.sb) ⟨hb.os, hb.tape, hb.output, hb.size, fun k hk hne => hb.block k hk (by simp; exact fun e => hne (by rw [e]))⟩ ?_
  cases e : v.ownBlock with
  | none => exact .inl rfl
  | some k => exact .inr (fun e2 => by have := (hown.lt k e).1; simp at e2; omega)
end Go.Proofs.YtmgckcngedpgoaaDoor.Kb
