/- FnLobChunks: what the loop of impl.LobChunks holds. -/
import Derived.Test.YtagmjnlimiconaaLcA
import Derived.Test.YtagmjnlimiconaaStep
namespace Go.Proofs.Ytagmjnlimiconaa.Kb
open Go Go.RowKit
set_option linter.unusedVariables false
set_option linter.unusedSimpArgs false
set_option maxHeartbeats 2000000
/-- Piece i of so many bytes. -/
def chunk (xs : List Int) (N i : Nat) : List Int := (xs.drop (i * N)).take N
theorem chunk_len (xs : List Int) (N i : Nat) : (chunk xs N i).length ≤ N := by unfold chunk; simp; omega
/-- The result cells r, r + 1, r + 2, and the rows that are made. Pieces lie in blocks below H. -/
structure LobS (w0 : World) (xs : List Int) (N H : Nat) (c4 c5 : Value) (k4 : Nat) (os : List Value) (v4 : Value) (k5 : Nat) (vs : List Value) (v5 : Value) (D : Array Value) (w : World) : Prop where
  b0 : Blk w w0.heap.size #[c4] 23
  b1 : Blk w (w0.heap.size + 1) #[c5] 24
  b2 : Blk w (w0.heap.size + 1 + 1) #[.int .i64 0] 3
  b3 : Blk w (w0.heap.size + 1 + 1 + 1) D 46
  o4 : w.ownsRow (w0.heap.size + 1 + 1 + 1 + 1) 3 1 v4 k4 os
  o5 : w.ownsRow (w0.heap.size + 1 + 1 + 1 + 1) 22 1 v5 k5 vs
  pc : ∀ i (h : i < vs.length), w.ownsRow (w0.heap.size + 1 + 1 + 1 + 1) 5 1 vs[i] (chunk xs N i).length (bc (chunk xs N i)) ∧ ∀ k, vs[i].ownBlock = some k → k < H
  bel : Below w0.heap.size w0 w
  big : w0.heap.size + 1 + 1 + 1 + 1 ≤ w.heap.size
section
variable {w0 w w' : World} {xs : List Int} {N H k4 k5 : Nat} {c4 c5 v4 v5 : Value} {os vs : List Value} {D : Array Value}
theorem LobS.alloc (S : LobS w0 xs N H c4 c5 k4 os v4 k5 vs v5 D w) (o : Obj) : LobS w0 xs N H c4 c5 k4 os v4 k5 vs v5 D (w.alloc o) :=
  ⟨S.b0.alloc o, S.b1.alloc o, S.b2.alloc o, S.b3.alloc o, S.o4.alloc o, S.o5.alloc o, fun i h => ⟨(S.pc i h).1.alloc o, (S.pc i h).2⟩, S.bel.alloc S.bel.size o, by have := S.big; simp; omega⟩
theorem LobS.drew (S : LobS w0 xs N H c4 c5 k4 os v4 k5 vs v5 D w) : LobS w0 xs N H c4 c5 k4 os v4 k5 vs v5 D w.drew :=
  ⟨S.b0, S.b1, S.b2, S.b3, S.o4, S.o5, fun i h => ⟨(S.pc i h).1, (S.pc i h).2⟩, S.bel.drew, S.big⟩
theorem LobS.drewN (S : LobS w0 xs N H c4 c5 k4 os v4 k5 vs v5 D w) (n : Nat) : LobS w0 xs N H c4 c5 k4 os v4 k5 vs v5 D (w.drewN n) :=
  ⟨S.b0, S.b1, S.b2, S.b3, S.o4, S.o5, fun i h => ⟨(S.pc i h).1, (S.pc i h).2⟩, ⟨S.bel.os, S.bel.tape, S.bel.output, S.bel.size, S.bel.block⟩, S.big⟩
theorem LobS.more (S : LobS w0 xs N H c4 c5 k4 os v4 k5 vs v5 D w) {H' : Nat} (h : H ≤ H') : LobS w0 xs N H' c4 c5 k4 os v4 k5 vs v5 D w :=
  ⟨S.b0, S.b1, S.b2, S.b3, S.o4, S.o5, fun i hi => ⟨(S.pc i hi).1, fun k hk => by have := (S.pc i hi).2 k hk; omega⟩, S.bel, S.big⟩
/-- All pieces lie in blocks that are there. -/
theorem LobS.here (S : LobS w0 xs N H c4 c5 k4 os v4 k5 vs v5 D w) : LobS w0 xs N w.heap.size c4 c5 k4 os v4 k5 vs v5 D w :=
  ⟨S.b0, S.b1, S.b2, S.b3, S.o4, S.o5, fun i hi => ⟨(S.pc i hi).1, fun k hk => ((S.pc i hi).1.lt k hk).2⟩, S.bel, S.big⟩
theorem LobS.growA (S : LobS w0 xs N H c4 c5 k4 os v4 k5 vs v5 D w) (hg : w.grownBy w' v4.ownBlock) {k' : Nat} {os' : List Value} {v' : Value} (ho : w'.ownsRow (w0.heap.size + 1 + 1 + 1 + 1) 3 1 v' k' os') : LobS w0 xs N H c4 c5 k' os' v' k5 vs v5 D w' :=
  ⟨S.b0.grown_lt S.o4 (by omega) hg, S.b1.grown_lt S.o4 (by omega) hg, S.b2.grown_lt S.o4 (by omega) hg, S.b3.grown_lt S.o4 (by omega) hg, ho, own_grown S.o5 S.o4 (by decide) hg, fun i h => ⟨own_grown (S.pc i h).1 S.o4 (by decide) hg, (S.pc i h).2⟩, below_grown_own S.bel S.o4 S.bel.size (by omega) hg, Nat.le_trans S.big hg.size⟩
theorem LobS.growE (S : LobS w0 xs N H c4 c5 k4 os v4 k5 vs v5 D w) {n : Nat} {ys : List Value} {v : Value} (k : w.ownsRow (w0.heap.size + 1 + 1 + 1 + 1) 5 1 v n ys) (hb : ∀ j, v.ownBlock = some j → H ≤ j) (hg : w.grownBy w' v.ownBlock) : LobS w0 xs N H c4 c5 k4 os v4 k5 vs v5 D w' :=
  ⟨S.b0.grown_lt k (by omega) hg, S.b1.grown_lt k (by omega) hg, S.b2.grown_lt k (by omega) hg, S.b3.grown_lt k (by omega) hg, own_grown S.o4 k (by decide) hg, own_grown S.o5 k (by decide) hg, fun i h => ⟨(S.pc i h).1.kept hg (by
    cases hv : vs[i].ownBlock with
    | none => exact .inl rfl
    | some j => exact .inr (fun he => by have h1 := (S.pc i h).2 j hv; have h2 := hb j he.symm; omega)), (S.pc i h).2⟩, below_grown_own S.bel k S.bel.size (by omega) hg, Nat.le_trans S.big hg.size⟩
theorem LobS.growD (S : LobS w0 xs N H c4 c5 k4 os v4 k5 vs v5 D w) (hg : w.grownBy w' v5.ownBlock) {k' : Nat} {v' u : Value} (hk : k5 = vs.length) (ho : w'.ownsRow (w0.heap.size + 1 + 1 + 1 + 1) 22 1 v' k' (vs ++ [u])) (hu : w.ownsRow (w0.heap.size + 1 + 1 + 1 + 1) 5 1 u (chunk xs N k5).length (bc (chunk xs N k5))) : LobS w0 xs N w'.heap.size c4 c5 k4 os v4 k' (vs ++ [u]) v' D w' :=
  ⟨S.b0.grown_lt S.o5 (by omega) hg, S.b1.grown_lt S.o5 (by omega) hg, S.b2.grown_lt S.o5 (by omega) hg, S.b3.grown_lt S.o5 (by omega) hg, own_grown S.o4 S.o5 (by decide) hg, ho, fun i h => by
    have hh : w'.ownsRow (w0.heap.size + 1 + 1 + 1 + 1) 5 1 (vs ++ [u])[i] (chunk xs N i).length (bc (chunk xs N i)) := by
      by_cases hi : i < vs.length
      · rw [List.getElem_append_left hi]
        exact own_grown (S.pc i hi).1 S.o5 (by decide) hg
      · obtain rfl : i = vs.length := by simp at h; omega
        rw [List.getElem_append_right (by omega)]
        subst hk
        simpa using own_grown hu S.o5 (by decide) hg
    exact ⟨hh, fun k hk => (hh.lt k hk).2⟩, below_grown_own S.bel S.o5 S.bel.size (by omega) hg, Nat.le_trans S.big hg.size⟩
theorem LobS.store (S : LobS w0 xs N H c4 c5 k4 os v4 k5 vs v5 D w) (x y : Value) : LobS w0 xs N H x y k4 os v4 k5 vs v5 D ((w.setCell ⟨w0.heap.size, 0, none⟩ x).setCell ⟨w0.heap.size + 1, 0, none⟩ y) :=
  ⟨(S.b0.set 0 x).set_ne (by simp) y, (S.b1.set_ne (by simp) x).set 0 y, (S.b2.set_ne (by simp <;> omega) x).set_ne (by simp) y, (S.b3.set_ne (by simp <;> omega) x).set_ne (by simp <;> omega) y, own_set_lt (own_set_lt S.o4 (by simp <;> omega) x) (by simp <;> omega) y, own_set_lt (own_set_lt S.o5 (by simp <;> omega) x) (by simp <;> omega) y, fun i h => ⟨own_set_lt (own_set_lt (S.pc i h).1 (by simp <;> omega) x) (by simp <;> omega) y, (S.pc i h).2⟩, (S.bel.setCell (by simp) x).setCell (by simp) y, by have := S.big; simp [World.setCell]; omega⟩
theorem LobS.set3 (S : LobS w0 xs N H c4 c5 k4 os v4 k5 vs v5 D w) {D' : Array Value} (hD : Blk w' (w0.heap.size + 1 + 1 + 1) D' 46) (h : Bel w.heap.size [w0.heap.size + 1 + 1 + 1] w w') : LobS w0 xs N H c4 c5 k4 os v4 k5 vs v5 D' w' :=
  have own : ∀ {e n s : Nat} {v : Value} {ys : List Value}, w.ownsRow (w0.heap.size + 1 + 1 + 1 + 1) e s v n ys → w'.ownsRow (w0.heap.size + 1 + 1 + 1 + 1) e s v n ys := fun k =>
    k.kept (row := some (w0.heap.size + 1 + 1 + 1)) ⟨h.os, h.tape, h.output, h.size, fun j hj hs => h.block j hj (by simp at hs ⊢; omega)⟩ (.inr (fun he => by have := (k.lt _ he).1; omega))
  have big := S.big
  ⟨S.b0.bel h (by omega) (by simp <;> omega), S.b1.bel h (by omega) (by simp <;> omega), S.b2.bel h (by omega) (by simp), hD, own S.o4, own S.o5, fun i hi => ⟨own (S.pc i hi).1, (S.pc i hi).2⟩, S.bel.trans ((Bel.to' (h.weak (B' := w0.heap.size) (by omega) (S' := [w0.heap.size + 1 + 1 + 1]) (fun x hx _ => hx)) (by simp <;> omega))), by have := h.size; omega⟩
end
theorem infoInt : (Try.prog.info? 3).map (fun i => (i.zero, i.size, i.bytes)) = some (some (.int .i64 0), 1, 8) := by kernel_rfl
theorem infoSl : (Try.prog.info? 22).map (fun i => (i.zero, i.size, i.bytes)) = some (some (.slice none 0 0), 1, 24) := by kernel_rfl
theorem infoByte : (Try.prog.info? 5).map (fun i => (i.zero, i.size, i.bytes)) = some (some (.int .u8 0), 1, 1) := by kernel_rfl
end Go.Proofs.Ytagmjnlimiconaa.Kb
