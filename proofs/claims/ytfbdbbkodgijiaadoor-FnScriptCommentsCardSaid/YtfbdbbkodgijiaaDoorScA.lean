/- Statements of a text: the scanner: one character. -/
import Derived.Test.YtfbdbbkodgijiaaDoorScQ
import Derived.Test.YtfbdbbkodgijiaaDoorStep
namespace Go.Proofs.YtfbdbbkodgijiaaDoor.Kb
open Go Go.RowKit
set_option linter.unusedVariables false
set_option linter.unusedSimpArgs false
set_option maxHeartbeats 4000000
/-- The error of the end. -/
def endE : Value := .iface 51 (.agg #[])
theorem infoB : (Tryd.prog.info? 5).map (fun i => (i.zero, i.size, i.bytes)) = some (some (.int .u8 0), 1, 1) := by kernel_rfl
set_option maxRecDepth 100000 in
theorem next_some (s g off n c x : Nat) (w : World) (h2 : w.cell? ⟨s, 2, none⟩ = some (.slice (some ⟨g, off, none⟩) (n + 1) c)) (hx : w.cell? ⟨g, off, none⟩ = some (.int .u8 x)) (h7 : x < 128) :
    Calls Tryd.prog 31 #[.pointer (some ⟨s, 0, none⟩)] w fun e w' => e = .returned (.tuple #[.int .i32 x, .int .i64 1, .nilIface]) ∧ w' = w := by
  have h7' : (x : Int) < 128 := by omega
  have hn : ¬ ((n : Int) + 1 < 1) := by omega
  have hwr : IntKind.i32.wrap (x : Int) = x := by rw [IntKind.wrap_i32]; omega
  clear h7
  go_enter Tryd.func31, Tryd.ntmps31
  go_wp2
  go_ret3
  exact ⟨rfl, rfl⟩
set_option maxRecDepth 100000 in
theorem next_none (s c : Nat) (A : Option Addr) (w : World) (h2 : w.cell? ⟨s, 2, none⟩ = some (.slice A 0 c)) :
    Calls Tryd.prog 31 #[.pointer (some ⟨s, 0, none⟩)] w fun e w' => e = .returned (.tuple #[.int .i32 (-1), .int .i64 0, endE]) ∧ w' = w := by
  go_enter Tryd.func31, Tryd.ntmps31
  go_wp2
  go_ret3
  exact ⟨rfl, rfl⟩
/-- The data's bytes, from place off of block g on. -/
def DataAt (w : World) (g off : Nat) (xs : List Nat) : Prop := ∀ j (h : j < xs.length), w.cell? ⟨g, off + j, none⟩ = some (.int .u8 (xs[j] : Nat))
theorem DataAt.head {w : World} {g off x : Nat} {xs : List Nat} (h : DataAt w g off (x :: xs)) : w.cell? ⟨g, off, none⟩ = some (.int .u8 x) := h 0 (by simp)
theorem DataAt.tail {w : World} {g off x : Nat} {xs : List Nat} (h : DataAt w g off (x :: xs)) : DataAt w g (off + 1) xs := fun j hj => by
  have := h (j + 1) (by simp; omega)
  rw [show off + 1 + j = off + (j + 1) by omega]
  simpa using this
theorem DataAt.nil (w : World) (g off : Nat) : DataAt w g off [] := fun j hj => by simp at hj
theorem DataAt.drop {w : World} {g off : Nat} : ∀ {a b : List Nat}, DataAt w g off (a ++ b) → DataAt w g (off + a.length) b
  | [], _, h => h
  | x :: a, b, h => by
    have := DataAt.drop (a := a) (b := b) (h.tail (xs := a ++ b))
    rw [show off + (x :: a).length = off + 1 + a.length by simp; omega]
    exact this
theorem DataAt.of_block {w w' : World} {g off : Nat} {xs : List Nat} (h : DataAt w g off xs) (hb : w'.heap[g]? = w.heap[g]?) : DataAt w' g off xs := fun j hj => by
  rw [World.cell?_of_block (w := w) (a := ⟨g, off + j, none⟩) hb]; exact h j hj
/-- The scanner: its block, its data, its token. -/
structure Sc (w0 : World) (s sep : Nat) (com eof : Bool) (g off : Nat) (A : Option Addr) (c : Nat) (xs : List Nat) (v : Value) (tok : List Nat) (w : World) : Prop where
  blk : Blk w s #[.int .i32 sep, .bool com, .slice A xs.length c, .bool eof, v] 42
  own : w.ownsRow w0.heap.size 5 1 v tok.length (bc (nb tok))
  addr : xs ≠ [] → A = some ⟨g, off, none⟩
  data : DataAt w g off xs
  cap : xs.length ≤ c ∧ c ≤ maxLen
  bel : Bel w0.heap.size [s] w0 w
  sl : s < w0.heap.size
  gl : g < w0.heap.size ∧ g ≠ s
def ScE (w0 : World) (s sep : Nat) (com eof : Bool) (g : Nat) (xs tok : List Nat) (w : World) : Prop := ∃ off A c v, Sc w0 s sep com eof g off A c xs v tok w
section
variable {w0 w w' : World} {s sep g off c : Nat} {com eof : Bool} {A : Option Addr} {xs tok : List Nat} {v : Value}
theorem Sc.drewN (S : Sc w0 s sep com eof g off A c xs v tok w) (n : Nat) : Sc w0 s sep com eof g off A c xs v tok (w.drewN n) :=
  ⟨S.blk.drewN n, S.own, S.addr, S.data, S.cap, S.bel.drewN n, S.sl, S.gl⟩
theorem Sc.drew (S : Sc w0 s sep com eof g off A c xs v tok w) : Sc w0 s sep com eof g off A c xs v tok w.drew := ⟨S.blk.drew, S.own, S.addr, S.data, S.cap, S.bel.drew, S.sl, S.gl⟩
theorem Sc.alloc (S : Sc w0 s sep com eof g off A c xs v tok w) (o : Obj) : Sc w0 s sep com eof g off A c xs v tok (w.alloc o) :=
  ⟨S.blk.alloc o, S.own.alloc o, S.addr, S.data.of_block (Below.heap_alloc w o g (Nat.lt_of_lt_of_le S.gl.1 S.bel.size)), S.cap, S.bel.alloc S.bel.size o, S.sl, S.gl⟩
/-- The data behind a store. -/
theorem Sc.put (S : Sc w0 s sep com eof g off A c xs v tok w) (off' : Nat) (A' : Option Addr) (c' : Nat) (ys : List Nat) (ha : ys ≠ [] → A' = some ⟨g, off', none⟩) (hd : DataAt w g off' ys) (hc : ys.length ≤ c' ∧ c' ≤ maxLen) :
    Sc w0 s sep com eof g off' A' c' ys v tok (w.setCell ⟨s, 2, none⟩ (.slice A' ys.length c')) :=
  ⟨S.blk.set 2 _, own_set_lt S.own S.sl _, ha, hd.of_block (Below.heap_setCell _ _ _ _ S.gl.2), hc, S.bel.set (.inr (by simp)) _, S.sl, S.gl⟩
/-- The token behind a store. -/
theorem Sc.grow (S : Sc w0 s sep com eof g off A c xs v tok w) (hg : w.grownBy w' v.ownBlock) {v' : Value} {t : List Nat} (ho : w'.ownsRow w0.heap.size 5 1 v' t.length (bc (nb t))) :
    Sc w0 s sep com eof g off A c xs v' t (w'.setCell ⟨s, 4, none⟩ v') := by
  have hk : ∀ j, v.ownBlock = some j → w0.heap.size ≤ j := fun j hj => (S.own.lt j hj).1
  have hs : v.ownBlock ≠ some s := fun e => by have := hk s e; have := S.sl; omega
  have hgg : v.ownBlock ≠ some g := fun e => by have := hk g e; have := S.gl.1; omega
  have hlt : g < w.heap.size := Nat.lt_of_lt_of_le S.gl.1 S.bel.size
  exact ⟨(S.blk.grown hg hs).set 4 _, own_set_lt ho S.sl _, S.addr, (S.data.of_block (hg.block g hlt (fun e => hgg e.symm))).of_block (Below.heap_setCell _ _ _ _ S.gl.2), S.cap,
    (S.bel.grown hg S.bel.size (fun k h => .inl (hk k h))).set (.inr (by simp)) _, S.sl, S.gl⟩
end
set_option maxRecDepth 100000 in
theorem peek_some {w0 w : World} {s sep g x : Nat} {com eof : Bool} {xs tok : List Nat} (hx : x < 128) (S : ScE w0 s sep com eof g (x :: xs) tok w) :
    Calls Tryd.prog 24 #[.pointer (some ⟨s, 0, none⟩)] w fun e w' => e = .returned (.tuple #[.int .i32 x, .nilIface]) ∧ w' = w := by
  obtain ⟨off, A, c, v, S⟩ := S
  have C := Hd.mk (next_some s g off xs.length c x w (by have := S.blk.cell 2 rfl; rw [this, S.addr (by simp)]; rfl) S.data.head hx)
  clear S
  go_enter Tryd.func24, Tryd.ntmps24
  go_wp2_with fail
  with_reducible refine C.out.mono ?_
  rintro e w1 ⟨rfl, rfl⟩
  clear C
  go_wp2
  go_ret2
  exact ⟨rfl, rfl⟩
set_option maxRecDepth 100000 in
theorem peek_none {w0 w : World} {s sep g : Nat} {com eof : Bool} {tok : List Nat} (S : ScE w0 s sep com eof g [] tok w) :
    Calls Tryd.prog 24 #[.pointer (some ⟨s, 0, none⟩)] w fun e w' => e = .returned (.tuple #[.int .i32 (-1), endE]) ∧ w' = w := by
  obtain ⟨off, A, c, v, S⟩ := S
  have C := Hd.mk (next_none s c A w (S.blk.cell 2 rfl))
  clear S
  go_enter Tryd.func24, Tryd.ntmps24
  go_wp2_with fail
  with_reducible refine C.out.mono ?_
  rintro e w1 ⟨rfl, rfl⟩
  clear C
  go_wp2
  go_ret2
  exact ⟨rfl, rfl⟩
set_option maxRecDepth 100000 in
theorem read_some {w0 w : World} {s sep g x : Nat} {com eof : Bool} {xs tok : List Nat} (hx : x < 128) (S : ScE w0 s sep com eof g (x :: xs) tok w) :
    Calls Tryd.prog 26 #[.pointer (some ⟨s, 0, none⟩)] w fun e w' => e = .returned (.tuple #[.int .i32 x, .nilIface]) ∧ ScE w0 s sep com eof g xs tok w' := by
  obtain ⟨off, A, c, v, S⟩ := S
  have hA := S.addr (by simp)
  subst hA
  have c2 : w.cell? ⟨s, 2, none⟩ = some (.slice (some ⟨g, off, none⟩) (xs.length + 1) c) := S.blk.cell 2 rfl
  have f2 := S.blk.free 2
  have C := Hd.mk (next_some s g off xs.length c x w c2 S.data.head hx)
  have h1 : (1 : Int) ≤ c := by have := S.cap.1; simp at this; omega
  have h2 : ((xs.length : Int) + 1) ≤ c := by have := S.cap.1; simp at this; omega
  have h3 : (c : Int) ≤ 9223372036854775807 := by have := S.cap.2; unfold maxLen at this; omega
  have h4 : (0 : Int) ≤ xs.length := by omega
  have HS := Hd.mk S
  obtain ⟨n, hn⟩ : ∃ n, xs.length = n := ⟨_, rfl⟩
  have HN := Hd.mk hn
  rw [hn] at c2 h2 h4
  clear S hn
  by_cases hc : c = 1
  · subst hc
    obtain rfl : n = 0 := by omega
    have HX : Hd (xs = []) := ⟨List.eq_nil_of_length_eq_zero HN.out⟩
    go_enter Tryd.func26, Tryd.ntmps26
    go_wp2_with fail
    with_reducible refine C.out.mono ?_
    rintro e w1 ⟨rfl, rfl⟩
    clear C
    go_wp2
    go_ret2
    refine ⟨rfl, ?_⟩
    have := HS.out.put off (some ⟨g, off, none⟩) 0 xs (by rw [HX.out]; simp) (by rw [HX.out]; exact DataAt.nil _ _ _) (by rw [HX.out]; simp [maxLen])
    rw [HN.out] at this
    exact ⟨_, _, _, _, this⟩
  · go_enter Tryd.func26, Tryd.ntmps26
    go_wp2_with fail
    with_reducible refine C.out.mono ?_
    rintro e w1 ⟨rfl, rfl⟩
    clear C
    go_wp2
    go_ret2
    refine ⟨rfl, ?_⟩
    have := HS.out.put (off + 1) (some ⟨g, off + 1, none⟩) (c - 1) xs (fun _ => rfl) HS.out.data.tail (by have := HS.out.cap; simp at this; omega)
    rw [HN.out] at this
    exact ⟨_, _, _, _, this⟩
set_option maxRecDepth 100000 in
theorem read_none {w0 w : World} {s sep g : Nat} {com eof : Bool} {tok : List Nat} (S : ScE w0 s sep com eof g [] tok w) :
    Calls Tryd.prog 26 #[.pointer (some ⟨s, 0, none⟩)] w fun e w' => e = .returned (.tuple #[.int .i32 (-1), endE]) ∧ ScE w0 s sep com eof g [] tok w' := by
  obtain ⟨off, A, c, v, S⟩ := S
  have c2 : w.cell? ⟨s, 2, none⟩ = some (.slice A 0 c) := S.blk.cell 2 rfl
  have f2 := S.blk.free 2
  have C := Hd.mk (next_none s c A w c2)
  have h1 : (0 : Int) ≤ c := by omega
  have h3 : (c : Int) ≤ 9223372036854775807 := by have := S.cap.2; unfold maxLen at this; omega
  have HS := Hd.mk S
  clear S
  by_cases hc : c = 0
  · subst hc
    go_enter Tryd.func26, Tryd.ntmps26
    go_wp2_with fail
    with_reducible refine C.out.mono ?_
    rintro e w1 ⟨rfl, rfl⟩
    clear C
    go_wp2
    go_ret2
    refine ⟨rfl, ?_⟩
    have := HS.out.put off A 0 [] (by simp) (DataAt.nil _ _ _) (by simp [maxLen])
    exact ⟨_, _, _, _, this⟩
  · have hc' : ¬ (c : Int) = 0 := by omega
    go_enter Tryd.func26, Tryd.ntmps26
    go_wp2_with fail
    with_reducible refine C.out.mono ?_
    rintro e w1 ⟨rfl, rfl⟩
    clear C
    go_wp2
    go_ret2
    refine ⟨rfl, ?_⟩
    have := HS.out.put off (A.map (·.add 0)) c [] (by simp) (DataAt.nil _ _ _) HS.out.cap
    first
    | exact ⟨_, _, _, _, this⟩
    | (have := HS.out.put off A c [] (by simp) (DataAt.nil _ _ _) HS.out.cap; exact ⟨_, _, _, _, this⟩)
set_option maxRecDepth 100000 in
theorem utf8Append (B : Nat) (v : Value) (tok : List Nat) (x : Nat) (hx : x < 128) (w : World) (hown : w.ownsRow B 5 1 v tok.length (bc (nb tok))) (hl : tok.length ≤ 1000000) (hB : B ≤ w.heap.size) :
    Calls Tryd.prog 29 #[v, .int .i32 x] w fun e w' => ∃ v', e = .returned v' ∧ w'.ownsRow B 5 1 v' (tok ++ [x]).length (bc (nb (tok ++ [x]))) ∧ w.grownBy w' v.ownBlock := by
  obtain ⟨i0, hi, hz0, hz1, hz2⟩ := info_of infoB
  have I := Hd.mk (And.intro hi (And.intro hz0 (And.intro hz1 hz2)))
  have h1 : IntKind.u32.wrap (x : Int) = x := by rw [IntKind.wrap_u32]; omega
  have h2 : IntKind.u8.wrap (x : Int) = x := by rw [IntKind.wrap_u8]; omega
  have h3 : (x : Int) ≤ 127 := by omega
  have HO := Hd.mk (hown.alloc (.cells #[.int .u8 x] 5))
  have HB := Hd.mk hB
  clear hown hi hz0 hz1 hz2 hx hB
  go_enter Tryd.func29, Tryd.ntmps29
  go_wp2_with (at_builtin; refine wpList_append_one rfl (.tmp 8) (.tmp 11) 24 rfl Tryd.underlying24 I.out.1 I.out.2.1 I.out.2.2.1 I.out.2.2.2 rfl rfl HO.out (by simp [Act.eval, Act.put]) (Blk.new w #[.int .u8 x] 5) rfl (by unfold maxLen; omega) (by omega) (by have := HB.out; simp; omega) ?_)
  intro v1 w1 own1 g1
  have HO1 := Hd.mk own1
  have HG1 := Hd.mk g1
  clear own1 g1
  go_wp2
  go_ret
  refine ⟨_, rfl, ?_, ?_⟩
  · have := HO1.out
    simpa [nb_append, nb] using this
  · have h := HG1.out
    exact ⟨h.os, h.tape, h.output, Nat.le_trans (by simp) h.size, fun k hk hs => (h.block k (by simp; omega) hs).trans (Below.heap_alloc _ _ _ hk)⟩
set_option maxRecDepth 100000 in
theorem appendRune {w0 w : World} {s sep g : Nat} {com eof : Bool} {xs tok : List Nat} (x : Nat) (hx : x < 128) (hl : tok.length ≤ 1000000) (S : ScE w0 s sep com eof g xs tok w) :
    Calls Tryd.prog 22 #[.pointer (some ⟨s, 0, none⟩), .int .i32 x] w fun e w' => e = .returned (.tuple #[]) ∧ ScE w0 s sep com eof g xs (tok ++ [x]) w' := by
  obtain ⟨off, A, c, v, S⟩ := S
  have c4 : w.cell? ⟨s, 4, none⟩ = some v := S.blk.cell 4 rfl
  have f4 := S.blk.free 4
  have C := Hd.mk (utf8Append w0.heap.size v tok x hx w S.own hl S.bel.size)
  have HS := Hd.mk S
  clear S
  go_enter Tryd.func22, Tryd.ntmps22
  go_wp2_with fail
  with_reducible refine C.out.mono ?_
  intro e w1 h1
  obtain ⟨v1, rfl, hown, hg⟩ := h1
  obtain ⟨A1, c1, rfl, _, _⟩ := own_slice hown
  have S1 := Hd.mk (HS.out.grow hg hown)
  have hs : v.ownBlock ≠ some s := fun e => by have := (HS.out.own.lt s e).1; have := HS.out.sl; omega
  have f4 := (HS.out.blk.grown hg hs).free 4
  have c4' : w1.cell? ⟨s, 4, none⟩ = some v := (HS.out.blk.grown hg hs).cell 4 rfl
  clear hown hg C c4 hs
  go_wp2
  go_end0
  have S2 := S1.out
  rw [show (tok ++ [x]).length = tok.length + 1 by simp] at S2
  exact ⟨rfl, _, _, _, _, S2⟩
set_option maxRecDepth 100000 in
theorem isSpace (x : Nat) (hx : x < 128) (w : World) : Calls Tryd.prog 25 #[.int .i32 x] w fun e w' => e = .returned (.bool (sp x)) ∧ w' = w := by
  rcases (by omega : x = 9 ∨ x = 10 ∨ x = 11 ∨ x = 12 ∨ x = 13 ∨ x = 32 ∨ ((x < 9 ∨ (13 < x ∧ x < 32) ∨ 32 < x))) with rfl | rfl | rfl | rfl | rfl | rfl | h
  · go_enter Tryd.func25, Tryd.ntmps25
    go_wp2
    go_ret
    exact ⟨rfl, rfl⟩
  · go_enter Tryd.func25, Tryd.ntmps25
    go_wp2
    go_ret
    exact ⟨rfl, rfl⟩
  · go_enter Tryd.func25, Tryd.ntmps25
    go_wp2
    go_ret
    exact ⟨rfl, rfl⟩
  · go_enter Tryd.func25, Tryd.ntmps25
    go_wp2
    go_ret
    exact ⟨rfl, rfl⟩
  · go_enter Tryd.func25, Tryd.ntmps25
    go_wp2
    go_ret
    exact ⟨rfl, rfl⟩
  · go_enter Tryd.func25, Tryd.ntmps25
    go_wp2
    go_ret
    exact ⟨rfl, rfl⟩
  · have HX : Hd (sp x = false) := ⟨by unfold sp; simp; omega⟩
    have e1 : ((x : Int) == 9) = false := by simp; omega
    have e2 : ((x : Int) == 10) = false := by simp; omega
    have e3 : ((x : Int) == 11) = false := by simp; omega
    have e4 : ((x : Int) == 12) = false := by simp; omega
    have e5 : ((x : Int) == 13) = false := by simp; omega
    have e6 : ((x : Int) == 32) = false := by simp; omega
    have e7 : ((x : Int) == 133) = false := by simp; omega
    have e8 : ((x : Int) == 160) = false := by simp; omega
    have e9 : ((x : Int) == 5760) = false := by simp; omega
    have e10 : ((x : Int) == 8232) = false := by simp; omega
    have e11 : ((x : Int) == 8233) = false := by simp; omega
    have e12 : ((x : Int) == 8239) = false := by simp; omega
    have e13 : ((x : Int) == 8287) = false := by simp; omega
    have e14 : ((x : Int) == 12288) = false := by simp; omega
    have e15 : ¬ (8192 : Int) ≤ x := by omega
    clear h
    go_enter Tryd.func25, Tryd.ntmps25
    go_wp2
    go_ret
    exact ⟨by rw [HX.out]; rfl, rfl⟩
end Go.Proofs.YtfbdbbkodgijiaaDoor.Kb
