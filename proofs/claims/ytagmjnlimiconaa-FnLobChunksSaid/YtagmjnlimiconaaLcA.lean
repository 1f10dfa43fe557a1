/- FnLobChunks: the descriptor of a lob: FetchNext, its parts, its end. -/
import Derived.Test.YtagmjnlimiconaaOwnr
import Derived.BigRegion
import Derived.Laws.BitsLemmas
namespace Go.Proofs.Ytagmjnlimiconaa.Kb
open Go Go.RowKit
set_option linter.unusedVariables false
set_option linter.unusedSimpArgs false
set_option maxHeartbeats 2000000
/-- What is left of a slice behind m elements. -/
def rest (A : Option Addr) (m c : Nat) : Option Addr := if c = m then A else A.map (·.add m)
/-- A descriptor's cells. -/
def lobD (A : Option Addr) (l c : Nat) (o p : Int) (A' : Option Addr) (l' c' : Nat) : Array Value := #[.slice A l c, .int .i8 o, .int .i64 p, .slice A' l' c']
def Fetched (g : Nat) (A : Option Addr) (l c m : Nat) (o p : Int) (w : World) (e : Ending) (w' : World) : Prop :=
  e = .returned .nilIface ∧ Blk w' g (lobD (rest A m c) (l - m) (c - m) o p A m c) 46 ∧ Bel w.heap.size [g] w w'
theorem fetched_set {g : Nat} {A : Option Addr} {l c : Nat} {o p : Int} {A' : Option Addr} {l' c' : Nat} {w : World} (h : Blk w g (lobD A l c o p A' l' c') 46) {A1 : Option Addr} {m c1 : Nat} {o1 : Int} {l1 : Nat} {W : World}
    (h1 : lobD (rest A m c) (l - m) (c - m) o1 p A m c = lobD A1 l1 c1 o1 p A m c)
    (h2 : W = (((w.setCell ⟨g, 3, none⟩ (.slice A m c)).setCell ⟨g, 0, none⟩ (.slice A1 l1 c1)).setCell ⟨g, 1, none⟩ (.int .i8 o1)).drew) :
    Blk W g (lobD (rest A m c) (l - m) (c - m) o1 p A m c) 46 ∧ Bel w.heap.size [g] w W := by
  subst h2
  refine ⟨?_, ((((Bel.refl _ _ w).set (.inr (by simp)) _).set (.inr (by simp)) _).set (.inr (by simp)) _).drew⟩
  rw [h1]
  exact (((h.set 3 _).set 0 _).set 1 _).drew
theorem fetched_set2 {g : Nat} {A : Option Addr} {l c : Nat} {o p : Int} {A' : Option Addr} {l' c' : Nat} {w : World} (h : Blk w g (lobD A l c o p A' l' c') 46) {A1 : Option Addr} {m c1 : Nat} {o1 o2 : Int} {l1 : Nat} {W : World}
    (h1 : lobD (rest A m c) (l - m) (c - m) o1 p A m c = lobD A1 l1 c1 o1 p A m c)
    (h2 : W = ((((w.setCell ⟨g, 3, none⟩ (.slice A m c)).setCell ⟨g, 0, none⟩ (.slice A1 l1 c1)).setCell ⟨g, 1, none⟩ (.int .i8 o2)).setCell ⟨g, 1, none⟩ (.int .i8 o1)).drew) :
    Blk W g (lobD (rest A m c) (l - m) (c - m) o1 p A m c) 46 ∧ Bel w.heap.size [g] w W := by
  subst h2
  refine ⟨?_, (((((Bel.refl _ _ w).set (.inr (by simp)) _).set (.inr (by simp)) _).set (.inr (by simp)) _).set (.inr (by simp)) _).drew⟩
  rw [h1]
  exact ((((h.set 3 _).set 0 _).set 1 _).set 1 _).drew
set_option maxRecDepth 100000 in
theorem fetch_full (g : Nat) (A : Option Addr) (l c n : Nat) (o p : Int) (A' : Option Addr) (l' c' : Nat) (w : World) (h : Blk w g (lobD A l c o p A' l' c') 46) (hn : n ≤ l) (hc : l ≤ c) (hm : c ≤ 9223372036854775807) (hn' : n ≤ 1000000000) :
    Calls Try.prog 9 #[.pointer (some ⟨g, 0, none⟩), .int .i64 n] w fun e w' => Fetched g A l c n 2 p w e w' := by
  have c0 : w.cell? ⟨g, 0, none⟩ = some (.slice A l c) := h.cell 0 rfl
  have c1 : w.cell? ⟨g, 1, none⟩ = some (.int .i8 o) := h.cell 1 rfl
  have c3 : w.cell? ⟨g, 3, none⟩ = some (.slice A' l' c') := h.cell 3 rfl
  have f0 := h.free 0; have f1 := h.free 1; have f3 := h.free 3
  have HG := Hd.mk h
  have hmin : min (n : Int) l = n := by omega
  have h1 : (n : Int) ≤ l := by omega
  have h2 : (n : Int) ≤ c := by omega
  have h3 : (l : Int) ≤ c := by omega
  clear h
  by_cases hz : c = n
  · subst hz
    obtain rfl : l = c := by omega
    go_enter Try.func9, Try.ntmps9
    go_wp2
    go_region
    go_wp2
    go_ret
    refine ⟨rfl, ?_⟩
    exact fetched_set (A1 := A) (c1 := 0) (l1 := 0) HG.out (by simp [rest, lobD]) rfl
  · go_enter Try.func9, Try.ntmps9
    go_wp2
    go_region
    go_wp2
    go_ret
    refine ⟨rfl, ?_⟩
    exact fetched_set (A1 := A.map (·.add n)) (c1 := c - n) (l1 := l - n) HG.out (by simp [rest, lobD, hz]) rfl
set_option maxRecDepth 100000 in
theorem fetch_last (g : Nat) (A : Option Addr) (l c n : Nat) (o p : Int) (A' : Option Addr) (l' c' : Nat) (w : World) (h : Blk w g (lobD A l c o p A' l' c') 46) (hn : l < n) (hc : l ≤ c) (hm : c ≤ 9223372036854775807) (hn' : n ≤ 1000000000) :
    Calls Try.prog 9 #[.pointer (some ⟨g, 0, none⟩), .int .i64 n] w fun e w' => Fetched g A l c l 6 p w e w' := by
  have c0 : w.cell? ⟨g, 0, none⟩ = some (.slice A l c) := h.cell 0 rfl
  have c1 : w.cell? ⟨g, 1, none⟩ = some (.int .i8 o) := h.cell 1 rfl
  have c3 : w.cell? ⟨g, 3, none⟩ = some (.slice A' l' c') := h.cell 3 rfl
  have f0 := h.free 0; have f1 := h.free 1; have f3 := h.free 3
  have HG := Hd.mk h
  have hmin : min (n : Int) l = l := by omega
  have h1 : (l : Int) ≤ l := by omega
  have h2 : (l : Int) ≤ c := by omega
  have h3 : (l : Int) ≤ c := by omega
  have hne : ((l : Int) == n) = false := by simp; omega
  have hor : bits .or .i8 2 4 = 6 := by decide +kernel
  clear h
  by_cases hz : c = l
  · subst hz
    go_enter Try.func9, Try.ntmps9
    go_wp2
    go_region
    go_wp2
    go_ret
    refine ⟨rfl, ?_⟩
    exact fetched_set2 (A1 := A) (c1 := 0) (l1 := 0) HG.out (by simp [rest, lobD]) rfl
  · go_enter Try.func9, Try.ntmps9
    go_wp2
    go_region
    go_wp2
    go_ret
    refine ⟨rfl, ?_⟩
    exact fetched_set2 (A1 := A.map (·.add l)) (c1 := c - l) (l1 := 0) HG.out (by simp [rest, lobD, hz]) rfl
theorem fetch_any (g : Nat) (A : Option Addr) (l c n m : Nat) (o p o' : Int) (b : Bool) (A' : Option Addr) (l' c' : Nat) (w : World) (h : Blk w g (lobD A l c o p A' l' c') 46) (hn : (n ≤ l ∧ m = n ∧ o' = 2 ∧ b = false) ∨ (l < n ∧ m = l ∧ o' = 6 ∧ b = true)) (hc : l ≤ c) (hm : c ≤ 9223372036854775807) (hn' : n ≤ 1000000000) :
    Calls Try.prog 9 #[.pointer (some ⟨g, 0, none⟩), .int .i64 n] w fun e w' => Fetched g A l c m o' p w e w' := by
  rcases hn with ⟨h1, rfl, rfl, _⟩ | ⟨h1, rfl, rfl, _⟩
  · exact fetch_full g A l c m o p A' l' c' w h h1 hc hm hn'
  · exact fetch_last g A m c n o p A' l' c' w h h1 hc hm hn'
set_option maxRecDepth 100000 in
theorem lob_parts (g : Nat) (A : Option Addr) (l c : Nat) (o p : Int) (A' : Option Addr) (l' c' : Nat) (w : World) (h : Blk w g (lobD A l c o p A' l' c') 46) (ho : 0 ≤ o ∧ o ≤ 100) :
    Calls Try.prog 10 #[.pointer (some ⟨g, 0, none⟩)] w fun e w' => e = .returned (.tuple #[.int .i64 o, .int .i64 p, .slice A' l' c']) ∧ ∃ k, w' = w.drewN k := by
  have c1 : w.cell? ⟨g, 1, none⟩ = some (.int .i8 o) := h.cell 1 rfl
  have c2 : w.cell? ⟨g, 2, none⟩ = some (.int .i64 p) := h.cell 2 rfl
  have c3 : w.cell? ⟨g, 3, none⟩ = some (.slice A' l' c') := h.cell 3 rfl
  have f0 := h.free 0
  clear h
  go_enter Try.func10, Try.ntmps10
  go_wp2_with fail
  go_quiet (fail)
  go_wp2
  go_ret3
  exact ⟨rfl, _, rfl⟩
set_option maxRecDepth 100000 in
theorem lob_isLast (o : Int) (w : World) (b : Bool) (h : o = 2 ∧ b = false ∨ o = 6 ∧ b = true) :
    Calls Try.prog 16 #[.int .i8 o] w fun e w' => e = .returned (.bool b) ∧ w = w' := by
  have b2 : bits .and .i8 2 4 = 0 := by decide +kernel
  have b6 : bits .and .i8 6 4 = 4 := by decide +kernel
  rcases h with ⟨rfl, rfl⟩ | ⟨rfl, rfl⟩
  all_goals
    go_enter Try.func16, Try.ntmps16
    go_wp2
    go_ret
    exact ⟨rfl, rfl⟩
set_option maxRecDepth 100000 in
theorem lob_last (g : Nat) (A : Option Addr) (l c : Nat) (o p : Int) (A' : Option Addr) (l' c' : Nat) (w : World) (b : Bool) (h : Blk w g (lobD A l c o p A' l' c') 46) (ho : o = 2 ∧ b = false ∨ o = 6 ∧ b = true) :
    Calls Try.prog 11 #[.pointer (some ⟨g, 0, none⟩)] w fun e w' => e = .returned (.bool b) ∧ w = w' := by
  have c1 : w.cell? ⟨g, 1, none⟩ = some (.int .i8 o) := h.cell 1 rfl
  have C := Hd.mk (lob_isLast o w b ho)
  clear h ho
  go_enter Try.func11, Try.ntmps11
  go_wp2_with fail
  with_reducible refine C.out.mono ?_
  rintro e w2 ⟨rfl, rfl⟩
  clear C
  go_wp2
  go_ret
  exact ⟨rfl, rfl⟩
set_option maxRecDepth 100000 in
theorem lob_in (A : Option Addr) (l c : Nat) (w : World) :
    Calls Try.prog 8 #[.slice A l c] w fun e w' => e = .returned (.pointer (some ⟨w.heap.size, 0, none⟩)) ∧ w' = w.alloc (.cells (lobD A l c 0 0 none 0 0) 46) := by
  go_enter Try.func8, Try.ntmps8
  go_wp2
  go_ret
  exact ⟨rfl, rfl⟩
end Go.Proofs.Ytagmjnlimiconaa.Kb
