/- math/big: sums of words; bits.Add, addVV_g, addVV. -/
import Derived.Test.YtjikodjljocpmaaBigL
import Derived.Laws.Externs
namespace Go.Proofs.Ytjikodjljocpmaa.Kb
open Go Go.RowKit
set_option linter.unusedVariables false
set_option linter.unusedSimpArgs false
set_option maxHeartbeats 1000000
theorem add64law (x y c : Nat) (hc : c ≤ 1) (w : World) :
    (callFunc 87 #[.int .u64 x, .int .u64 y, .int .u64 c]).run Try.prog w =
      .ok (.value (.tuple #[.int .u64 (((x + y + c) % 18446744073709551616 : Nat) : Int), .int .u64 (((x + y + c) / 18446744073709551616 : Nat) : Int)])) w := by
  rw [run_callFunc_extern Try.func87 (by kernel_rfl) (by kernel_rfl) (by kernel_rfl) (e := add64Entry) (by kernel_rfl), run_add64 x y c (by omega) (by omega) (by omega) (by omega)]
  simp only [Result.andThen]
  congr 5 <;> omega
/-- What bits.Add answers. -/
def AddOut (w : World) (s : Nat) (e : Ending) (w' : World) : Prop := e = .returned (.tuple #[.int .u64 ((s % WB : Nat) : Int), .int .u64 ((s / WB : Nat) : Int)]) ∧ w = w'
set_option maxRecDepth 100000 in
theorem bitsAdd (x y c : Nat) (hc : c ≤ 1) (w : World) :
    Calls Try.prog 83 #[.int .u64 x, .int .u64 y, .int .u64 c] w fun e w' => AddOut w (x + y + c) e w' := by
  have L := Hd.mk (fun w => add64law x y c hc w)
  go_enter Try.func83, Try.ntmps83
  go_wp2_with (simp only [L.out])
  go_ret2
  exact ⟨rfl, rfl⟩
/-- bits.Add of two limbs and the carry below them. -/
theorem bitsAddL (a b k : Nat) (w : World) :
    Calls Try.prog 83 #[.int .u64 (limb WB a k : Nat), .int .u64 (limb WB b k : Nat), .int .u64 (cin WB a b k : Nat)] w fun e w' => e = .returned (.tuple #[.int .u64 (limb WB (a + b) k : Nat), .int .u64 (cin WB a b (k + 1) : Nat)]) ∧ w = w' := by
  refine (bitsAdd (limb WB a k) (limb WB b k) (cin WB a b k) (cin_le WB1 a b k) w).mono ?_
  rintro e w' ⟨rfl, rfl⟩
  rw [sum_limb WB1, cin_succ WB1, show limb WB a k + limb WB b k + cin WB a b k = cin WB a b k + limb WB a k + limb WB b k by omega]
  exact ⟨rfl, rfl⟩
theorem gb_drew {w w' : World} {row : Option Nat} (h : w.grownBy w' row) : w.grownBy w'.drew row := ⟨h.os, h.tape, h.output, h.size, h.block⟩
theorem gb_set (w : World) (g i : Nat) (v : Value) : w.grownBy (w.setCell ⟨g, i, none⟩ v) (some g) :=
  ⟨rfl, rfl, rfl, by simp [World.setCell], fun k hk hne => Below.heap_setCell _ _ _ _ (fun e => hne (by rw [e]))⟩
/-- Limbs i up to m of a number lie behind a slice's start. -/
def At (w : World) (A : Option Addr) (i m a : Nat) : Prop := ∀ j, i ≤ j → j < m → ∃ g, A = some ⟨g, 0, none⟩ ∧ w.cell? ⟨g, j, none⟩ = some (.int .u64 (limb WB a j)) ∧ g < w.heap.size
theorem At.set {w : World} {A : Option Addr} {i m a gz : Nat} (h : At w A i m a) (v : Value) : At (w.setCell ⟨gz, i, none⟩ v) A (i + 1) m a := by
  intro j h1 h2
  obtain ⟨g, e, hc, hg⟩ := h j (by omega) h2
  refine ⟨g, e, ?_, by simpa [World.setCell] using hg⟩
  have ne : (⟨gz, i, none⟩ : Addr) ≠ ⟨g, j, none⟩ := by intro e; cases e; omega
  exact (World.cell?_setCell_other _ _ _ _ ne).trans hc
theorem At.set_ne {w : World} {A : Option Addr} {i m a gz k : Nat} (h : At w A i m a) (hne : ∀ ad, A = some ad → ad.block ≠ gz) (v : Value) : At (w.setCell ⟨gz, k, none⟩ v) A i m a := by
  intro j h1 h2
  obtain ⟨g, e, hc, hg⟩ := h j h1 h2
  refine ⟨g, e, ?_, by simpa [World.setCell] using hg⟩
  have ne : (⟨gz, k, none⟩ : Addr) ≠ ⟨g, j, none⟩ := by intro e2; cases e2; exact hne _ e rfl
  exact (World.cell?_setCell_other _ _ _ _ ne).trans hc
/-- What addVV answers. -/
def VVOut (w : World) (gz a b n : Nat) (f : Nat → Value) (N : Nat) (t : List Value) (e : Ending) (w' : World) : Prop :=
  e = .returned (.int .u64 (cin WB a b n : Nat)) ∧ Blk w' gz (mapR (fun j => if j < n then .int .u64 (limb WB (a + b) j) else f j) N t) 91 ∧ w.grownBy w' (some gz)
set_option maxRecDepth 100000 in
theorem addVVg (gz n cz N : Nat) (f : Nat → Value) (t : List Value) (A A' : Option Addr) (cx cy a b : Nat) (w : World) (hz : Blk w gz (mapR f N t) 91) (hN : n ≤ N) (hn : n ≤ 8796093022208)
    (hx : At w A 0 n a) (hy : At w A' 0 n b) (ny : ∀ ad, A' = some ad → ad.block ≠ gz) :
    Calls Try.prog 82 #[.slice (some ⟨gz, 0, none⟩) n cz, .slice A n cx, .slice A' n cy] w fun e w' => VVOut w gz a b n f N t e w' := by
  have HZ := Hd.mk hz; have HX := Hd.mk hx; have HY := Hd.mk hy; have NY := Hd.mk ny
  clear hz hx hy ny
  go_enter Try.func82, Try.ntmps82
  go_wp2
  go_loopw [6, 25] (fun c i wr => ∃ k : Nat, k ≤ n ∧ i = .int .i64 k ∧ c = .int .u64 (cin WB a b k : Nat) ∧ Blk wr gz (mapR (fun j => if j < k then .int .u64 (limb WB (a + b) j) else f j) N t) 91 ∧ At wr A k n a ∧ At wr A' 0 n b ∧ w.grownBy wr (some gz)) (fun _ i _ => n - (intOf i).toNat)
  case atStart => exact ⟨0, Nat.zero_le _, rfl, by rw [cin_zero WB1]; rfl, HZ.out.cast (mapR_congr fun j hj => by simp), HX.out, HY.out, World.grownBy.refl _ _⟩
  case round =>
    obtain ⟨k, hk, rfl, rfl, hbk, hax, hay, hgb⟩ := hrel
    have HB := Hd.mk hbk; have HAX := Hd.mk hax; have HAY := Hd.mk hay; have HG := Hd.mk hgb
    clear hbk hax hay hgb
    by_cases hlt : k < n
    · obtain ⟨g1, rfl, s1, _⟩ := HAX.out k (Nat.le_refl _) hlt
      obtain ⟨g2, rfl, s2, _⟩ := HAY.out k (Nat.zero_le _) hlt
      have C := Hd.mk (fun w => bitsAddL a b k w)
      generalize limb WB a k = x at *
      generalize limb WB b k = y at *
      generalize hS : limb WB (a + b) k = s at *
      generalize cin WB a b k = c at *
      generalize hC2 : cin WB a b (k + 1) = c2 at *
      have HS := Hd.mk hS; have HC2 := Hd.mk hC2
      clear hS hC2
      go_wp2
      first
        | (go_region_held3 (fun W => W = wr.drew) (first | assumption | rfl)
            (first | (go_at_call 83; (with_reducible refine (C.out _).mono ?_); rintro e w2 ⟨rfl, rfl⟩)))
        | fail
      have HBD := Hd.mk HB.out.drew
      have f3 := HBD.out.free k
      obtain ⟨v3, s3⟩ : ∃ v, wr.drew.cell? ⟨gz, k, none⟩ = some v := ⟨_, HBD.out.cell k (mapR_get (by omega))⟩
      have AX := Hd.mk ((show At wr.drew _ k n a from HAX.out).set (gz := gz) (.int .u64 s))
      have AY := Hd.mk ((show At wr.drew _ 0 n b from HAY.out).set_ne (k := k) NY.out (.int .u64 s))
      have GB := Hd.mk ((gb_drew HG.out).trans (gb_set wr.drew gz k (.int .u64 s)))
      have HK2 := Hd.mk (HBD.out.set k (.int .u64 s))
      go_wp2
      go_roundw
      case rel =>
        refine ⟨k + 1, by omega, by go_num, by rw [HC2.out], ?_, AX.out, AY.out, GB.out⟩
        refine HK2.out.cast ?_
        rw [mapR_set (by omega)]
        refine mapR_congr fun p hp => ?_
        by_cases h1 : p = k
        · subst h1
          rw [if_pos rfl, if_pos (by omega), HS.out]
        · rw [if_neg h1]
          by_cases h2 : p < k
          · rw [if_pos h2, if_pos (by omega)]
          · rw [if_neg h2, if_neg (by omega)]
      case measure => simp [intOf]; omega
    · obtain rfl : k = n := by omega
      go_wp2
      go_ret
      exact ⟨rfl, HB.out, HG.out⟩
set_option maxRecDepth 100000 in
theorem addVV (gz n cz N : Nat) (f : Nat → Value) (t : List Value) (A A' : Option Addr) (cx cy a b : Nat) (w : World) (hz : Blk w gz (mapR f N t) 91) (hN : n ≤ N) (hn : n ≤ 8796093022208)
    (hx : At w A 0 n a) (hy : At w A' 0 n b) (ny : ∀ ad, A' = some ad → ad.block ≠ gz) :
    Calls Try.prog 76 #[.slice (some ⟨gz, 0, none⟩) n cz, .slice A n cx, .slice A' n cy] w fun e w' => VVOut w gz a b n f N t e w' := by
  have C := Hd.mk (addVVg gz n cz N f t A A' cx cy a b w hz hN hn hx hy ny)
  clear hz hx hy ny
  go_enter Try.func76, Try.ntmps76
  go_wp2_with fail
  with_reducible refine C.out.mono ?_
  rintro e w2 ⟨rfl, h1, h2⟩
  have H1 := Hd.mk h1; have H2 := Hd.mk h2
  clear h1 h2 C
  go_wp2
  go_ret
  exact ⟨rfl, H1.out, H2.out⟩
end Go.Proofs.Ytjikodjljocpmaa.Kb
