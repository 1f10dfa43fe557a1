/- math/big: natural numbers as slices of words; nat.make, nat.norm, nat.setBytes. -/
import Derived.Test.YtjikodjljocpmaaNatE
import Derived.Test.YtjikodjljocpmaaRdw
namespace Go.Proofs.Ytjikodjljocpmaa.Kb
open Go Go.RowKit
set_option linter.unusedVariables false
set_option linter.unusedSimpArgs false
set_option maxHeartbeats 1000000
theorem WB1 : 1 < WB := by decide
theorem WBlt (n j : Nat) : limb WB n j < 18446744073709551616 := limb_lt WB1 n j
theorem infoW : (Try.prog.info? 91).map (fun i => (i.zero, i.size, i.bytes)) = some (some (.int .u64 0), 1, 8) := by kernel_rfl
/-- make of so many elements of one cell, with more room. -/
theorem wpList_make_zc {P : Program} {w : World} {ops : Array Oper} {rest : List Oper} {o : Oper} {a : Act} {Q : Exit → Act → World → Prop}
    (hg : o.guard = none) (l c : Operand) (t : TypeId) (hop : o.op = Op.makeSlice t l c)
    (e : TypeId) (z : Value) (by_ : Nat) (h1 : P.underlying t = some (.slice e)) (h2 : (P.info? e).map (fun i => (i.zero, i.size, i.bytes)) = some (some z, 1, by_)) (hz : z.cells = #[z])
    (kl kc : IntKind) (L C : Int) (n m : Nat) (hl : a.eval l = .int kl L) (hc : a.eval c = .int kc C) (hL : L = (n : Int)) (hC : C = (m : Int)) (hnm : n ≤ m) (b2 : by_ * m ≤ 281474976710656) (b3 : m ≤ 9223372036854775807)
    (hK : ∀ w', Blk w' w.heap.size (zs m z).toArray e → Below w.heap.size w w' → w'.heap.size = w.heap.size + 1 → wpList P ops Q rest (a.put o.dst (.slice (some ⟨w.heap.size, 0, none⟩) n m)) w') :
    wpList P ops Q (o :: rest) a w := by
  obtain ⟨i, hi, hb⟩ := Option.map_eq_some_iff.1 h2
  simp only [Prod.mk.injEq] at hb
  refine wpList_plain hg fun K hK' => ?_
  subst hL
  subst hC
  have b2' : (by_ : Int) * (m : Int) ≤ 281474976710656 := by
    have h : ((by_ * m : Nat) : Int) ≤ 281474976710656 := by omega
    rwa [Int.natCast_mul] at h
  have hrun := run_make (P := P) w t e i z h1 hi hb.1 kl kc n m (by omega) (by omega) (by rw [hb.2.2]; exact b2') (by omega)
  simp only [Int.toNat_natCast, hb.2.1, Nat.mul_one, hz] at hrun
  unfold Oper.wp
  simp [execOp, hop, hl, hc, hrun, Result.andThen]
  refine hK' _ _ (hK _ ?_ ((Below.refl _ _).alloc (Nat.le_refl _) _) (by simp))
  exact (Blk.new w _ e).cast (by apply Array.ext'; rw [toList_madeCells_one]; rfl)
/-- What nat.make of nil answers. -/
def MakeOut (w : World) (n : Nat) (e : Ending) (w' : World) : Prop := ∃ c, e = .returned (.slice (some ⟨w.heap.size, 0, none⟩) n c) ∧ n ≤ c ∧ c ≤ n + 4 ∧ Blk w' w.heap.size (zs c (.int .u64 0)).toArray 91 ∧ Below w.heap.size w w'
set_option maxRecDepth 100000 in
theorem natMake (A : Option Addr) (l c n : Nat) (w : World) (hl : l ≤ c) (hc : c < n) (hn : n ≤ 8796093022208) :
    Calls Try.prog 71 #[.slice A l c, .int .i64 n] w fun e w' => MakeOut w n e w' := by
  by_cases h1 : n = 1
  · subst h1
    have i1 : ¬ (1 : Int) ≤ c := by omega
    go_enter Try.func71, Try.ntmps71
    go_wp2_with (refine wpList_make_zc rfl _ _ 78 rfl 91 (.int .u64 0) 8 Try.underlying78 infoW rfl .i64 .i64 _ _ 1 1 rfl rfl rfl rfl (by omega) (by omega) (by omega) ?_)
    intro w1 hb hl1 _
    have HB := Hd.mk hb; have HL := Hd.mk hl1
    clear hb hl1
    go_wp2
    go_ret
    exact ⟨1, rfl, Nat.le_refl _, by omega, HB.out, HL.out⟩
  · have i1 : ¬ (n : Int) ≤ c := by omega
    have i2 : ((n : Int) == 1) = false := by simp; omega
    go_enter Try.func71, Try.ntmps71
    go_wp2_with (refine wpList_make_zc rfl _ _ 78 rfl 91 (.int .u64 0) 8 Try.underlying78 infoW rfl .i64 .i64 _ _ n (n + 4) rfl rfl rfl (by simp) (by omega) (by omega) (by omega) ?_)
    intro w1 hb hl1 _
    have HB := Hd.mk hb; have HL := Hd.mk hl1
    clear hb hl1
    go_wp2
    go_ret
    exact ⟨n + 4, rfl, by omega, by omega, HB.out, HL.out⟩
set_option maxRecDepth 100000 in
theorem natMake_fits (A : Option Addr) (l c n : Nat) (w : World) (hn : n ≤ c) (hc : c ≤ 9223372036854775807) :
    Calls Try.prog 71 #[.slice A l c, .int .i64 n] w fun e w' => e = .returned (.slice A n c) ∧ w = w' := by
  have i1 : (n : Int) ≤ c := by omega
  go_enter Try.func71, Try.ntmps71
  go_wp2
  go_ret
  exact ⟨rfl, rfl⟩
theorem natMake_fitsI (A : Option Addr) (l c n : Nat) (z : Int) (w : World) (hn : n ≤ c) (hc : c ≤ 9223372036854775807) (hz : z = n) :
    Calls Try.prog 71 #[.slice A l c, .int .i64 z] w fun e w' => e = .returned (.slice A n c) ∧ w = w' := by subst hz; exact natMake_fits A l c n w hn hc
/-- What nat.norm answers. -/
def NormOut (w : World) (A : Option Addr) (c n : Nat) (e : Ending) (w' : World) : Prop := (∃ m, e = .returned (.slice A m c) ∧ DigV .u64 WB w A m c n) ∧ w = w'
set_option maxRecDepth 100000 in
theorem natNorm (A : Option Addr) (l c n : Nat) (w : World) (h : DigL .u64 WB w A l c n) :
    Calls Try.prog 65 #[.slice A l c] w fun e w' => NormOut w A c n e w' := by
  have H := Hd.mk h
  have c1 := h.cap; have c2 := h.small
  clear h
  go_enter Try.func65, Try.ntmps65
  go_wp2
  go_loop [3] (fun v => ∃ m : Nat, v = .int .i64 m ∧ m ≤ l ∧ n < WB ^ m) (fun v => (intOf v).toNat)
  case atStart => exact ⟨l, rfl, Nat.le_refl _, H.out.lt⟩
  case round =>
    obtain ⟨m, rfl, hm, hn⟩ := hrel
    have HN := Hd.mk hn
    clear hn
    cases m with
    | zero =>
      go_wp2
      go_ret
      exact ⟨⟨0, rfl, ⟨⟨HN.out, by omega, c2, fun j hj => by omega⟩, .inl rfl⟩⟩, rfl⟩
    | succ m =>
      obtain ⟨g, rfl, hc, hg⟩ := H.out.at_ m (by omega)
      have HT := Hd.mk (top_zero WB1 HN.out)
      clear hg
      generalize hX : limb WB n m = x at *
      have HX := Hd.mk hX
      clear hX
      have b1 : (m : Int) + 1 ≤ c := by omega
      by_cases hx : x = 0
      · subst hx
        go_wp2
        go_round
        case rel => exact ⟨m, by simp, by omega, HT.out.1 rfl⟩
        case measure => simp [intOf]
      · have hx' : ((x : Int) == 0) = false := by simp; omega
        go_wp2
        go_ret
        refine ⟨⟨m + 1, by simp, ⟨⟨HN.out, by omega, c2, fun j hj => H.out.at_ j (by omega)⟩, .inr ?_⟩⟩, rfl⟩
        rcases Nat.lt_or_ge n (WB ^ m) with h | h
        · exact absurd (HT.out.2 h) hx
        · simpa using h
end Go.Proofs.Ytjikodjljocpmaa.Kb
