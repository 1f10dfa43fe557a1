/- The walk of FnLengthOf. -/
import Derived.Test.YtbohjafchfeheaaFailB
import Derived.BigRegion
import Derived.BigQuiet
namespace Go.Proofs.Ytbohjafchfeheaa.Kb
open Go Go.RowKit
set_option linter.unusedVariables false
set_option linter.unusedSimpArgs false
set_option maxHeartbeats 1000000
theorem Rd.part {w : World} {S : List Nat} {ad : Addr} {n : Nat} {xs : List Int} (h : Rd w S (some ad) n xs) (p k : Nat) (hk : p + k ≤ n) : Rd w S (some (ad.add p)) k ((xs.drop p).take k) := by
  have hl := h.len
  have hs := h.small
  refine ⟨by simp; omega, by omega, fun j hj => ?_⟩
  simp at hj
  obtain ⟨ad', h1, h2, h3, h4⟩ := h.at_ (p + j) (by omega)
  cases h1
  refine ⟨_, rfl, ?_, by rw [add_block]; exact h3, by rw [add_block]; exact h4⟩
  rw [add_add, h2]
  simp
theorem Rd.first {w : World} {S : List Nat} {A : Option Addr} {n : Nat} {xs : List Int} (h : Rd w S A n xs) (k : Nat) (hk : k ≤ n) : Rd w S A k (xs.take k) := by
  have hl := h.len
  have hs := h.small
  refine ⟨by simp; omega, by omega, fun j hj => ?_⟩
  simp at hj
  obtain ⟨ad, h1, h2, h3, h4⟩ := h.at_ j (by omega)
  exact ⟨ad, h1, by rw [h2]; simp, h3, h4⟩
theorem Sh.bounds {xs : List Int} {a b : Int} {nl bad : Bool} (h : Sh xs a b nl bad) (hby : ∀ x ∈ xs, 0 ≤ x ∧ x < 256) : (-1000 ≤ a ∧ a ≤ 1000) ∧ (-4000000000 ≤ b ∧ b ≤ 4000000000) := by
  cases h with
  | none h => omega
  | one h1 h2 h3 => omega
  | null h1 h2 => omega
  | two h1 h2 =>
    generalize leN _ = q
    simp [IntKind.wrap, IntKind.bits, IntKind.signed]; omega
  | twoNo h1 h2 h3 => omega
  | four h1 h2 =>
    generalize leN _ = q
    have := wrap32_bounds q
    omega
  | fourNo h1 h2 h3 => omega
theorem rd_lit (w : World) : Rd (w.alloc (.cells #[.int .u8 255] 5)) [] (some ⟨w.heap.size, 0, none⟩) 1 [255] := by
  have hb := Blk.new w #[.int .u8 255] 5
  refine ⟨rfl, by omega, fun j hj => ⟨_, rfl, ?_, by simp, by simp⟩⟩
  simp at hj
  subst hj
  rw [Addr.add_zero']
  exact hb.cell 0 rfl
theorem lt_of_cell {w : World} {a : Addr} {v : Value} (h : w.cell? a = some v) : a.block < w.heap.size := by
  rcases Nat.lt_or_ge a.block w.heap.size with h' | h'
  · exact h'
  · simp [World.cell?, Array.getElem?_eq_none h'] at h
theorem rd_row_in {a : Option Addr} {len cap : Nat} {zs : List Int} {w : World} (h : (a = none ∧ len = 0 ∧ cap = 0 ∧ zs = []) ∨ ∃ x, a = some x ∧ len ≤ cap ∧ cap ≤ maxLen ∧ zs.length = cap ∧ (∀ i, i < zs.length → w.cell? (x.add i) = some (.int .u8 (zs.getD i 0))) ∧ ∀ n ∈ zs, (Lit.int .u8 n).wf = true) (hs : len * 1 ≤ 140737488351232) :
    len ≤ cap ∧ cap ≤ maxLen ∧ Rd w [] a len (zs.take len) ∧ ∀ x ∈ zs.take len, 0 ≤ x ∧ x < 256 := by
  rcases h with ⟨rfl, rfl, rfl, rfl⟩ | ⟨x, rfl, h1, h2, h3, h4, h5⟩
  · exact ⟨Nat.le_refl _, by decide, ⟨rfl, by omega, fun j hj => by simp at hj⟩, by simp⟩
  · refine ⟨h1, h2, ⟨by simp; omega, by omega, fun j hj => ?_⟩, ?_⟩
    · simp at hj
      have hc := h4 j (by omega)
      refine ⟨x, rfl, ?_, ?_, by simp⟩
      · rw [hc, List.getD_eq_getElem?_getD, List.getElem?_eq_getElem (by omega)]
        simp
      · have := lt_of_cell hc
        rwa [add_block] at this
    · intro y hy
      have := bounds_u8 (h5 y (List.mem_of_mem_take hy))
      omega
/-- What the specification answers. -/
def hlR (a b : Int) (nl : Bool) : Bool → Value
  | false => .tuple #[.int .i64 a, .int .i64 b, .bool nl, .bool true]
  | true => .tuple #[.int .i64 0, .int .i64 0, .bool false, .bool false]
set_option maxRecDepth 100000 in
theorem heLengthOf (A : Option Addr) (n c : Nat) (xs : List Int) (w : World) (hr : Rd w [] A n xs) (hn : n ≤ c) (hc : c ≤ maxLen) (hby : ∀ x ∈ xs, 0 ≤ x ∧ x < 256) (hn8 : n ≤ 8) (a b : Int) (nl bad : Bool) (h : Sh xs a b nl bad) :
    Calls Try.prog 17 #[.slice A n c] w fun e w' => e = .returned (hlR a b nl bad) ∧ Below w.heap.size w w' := by
  have hlen := hr.len
  have hcc : c ≤ 9223372036854775807 := by unfold maxLen at hc; exact hc
  clear hc
  cases h with
  | none h =>
    obtain rfl : n = 0 := by omega
    clear hr hby
    go_enter Try.func17, Try.ntmps17
    go_wp2
    refine bodyPost_ret (v := .tuple #[.int .i64 0, .int .i64 0, .bool false, .bool false]) (by simp [results, Try.results17, go_sem]) rfl ⟨rfl, Below.refl _ _⟩
  | one h1 h2 h3 =>
    obtain ⟨ad, rfl, c0⟩ := hr.cell 0 (by omega)
    have e0 : ad.add 0 = ad := Addr.add_zero' ad
    rw [e0] at c0
    have hn0 : 0 < n := by omega
    have hz : ((n : Int) == 0) = false := by simp; omega
    generalize xs.getD 0 0 = b at *
    clear hr hby hlen e0
    go_enter Try.func17, Try.ntmps17
    go_wp2
    go_quiet (fail)
    go_wp2
    refine bodyPost_ret (v := .tuple #[.int .i64 1, .int .i64 b, .bool false, .bool true]) (by simp [results, Try.results17, go_sem]) rfl ⟨rfl, ⟨rfl, rfl, rfl, Nat.le_refl _, fun _ _ => rfl⟩⟩
  | null h1 h2 =>
    obtain ⟨ad, rfl, c0⟩ := hr.cell 0 (by omega)
    have e0 : ad.add 0 = ad := Addr.add_zero' ad
    rw [e0] at c0
    have hn0 : 0 < n := by omega
    have hz : ((n : Int) == 0) = false := by simp; omega
    rw [h2] at c0
    clear hr hby hlen e0
    go_enter Try.func17, Try.ntmps17
    go_wp2
    refine bodyPost_ret (v := .tuple #[.int .i64 1, .int .i64 0, .bool true, .bool true]) (by simp [results, Try.results17, go_sem]) rfl ⟨rfl, Below.refl _ _⟩
  | two h1 h2 =>
    obtain ⟨ad, rfl, c0⟩ := hr.cell 0 (by omega)
    have e0 : ad.add 0 = ad := Addr.add_zero' ad
    rw [e0] at c0
    have hn0 : 0 < n := by omega
    have hz : ((n : Int) == 0) = false := by simp; omega
    rw [h2] at c0
    have hnn : ¬ n ≤ 2 := by omega
    have hnm : 3 ≤ n := by omega
    have hp : Rd w [] (some ⟨ad.block, ad.off + 1, none⟩) 2 ((xs.drop 1).take 2) := hr.part 1 2 (by omega)
    have hpb : ∀ x ∈ (xs.drop 1).take 2, 0 ≤ x ∧ x < 256 := fun x hx => hby x (List.mem_of_mem_drop (List.mem_of_mem_take hx))
    obtain ⟨r, hr'⟩ : ∃ r, r = IntKind.i16.wrap (leN ((xs.drop 1).take 2)) := ⟨_, rfl⟩
    rw [← hr']
    have C := Hd.mk (fun c => heNumber (some ⟨ad.block, ad.off + 1, none⟩) 2 c ((xs.drop 1).take 2) w hp hpb r (.inl ⟨rfl, hr'⟩))
    have HP := Hd.mk hp
    clear hr hby hlen e0 hp hpb hr'
    go_enter Try.func17, Try.ntmps17
    go_wp2_with fail
    with_reducible refine (C.out _).mono ?_
    rintro e w1 ⟨rfl, rfl⟩
    go_wp2
    refine bodyPost_ret (v := .tuple #[.int .i64 3, .int .i64 r, .bool false, .bool true]) (by simp [results, Try.results17, go_sem]) rfl ⟨rfl, Below.refl _ _⟩
  | four h1 h2 =>
    obtain ⟨ad, rfl, c0⟩ := hr.cell 0 (by omega)
    have e0 : ad.add 0 = ad := Addr.add_zero' ad
    rw [e0] at c0
    have hn0 : 0 < n := by omega
    have hz : ((n : Int) == 0) = false := by simp; omega
    rw [h2] at c0
    have hnn : ¬ n ≤ 4 := by omega
    have hnm : 5 ≤ n := by omega
    have hp : Rd w [] (some ⟨ad.block, ad.off + 1, none⟩) 4 ((xs.drop 1).take 4) := hr.part 1 4 (by omega)
    have hpb : ∀ x ∈ (xs.drop 1).take 4, 0 ≤ x ∧ x < 256 := fun x hx => hby x (List.mem_of_mem_drop (List.mem_of_mem_take hx))
    obtain ⟨r, hr'⟩ : ∃ r, r = wrap32 (leN ((xs.drop 1).take 4)) := ⟨_, rfl⟩
    rw [← hr']
    have C := Hd.mk (fun c => heNumber (some ⟨ad.block, ad.off + 1, none⟩) 4 c ((xs.drop 1).take 4) w hp hpb r (.inr ⟨rfl, hr'⟩))
    have HP := Hd.mk hp
    clear hr hby hlen e0 hp hpb hr'
    go_enter Try.func17, Try.ntmps17
    go_wp2_with fail
    with_reducible refine (C.out _).mono ?_
    rintro e w1 ⟨rfl, rfl⟩
    go_wp2
    refine bodyPost_ret (v := .tuple #[.int .i64 5, .int .i64 r, .bool false, .bool true]) (by simp [results, Try.results17, go_sem]) rfl ⟨rfl, Below.refl _ _⟩
  | twoNo h1 h2 h3 =>
    obtain ⟨ad, rfl, c0⟩ := hr.cell 0 (by omega)
    have e0 : ad.add 0 = ad := Addr.add_zero' ad
    rw [e0] at c0
    have hn0 : 0 < n := by omega
    have hz : ((n : Int) == 0) = false := by simp; omega
    rw [h3] at c0
    have hnn : n ≤ 2 := by omega
    clear hr hby hlen e0
    go_enter Try.func17, Try.ntmps17
    go_wp2
    refine bodyPost_ret (v := .tuple #[.int .i64 0, .int .i64 0, .bool false, .bool false]) (by simp [results, Try.results17, go_sem]) rfl ⟨rfl, Below.refl _ _⟩
  | fourNo h1 h2 h3 =>
    obtain ⟨ad, rfl, c0⟩ := hr.cell 0 (by omega)
    have e0 : ad.add 0 = ad := Addr.add_zero' ad
    rw [e0] at c0
    have hn0 : 0 < n := by omega
    have hz : ((n : Int) == 0) = false := by simp; omega
    rw [h3] at c0
    have hnn : n ≤ 4 := by omega
    clear hr hby hlen e0
    go_enter Try.func17, Try.ntmps17
    go_wp2
    refine bodyPost_ret (v := .tuple #[.int .i64 0, .int .i64 0, .bool false, .bool false]) (by simp [results, Try.results17, go_sem]) rfl ⟨rfl, Below.refl _ _⟩
set_option maxRecDepth 100000 in
theorem law_lengthOf (A : Option Addr) (n c : Nat) (zs : List Int) (w : World) (hr0 : Rd w [] A n zs) (hn0 : n ≤ c) (hc : c ≤ maxLen) (hby0 : ∀ x ∈ zs, 0 ≤ x ∧ x < 256) :
    Calls Try.prog 4 #[.slice A n c] w fun e w' => e = .returned (.bool true) ∧ Below w.heap.size w w' := by
  have hcc : c ≤ 9223372036854775807 := by unfold maxLen at hc; exact hc
  by_cases hbig : n > 2147483647
  · have hbig' : (2147483647 : Int) < n := by omega
    clear hr0 hby0 hc
    go_enter Try.func4, Try.ntmps4
    go_wp2
    go_ret
    exact ⟨rfl, Below.refl _ _⟩
  have hnb : ¬ (2147483647 : Int) < n := by omega
  obtain ⟨m, hm⟩ : ∃ m : Nat, n ≤ 8 ∧ m = n ∨ 8 < n ∧ m = 8 := by
    by_cases h : n ≤ 8
    · exact ⟨n, .inl ⟨h, rfl⟩⟩
    · exact ⟨8, .inr ⟨by omega, rfl⟩⟩
  have hmn : m ≤ n := by omega
  have hm8 : m ≤ 8 := by omega
  have hmc : m ≤ c := by omega
  have hr := hr0.first m hmn
  obtain ⟨xs, hxs⟩ : ∃ xs, xs = zs.take m := ⟨_, rfl⟩
  have hby : ∀ x ∈ xs, 0 ≤ x ∧ x < 256 := fun x hx => hby0 x (List.mem_of_mem_take (hxs ▸ hx))
  rw [← hxs] at hr
  have hlen := hr.len
  clear hr0 hby0 hxs
  by_cases hmid : 0 < m ∧ 247 < xs.getD 0 0 ∧ xs.getD 0 0 < 255
  · obtain ⟨h0, h1, h2⟩ := hmid
    obtain ⟨ad, rfl, c0⟩ := hr.cell 0 h0
    rw [Addr.add_zero' ad] at c0
    generalize xs.getD 0 0 = x at *
    clear hr hby hc hlen
    have hz : ((n : Int) == 0) = false := by simp; omega
    rcases hm with ⟨hm, rfl⟩ | ⟨hm, rfl⟩
    · have hmi : min (m : Int) 8 = m := by omega
      go_enter Try.func4, Try.ntmps4
      go_wp2
      all_goals
        go_ret
        exact ⟨rfl, Below.refl _ _⟩
    · have hmi : min (n : Int) 8 = 8 := by omega
      go_enter Try.func4, Try.ntmps4
      go_wp2
      all_goals
        go_ret
        exact ⟨rfl, Below.refl _ _⟩
  obtain ⟨a, b, nl, bad, hsh⟩ := Sh.of xs hby (by omega)
  obtain ⟨⟨ha1, ha2⟩, hb1, hb2⟩ := hsh.bounds hby
  have C1 := Hd.mk (fun w (hr : Rd w [] A m xs) => lengthOf_any A m c xs w hr hmc hc hby a b nl ⟨ha1, ha2⟩ ⟨hb1, hb2⟩ bad (fun K w hK hd => var_sh xs a b nl bad hsh K w hK hd))
  have C2 := Hd.mk (fun w (hr : Rd w [] A m xs) => heLengthOf A m c xs w hr hmc hc hby hm8 a b nl bad hsh)
  have C3 := Hd.mk (fun (w : World) => lengthOf_any (some ⟨w.heap.size, 0, none⟩) 1 1 [255] (w.alloc (.cells #[.int .u8 255] 5)) (rd_lit w) (by omega) (by decide) (by simp) 1 0 true (by omega) (by omega) false (fun K w hK hd => var_sh [255] 1 0 true false (.null (by simp) rfl) K w hK hd))
  have HR := Hd.mk hr
  have HBY := Hd.mk hby
  by_cases hz : m = 0
  · obtain rfl : n = 0 := by omega
    obtain rfl : m = 0 := hz
    clear hr hby hc hsh hm hmid
    go_enter Try.func4, Try.ntmps4
    go_wp2_with fail
    with_reducible refine (C1.out _ HR.out).mono ?_
    rintro e w1 ⟨rfl, hb⟩
    have R1 := Hd.mk (HR.out.below hb); have B1 := Hd.mk hb
    clear hb
    rcases bad
    all_goals
      unfold lenR
      go_wp2_with fail
      with_reducible refine (C2.out _ R1.out).mono ?_
      rintro e w2 ⟨rfl, hb⟩
      have B2 := Hd.mk (B1.out.trans (hb.mono B1.out.size))
      clear hb
      unfold hlR
      have C3' := Hd.mk (C3.out w2)
      have B3 := Hd.mk (B2.out.alloc B2.out.size (.cells #[.int .u8 255] 5))
      go_wp2_with fail
      with_reducible refine C3'.out.mono ?_
      unfold lenR
      rintro e w3 ⟨rfl, hb⟩
      have B4 := Hd.mk (B3.out.trans (hb.mono B3.out.size))
      clear hb
      go_wp2
      go_ret
      exact ⟨by simp, B4.out⟩
  obtain ⟨ad, rfl, c0⟩ := hr.cell 0 (by omega)
  rw [Addr.add_zero' ad] at c0
  have hx : xs.getD 0 0 ≤ 247 ∨ xs.getD 0 0 = 255 := by
    have := HBY.out (xs.getD 0 0) (by
      have hkx : 0 < xs.length := by omega
      rw [List.getD_eq_getElem?_getD, List.getElem?_eq_getElem hkx]
      exact List.getElem_mem hkx)
    omega
  have hz' : ((n : Int) == 0) = false := by simp; omega
  generalize xs.getD 0 0 = x at *
  clear hr hby hc hsh hmid
  rcases hm with ⟨hm, rfl⟩ | ⟨hm, rfl⟩
  · have hmi : min (m : Int) 8 = m := by omega
    rcases hx with hx | rfl
    · have hx' : ¬ 247 < x := by omega
      go_enter Try.func4, Try.ntmps4
      go_wp2_with fail
      with_reducible refine (C1.out _ HR.out).mono ?_
      rintro e w1 ⟨rfl, hb⟩
      have R1 := Hd.mk (HR.out.below hb); have B1 := Hd.mk hb
      clear hb
      rcases bad
      all_goals
        unfold lenR
        go_wp2_with fail
        with_reducible refine (C2.out _ R1.out).mono ?_
        rintro e w2 ⟨rfl, hb⟩
        have B2 := Hd.mk (B1.out.trans (hb.mono B1.out.size))
        clear hb
        unfold hlR
        have C3' := Hd.mk (C3.out w2)
        have B3 := Hd.mk (B2.out.alloc B2.out.size (.cells #[.int .u8 255] 5))
        go_wp2_with fail
        with_reducible refine C3'.out.mono ?_
        unfold lenR
        rintro e w3 ⟨rfl, hb⟩
        have B4 := Hd.mk (B3.out.trans (hb.mono B3.out.size))
        clear hb
        go_wp2
        go_ret
        exact ⟨by simp, B4.out⟩
    · skip
      go_enter Try.func4, Try.ntmps4
      go_wp2_with fail
      with_reducible refine (C1.out _ HR.out).mono ?_
      rintro e w1 ⟨rfl, hb⟩
      have R1 := Hd.mk (HR.out.below hb); have B1 := Hd.mk hb
      clear hb
      rcases bad
      all_goals
        unfold lenR
        go_wp2_with fail
        with_reducible refine (C2.out _ R1.out).mono ?_
        rintro e w2 ⟨rfl, hb⟩
        have B2 := Hd.mk (B1.out.trans (hb.mono B1.out.size))
        clear hb
        unfold hlR
        have C3' := Hd.mk (C3.out w2)
        have B3 := Hd.mk (B2.out.alloc B2.out.size (.cells #[.int .u8 255] 5))
        go_wp2_with fail
        with_reducible refine C3'.out.mono ?_
        unfold lenR
        rintro e w3 ⟨rfl, hb⟩
        have B4 := Hd.mk (B3.out.trans (hb.mono B3.out.size))
        clear hb
        go_wp2
        go_ret
        exact ⟨by simp, B4.out⟩
  · have hmi : min (n : Int) 8 = 8 := by omega
    rcases hx with hx | rfl
    · have hx' : ¬ 247 < x := by omega
      go_enter Try.func4, Try.ntmps4
      go_wp2_with fail
      with_reducible refine (C1.out _ HR.out).mono ?_
      rintro e w1 ⟨rfl, hb⟩
      have R1 := Hd.mk (HR.out.below hb); have B1 := Hd.mk hb
      clear hb
      rcases bad
      all_goals
        unfold lenR
        go_wp2_with fail
        with_reducible refine (C2.out _ R1.out).mono ?_
        rintro e w2 ⟨rfl, hb⟩
        have B2 := Hd.mk (B1.out.trans (hb.mono B1.out.size))
        clear hb
        unfold hlR
        have C3' := Hd.mk (C3.out w2)
        have B3 := Hd.mk (B2.out.alloc B2.out.size (.cells #[.int .u8 255] 5))
        go_wp2_with fail
        with_reducible refine C3'.out.mono ?_
        unfold lenR
        rintro e w3 ⟨rfl, hb⟩
        have B4 := Hd.mk (B3.out.trans (hb.mono B3.out.size))
        clear hb
        go_wp2
        go_ret
        exact ⟨by simp, B4.out⟩
    · skip
      go_enter Try.func4, Try.ntmps4
      go_wp2_with fail
      with_reducible refine (C1.out _ HR.out).mono ?_
      rintro e w1 ⟨rfl, hb⟩
      have R1 := Hd.mk (HR.out.below hb); have B1 := Hd.mk hb
      clear hb
      rcases bad
      all_goals
        unfold lenR
        go_wp2_with fail
        with_reducible refine (C2.out _ R1.out).mono ?_
        rintro e w2 ⟨rfl, hb⟩
        have B2 := Hd.mk (B1.out.trans (hb.mono B1.out.size))
        clear hb
        unfold hlR
        have C3' := Hd.mk (C3.out w2)
        have B3 := Hd.mk (B2.out.alloc B2.out.size (.cells #[.int .u8 255] 5))
        go_wp2_with fail
        with_reducible refine C3'.out.mono ?_
        unfold lenR
        rintro e w3 ⟨rfl, hb⟩
        have B4 := Hd.mk (B3.out.trans (hb.mono B3.out.size))
        clear hb
        go_wp2
        go_ret
        exact ⟨by simp, B4.out⟩
theorem FnLengthOf (a : Option Addr) (len cap : Nat) (zs : List Int) (w : World) (h : (a = none ∧ len = 0 ∧ cap = 0 ∧ zs = []) ∨ ∃ x, a = some x ∧ len ≤ cap ∧ cap ≤ maxLen ∧ zs.length = cap ∧ (∀ i, i < zs.length → w.cell? (x.add i) = some (.int .u8 (zs.getD i 0))) ∧ ∀ n ∈ zs, (Lit.int .u8 n).wf = true) (hs : len * 1 ≤ 140737488351232) :
    Calls Try.prog 4 #[.slice a len cap] w fun e w' => e = .returned (.bool true) ∧ Below w.heap.size w w' := by
  obtain ⟨h1, h2, h3, h4⟩ := rd_row_in h hs
  exact law_lengthOf a len cap (zs.take len) w h3 h1 h2 h4
end Go.Proofs.Ytbohjafchfeheaa.Kb
