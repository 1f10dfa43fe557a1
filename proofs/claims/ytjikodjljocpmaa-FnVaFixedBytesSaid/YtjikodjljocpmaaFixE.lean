/- Encoder.Fixed. -/
import Derived.Test.YtjikodjljocpmaaBigY
import Derived.Test.YtjikodjljocpmaaBigF
import Derived.Test.YtjikodjljocpmaaMake
import Derived.Test.YtjikodjljocpmaaPack
import Derived.Lib.Zigzag
namespace Go.Proofs.Ytjikodjljocpmaa.Kb
open Go Go.RowKit
set_option linter.unusedVariables false
set_option linter.unusedSimpArgs false
set_option maxHeartbeats 2000000
theorem invW_mod {B N n a q : Nat} (hB : 1 < B) (h : n + a + 1 = B ^ N) (hq : q ≤ N) : n % B ^ q + a % B ^ q + 1 = B ^ q := by
  have hd : B ^ q ∣ n + a + 1 := by rw [h]; exact Nat.pow_dvd_pow B hq
  have hp : 0 < B ^ q := Nat.pow_pos (by omega)
  generalize B ^ q = P at *
  have e : n + a + 1 = (n % P + a % P + 1) + P * (n / P + a / P) := by
    have h1 := Nat.div_add_mod n P
    have h2 := Nat.div_add_mod a P
    rw [Nat.mul_add]
    omega
  rw [e] at hd
  have hd2 : P ∣ n % P + a % P + 1 := (Nat.dvd_add_iff_left (Nat.dvd_mul_right P _)).2 hd
  obtain ⟨z, hz⟩ := hd2
  have h1 := Nat.mod_lt n hp
  have h2 := Nat.mod_lt a hp
  have z1 : z = 1 := by
    rcases Nat.lt_or_ge z 2 with h3 | h3
    · rcases Nat.eq_zero_or_pos z with h4 | h4
      · subst h4; omega
      · omega
    · have := Nat.mul_le_mul_left P h3
      omega
  rw [hz, z1, Nat.mul_one]
theorem invW_limb {B N n a q : Nat} (hB : 1 < B) (h : n + a + 1 = B ^ N) (hq : q < N) : limb B a q = B - 1 - limb B n q := by
  have h1 := invW_mod hB h (Nat.le_of_lt hq)
  have h2 := invW_mod hB h (show q + 1 ≤ N by omega)
  rw [mod_succ hB, mod_succ hB, Nat.pow_succ] at h2
  have hp : 0 < B ^ q := Nat.pow_pos (by omega)
  generalize B ^ q = P at *
  have e : (limb B n q + limb B a q) * P = (B - 1) * P := by rw [Nat.add_mul, Nat.sub_mul, Nat.one_mul, Nat.mul_comm B P]; omega
  have := Nat.eq_of_mul_eq_mul_right hp e
  omega
/-- Two's complements of one number in so many bytes or so many are alike as far as both go. -/
theorem twos_limb {a M M' q : Nat} (h0 : 0 < a) (h1 : a ≤ 256 ^ M) (h2 : a ≤ 256 ^ M') (hq : q < M) (hq' : q < M') : limb 256 (256 ^ M - a) q = limb 256 (256 ^ M' - a) q := by
  exact (invW_limb (N := M) (n := a - 1) B256 (by omega) hq).trans (invW_limb (N := M') (n := a - 1) B256 (by omega) hq').symm
theorem xor_max {x : Nat} (h : x < WB) : bits .xor .u64 IntKind.u64.max (x : Int) = ((WB - 1 - x : Nat) : Int) := by
  have e2 : IntKind.u64.max = ((2 ^ 64 - 1 : Nat) : Int) := by decide
  have hW : WB = 2 ^ 64 := by decide +kernel
  rw [hW] at h
  rw [e2, bits_xor_u64_nat _ _ (by decide) (by omega), Go.Lib.xor_ones64 _ h, hW]
/-- The words of a two's complement are as many as those of the number. -/
theorem twos_len {l l' n a : Nat} (h0 : 0 < a) (hn : n ≤ 16) (h2 : 2 * a ≤ 256 ^ n) (hl : a < WB ^ l) (hg : l = 0 ∨ WB ^ (l - 1) ≤ a) (hl' : WB ^ l - a < WB ^ l') : l ≤ l' := by
  have hW2 : WB ^ 2 = 2 ^ 128 := by decide +kernel
  have hW1 : WB ^ 1 = 2 ^ 64 := by decide +kernel
  have h3 : 256 ^ n ≤ 2 ^ 128 := by
    rw [show (2 : Nat) ^ 128 = 256 ^ 16 by decide +kernel]
    exact Nat.pow_le_pow_right (by decide) hn
  rcases Nat.lt_or_ge l' l with h | h
  · exfalso
    have l2 : l ≤ 2 := by
      rcases Nat.lt_or_ge 2 l with h4 | h4
      · rcases hg with h5 | h5
        · omega
        · have : WB ^ 2 ≤ WB ^ (l - 1) := Nat.pow_le_pow_right (by decide) (by omega)
          omega
      · exact h4
    have h6 : WB ^ l' ≤ WB ^ (l - 1) := Nat.pow_le_pow_right (by decide) (by omega)
    match l, l2 with
    | 0, _ => omega
    | 1, _ => simp at h6 hl hl'; omega
    | 2, _ =>
      rw [show 2 - 1 = 1 from rfl, hW1] at h6
      rw [hW2] at hl hl'
      have : (2 : Nat) ^ 128 = 2 ^ 64 * 2 ^ 64 := by decide +kernel
      have : (2 : Nat) ^ 64 = 18446744073709551616 := by decide +kernel
      omega
  · exact h
theorem Enc.startZ {w : World} {wr eb sb : Nat} {tr : Value} (h1 : Blk w eb #[.pointer (some ⟨wr, 0, none⟩), .slice (some ⟨sb, 0, none⟩) 4096 4096, tr] 88) (Z : List Value) (hz : Z.length = 4096) (h2 : Blk w sb Z.toArray 5)
    (h3 : Blk w wr #[.slice none 0 0] 58) (n1 : eb ≠ sb) (n2 : eb ≠ wr) (n3 : sb ≠ wr) : Enc ⟨eb, sb, wr, tr, w.heap.size⟩ w [] :=
  ⟨h1, ⟨Z, hz, h2⟩, ⟨_, h3, World.ownsRow_nil _ _ _ _⟩, n1, n2, n3, h1.lt, h2.lt, h3.lt, Nat.le_refl _, by simp⟩
theorem scr_rdN {w : World} {g : Nat} {a n : Nat} {Z : List Value} {t : TypeId} (h : Blk w g (scr a n Z) t) (hn : n ≤ 4096) : Rd w [] (some ⟨g, 0, none⟩) n (leL a n) := by
  refine ⟨leL_len _ _, by omega, fun j hj => ⟨_, rfl, ?_, h.lt, by simp⟩⟩
  rw [leL_len] at hj
  refine h.cellz j ?_
  rw [show (scr a n Z)[j]? = some (if j < n then .int .u8 (limb 256 a j : Nat) else Z.getD j undef) from mapR_get (by omega), if_pos hj]
  simp [leL]
/-- What Encoder.Fixed leaves: the writer's bytes; the blocks in S may have changed. -/
def FixWr (w : World) (wb : Nat) (S : List Nat) (xs : List Int) (e : Ending) (w' : World) : Prop := e = .returned (.tuple #[]) ∧ ∃ v, Blk w' wb #[v] 58 ∧ w'.ownsRow w.heap.size 5 1 v xs.length (bc xs) ∧ Bel w.heap.size S w w'
set_option maxRecDepth 100000 in
theorem E_FixedP (eb sb wb g : Nat) (tr : Value) (Z : List Value) (A : Option Addr) (l' c a n : Nat) (w : World)
    (h1 : Blk w eb #[.pointer (some ⟨wb, 0, none⟩), .slice (some ⟨sb, 0, none⟩) 4096 4096, tr] 88) (hz : Z.length = 4096) (h2 : Blk w sb Z.toArray 5) (h3 : Blk w wb #[.slice none 0 0] 58)
    (n1 : eb ≠ sb) (n2 : eb ≠ wb) (n3 : sb ≠ wb)
    (hi : BigI w g false A l' c a) (hA : ∀ ad, A = some ad → 0 < l' → ad.block ≠ sb) (hl : l' ≤ 1000) (hn : n ≤ 100) :
    Calls Try.prog 41 #[.pointer (some ⟨eb, 0, none⟩), .pointer (some ⟨g, 0, none⟩), .int .i64 n] w fun e w' => FixWr w wb [sb, wb] (leL a n) e w' := by
  have c1 : w.cell? ⟨eb, 1, none⟩ = some (.slice (some ⟨sb, 0, none⟩) 4096 4096) := h1.cell 1 rfl
  have CS := Hd.mk (intSign g false A l' c a w hi)
  have CB := Hd.mk (intBits g false A l' c a w hi)
  have HI := Hd.mk hi; have HE1 := Hd.mk h1; have HW := Hd.mk h3; have HAD := Hd.mk hA
  have HZ := Hd.mk (h2.cast (scr_zero (a := a) hz))
  have HBW := Hd.mk (Bel.refl w.heap.size [sb, wb] w)
  have BY := Hd.mk (fun k i (hk : k < l') (hi : i < 8) (hq : 8 * k + i < n) => byte_word a k i hi)
  have FL := Hd.mk (fun q (hq : 8 * l' ≤ q) (hqn : q < n) => (show (0 : Int) = (limb 256 a q : Nat) from by
    rw [limb_over B256 (j := 8 * l') (by have := HI.out.dig.lt; rwa [WB_pow] at this) hq]; rfl))
  have hv : ((sgn false a : Int) == -1) = false := by unfold sgn; split <;> simp
  have dc := hi.dig.cap; have ds := hi.dig.small
  have i1 : (n : Int) ≤ 4096 := by omega
  clear h1 h2 h3 hi hA
  generalize sgn false a = sv at *
  go_enter Try.func41, Try.ntmps41
  go_wp2_with fail
  with_reducible refine CS.out.mono ?_
  rintro e w2 ⟨rfl, rfl⟩
  go_wp2_with fail
  with_reducible refine CB.out.mono ?_
  rintro e w2 ⟨rfl, rfl⟩
  go_wp2_with fail
  go_loopw [11, 52] (fun j i wr => ∃ k p : Nat, k ≤ l' ∧ i = .int .i64 k ∧ j = .int .i64 p ∧ p ≤ n ∧ (p = 8 * k ∨ (p = n ∧ n ≤ 8 * k)) ∧ Blk wr sb (scr a p Z) 5 ∧ Bel w.heap.size [sb] w wr) (fun _ i _ => l' - (intOf i).toNat)
  case atStart => exact ⟨0, 0, by omega, rfl, rfl, by omega, .inl rfl, HZ.out, Bel.refl _ _ _⟩
  case round =>
    obtain ⟨k, p, hk, rfl, rfl, hpn, hkp, hb, hl⟩ := hrel
    have HB := Hd.mk hb; have HL := Hd.mk hl
    clear hb hl
    by_cases hlt : k < l'
    · obtain ⟨g1, hA1, s1, l1⟩ := HI.out.dig.at_ k hlt
      have s1' : wr.cell? ⟨g1, k, none⟩ = some (.int .u64 (limb WB a k)) := by rw [HL.out.cell (p := ⟨g1, k, none⟩) l1 (by simp; exact HAD.out _ hA1 (by omega))]; exact s1
      have hd := WBlt a k
      subst hA1
      clear s1 l1
      have BW := Hd.mk (fun i hi hq => BY.out k i hlt hi hq)
      generalize hD : limb WB a k = d at *
      clear hD
      have HKP := Hd.mk hkp
      clear hkp
      go_wp2
      go_loopw [11, 13, 14] (fun j v i wr => ∃ t p2 : Nat, t ≤ 8 ∧ i = .int .i64 t ∧ j = .int .i64 p2 ∧ p2 ≤ n ∧ (p2 = 8 * k + t ∨ (p2 = n ∧ n ≤ 8 * k ∧ t = 0)) ∧ v = .int .u64 (d / 256 ^ t : Nat) ∧ Blk wr sb (scr a p2 Z) 5 ∧ Bel w.heap.size [sb] w wr) (fun _ _ i _ => 8 - (intOf i).toNat)
      case atStart => exact ⟨0, p, by omega, rfl, rfl, hpn, by have := HKP.out; omega, by simp, HB.out, HL.out⟩
      case round =>
        obtain ⟨t, p2, ht, rfl, rfl, hp2, hor, rfl, hb2, hl2⟩ := hrel
        have HB2 := Hd.mk hb2; have HL2 := Hd.mk hl2
        clear hb2 hl2
        by_cases ht8 : t < 8
        · by_cases hpn2 : p2 < n
          · obtain rfl : p2 = 8 * k + t := by omega
            have V1 := Hd.mk (BW.out t ht8 hpn2)
            have V2 := Hd.mk (show d / 256 ^ (t + 1) = d / 256 ^ t / 256 by rw [Nat.pow_succ, Nat.div_div_eq_div_mul])
            have hv : d / 256 ^ t < 18446744073709551616 := Nat.lt_of_le_of_lt (Nat.div_le_self _ _) hd
            generalize hV : d / 256 ^ t = v at *
            clear hV hor
            obtain ⟨v0, s0⟩ := scr_cell HB2.out (q := 8 * k + t) (by omega)
            have f0 := HB2.out.free (8 * k + t)
            have j1 : 8 * (k : Int) + t < n := by omega
            have j2 : (t : Int) < 8 := by omega
            go_wp2
            go_roundw
            case rel =>
              refine ⟨t + 1, 8 * k + t + 1, by omega, by go_num, by go_num, by omega, .inl (by omega), by rw [V2.out]; simp, ?_, HL2.out.set (.inr (by simp)) _⟩
              refine Blk.cast (HB2.out.set (8 * k + t) _) (scr_step (by omega) ?_)
              rw [← V1.out]
              simp
            case measure => simp [intOf]; omega
          · obtain rfl : p2 = n := by omega
            have j2 : (t : Int) < 8 := by omega
            go_wp2
            go_roundw
            case rel => exact ⟨k + 1, p2, by omega, by go_num, rfl, Nat.le_refl _, .inr ⟨rfl, by omega⟩, HB2.out, HL2.out⟩
            case measure => simp [intOf]; omega
        · obtain rfl : t = 8 := by omega
          obtain rfl : p2 = 8 * k + 8 := by omega
          go_wp2
          go_roundw
          case rel => exact ⟨k + 1, 8 * k + 8, by omega, by go_num, by go_num, hp2, .inl (by omega), HB2.out, HL2.out⟩
          case measure => simp [intOf]; omega
    · obtain rfl : k = l' := by omega
      have HKP := Hd.mk hkp
      clear hkp
      go_wp2
      go_loopw [15] (fun i wr => ∃ q : Nat, p ≤ q ∧ q ≤ n ∧ i = .int .i64 q ∧ Blk wr sb (scr a q Z) 5 ∧ Bel w.heap.size [sb] w wr) (fun i _ => n - (intOf i).toNat)
      case atStart => exact ⟨p, Nat.le_refl _, hpn, rfl, HB.out, HL.out⟩
      case round =>
        obtain ⟨q, hq1, hq2, rfl, hb2, hl2⟩ := hrel
        have HB2 := Hd.mk hb2; have HL2 := Hd.mk hl2
        clear hb2 hl2
        by_cases hqn : q < n
        · obtain ⟨v0, s0⟩ := scr_cell HB2.out (q := q) (by omega)
          have f0 := HB2.out.free q
          have FQ := Hd.mk (FL.out q (by have := HKP.out; omega) hqn)
          have j1 : (q : Int) < n := by omega
          go_wp2
          go_roundw
          case rel => exact ⟨q + 1, by omega, by omega, by go_num, Blk.cast (HB2.out.set q _) (scr_step (by omega) FQ.out), HL2.out.set (.inr (by simp)) _⟩
          case measure => simp [intOf]; omega
        · obtain rfl : q = n := by omega
          have E1 := HE1.out.bel HL2.out HE1.out.lt (by simp; exact n1)
          have E3 := HW.out.bel HL2.out HW.out.lt (by simp; exact Ne.symm n3)
          have HE := Enc.startZ E1 (scr a q Z).toList (by simp [scr, mapR]) (by simpa using HB2.out) E3 n1 n2 n3
          have CWr := Hd.mk (W_Write ⟨eb, sb, wb, tr, wr.heap.size⟩ [] (leL a q) wr HE (some ⟨sb, 0, none⟩) q 4096 (scr_rdN HB2.out (by omega)) rfl (by simp; omega))
          have e0 : wr.cell? ⟨eb, 0, none⟩ = some (.pointer (some ⟨wb, 0, none⟩)) := E1.cell 0 rfl
          clear E1 E3 HE
          go_wp2_with fail
          with_reducible refine CWr.out.mono ?_
          rintro e w4 ⟨rfl, hw4, hbw4⟩
          have HW4 := Hd.mk (show FixWr w wb [sb, wb] (leL a q) (.returned (.tuple #[])) w4 from by
            obtain ⟨v, hv, hown⟩ := hw4.own
            rw [List.nil_append] at hown
            refine ⟨rfl, v, hv, own_base hown (Nat.le_trans HBW.out.size HL2.out.size), (HBW.out.trans (HL2.out.weak (B' := w.heap.size) HBW.out.size (S' := [sb, wb]) (fun x hx _ => by simp at hx; subst hx; simp))).trans (hbw4.weak (Nat.le_trans HBW.out.size HL2.out.size) (fun x hx _ => by simp at hx; rcases hx with rfl | rfl <;> simp))⟩)
          clear hw4 hbw4
          go_wp2_with fail
          go_end0
          exact HW4.out
set_option maxRecDepth 100000 in
theorem E_FixedN (gw : Nat) (eb sb wb g : Nat) (tr : Value) (Z : List Value) ( l c a n : Nat) (w : World)
    (h1 : Blk w eb #[.pointer (some ⟨wb, 0, none⟩), .slice (some ⟨sb, 0, none⟩) 4096 4096, tr] 88) (hz : Z.length = 4096) (h2 : Blk w sb Z.toArray 5) (h3 : Blk w wb #[.slice none 0 0] 58)
    (n1 : eb ≠ sb) (n2 : eb ≠ wb) (n3 : sb ≠ wb)
    (hi : BigI w g true (some ⟨gw, 0, none⟩) l c a) (hw : WBlk w (some ⟨gw, 0, none⟩) l c a) (d1 : gw ≠ eb) (d2 : gw ≠ sb) (d3 : gw ≠ wb) (d4 : g ≠ eb) (d5 : g ≠ sb) (d6 : g ≠ wb)
    (h0 : 0 < a) (hn : n ≤ 16) (ha : 2 * a ≤ 256 ^ n) :
    Calls Try.prog 41 #[.pointer (some ⟨eb, 0, none⟩), .pointer (some ⟨g, 0, none⟩), .int .i64 n] w fun e w' => FixWr w wb [sb, wb, g, gw] (leL (256 ^ n - a) n) e w' := by
  have c1 : w.cell? ⟨eb, 1, none⟩ = some (.slice (some ⟨sb, 0, none⟩) 4096 4096) := h1.cell 1 rfl
  have CS := Hd.mk (intSign g true _ l c a w hi)
  have hv : sgn true a = -1 := by unfold sgn; rw [if_neg (by omega)]; rfl
  rw [hv] at CS
  have CN := Hd.mk (intNegSame g true _ l c a w hi)
  have hgw : g ≠ gw := fun e => hi.ne _ rfl e.symm
  obtain ⟨gw', f, hg', hc1000, hF, hf⟩ := hw _ rfl
  cases hg'
  have hl0 : 0 < l := by
    rcases Nat.eq_zero_or_pos l with e | e
    · have := (hi.dig.zero_iff WB1).1 e
      omega
    · exact e
  have HI0 := Hd.mk hi; have HE0 := Hd.mk h1; have HW0 := Hd.mk h3; have HF0 := Hd.mk hF; have HFF := Hd.mk hf
  have HZ0 := Hd.mk h2; have HA := Hd.mk ha
  have dc := hi.dig.cap
  have i1 : (n : Int) ≤ 4096 := by omega
  clear h1 h2 h3 hi hF hf hw hv ha
  go_enter Try.func41, Try.ntmps41
  go_wp2_with fail
  with_reducible refine CS.out.mono ?_
  rintro e w2 ⟨rfl, rfl⟩
  clear CS
  go_wp2_with fail
  with_reducible refine CN.out.mono ?_
  rintro e w3 ⟨rfl, hi3, hb3⟩
  have e3 : (!true && decide (a ≠ 0)) = false := rfl
  rw [e3] at hi3
  have CB := Hd.mk (intBits g false _ l c a w3 hi3)
  have HI3 := Hd.mk hi3; have HB3 := Hd.mk hb3
  have HF3 := Hd.mk (HF0.out.bel hb3 HF0.out.lt (by simp; exact Ne.symm hgw))
  clear hi3 hb3 CN e3
  go_wp2_with fail
  with_reducible refine CB.out.mono ?_
  rintro e w4 ⟨rfl, rfl⟩
  clear CB
  have HINV := Hd.mk (fun q (hq : q < l) => invW_limb (B := WB) (N := l) (n := a) (a := WB ^ l - 1 - a) WB1 (by have := HI3.out.dig.lt; omega) hq)
  have HBL := Hd.mk (show WB ^ l - 1 - a < WB ^ l by have := HI3.out.dig.lt; omega)
  go_wp2_with fail
  go_loopw [10] (fun i wr => ∃ kk : Nat, kk ≤ l ∧ i = .int .i64 kk ∧ Blk wr gw (mapR (fun j => if j < kk then .int .u64 (limb WB (WB ^ l - 1 - a) j : Nat) else f j) c []) 91 ∧ Bel w3.heap.size [gw] w3 wr) (fun i _ => l - (intOf i).toNat)
  case atStart => exact ⟨0, Nat.zero_le _, rfl, HF3.out.cast (mapR_congr fun j hj => by simp), Bel.refl _ _ _⟩
  case round =>
    obtain ⟨kk, hk, rfl, hbk, hlk⟩ := hrel
    have HBK := Hd.mk hbk; have HLK := Hd.mk hlk
    clear hbk hlk
    by_cases hkl : kk < l
    · have s0 : wr.cell? ⟨gw, kk, none⟩ = some (.int .u64 (limb WB a kk : Nat)) := by
        have := HBK.out.cell kk (mapR_get (show kk < c by omega))
        rw [if_neg (Nat.lt_irrefl _), HFF.out kk hkl] at this
        exact this
      have f0 := HBK.out.free kk
      have XO := Hd.mk (show bits .xor .u64 (if IntKind.u64.signed = true then -1 else IntKind.u64.max) ((limb WB a kk : Nat) : Int) = _ from xor_max (limb_lt WB1 a kk))
      have IV := Hd.mk (HINV.out kk hkl)
      have hd := WBlt a kk
      have j1 : (kk : Int) < l := by omega
      generalize limb WB a kk = x at *
      go_wp2_with fail
      rw [XO.out, ← IV.out]
      refine ⟨?_, by simp [intOf]; omega⟩
      · refine ⟨kk + 1, by omega, by go_num, ?_, HLK.out.set (.inr (by simp)) _⟩
        refine Blk.cast (HBK.out.set kk _) ?_
        rw [mapR_set (by omega)]
        refine mapR_congr fun j hj => ?_
        by_cases h1 : j = kk
        · subst h1; rw [if_pos rfl, if_pos (by omega)]
        · rw [if_neg h1]
          by_cases h2 : j < kk
          · rw [if_pos h2, if_pos (by omega)]
          · rw [if_neg h2, if_neg (by omega)]
    · obtain rfl : kk = l := by omega
      have CO := Hd.mk (natOne wr)
      go_wp2_with fail
      with_reducible refine CO.out.mono ?_
      rintro e w7 ⟨rfl, hw7⟩
      have B7 : Below wr.heap.size wr w7 := by rw [hw7]; exact ((Below.refl _ _).alloc (Nat.le_refl _) _).alloc (by simp) _
      have q7 : Blk w7 (wr.heap.size + 1) #[.bool false, .slice (some ⟨wr.heap.size, 0, none⟩) 1 1] 80 := by
        rw [hw7]
        have := Blk.new (wr.alloc (.cells #[.int .u64 1] 91)) #[.bool false, .slice (some ⟨wr.heap.size, 0, none⟩) 1 1] 80
        simpa using this
      have y7 : w7.cell? ⟨wr.heap.size, 0, none⟩ = some (.int .u64 ((1 : Nat) : Int)) := by
        rw [hw7]
        exact ((Blk.new wr #[.int .u64 1] 91).alloc _).cell 0 rfl
      have sz7 : wr.heap.size < w7.heap.size := by rw [hw7]; simp; omega
      have hgk : g < wr.heap.size := Nat.lt_of_lt_of_le HI3.out.blk.lt HLK.out.size
      have hgwk : gw < wr.heap.size := HBK.out.lt
      have CA := Hd.mk (intAddW g gw kk c 1 wr.heap.size (wr.heap.size + 1) (WB ^ kk - 1 - a) 1 (fun j => if j < kk then .int .u64 (limb WB (WB ^ kk - 1 - a) j : Nat) else f j) [] w7
        ((HI3.out.blk.bel HLK.out HI3.out.blk.lt (by simp; exact hgw)).below B7 hgk) q7 (HBK.out.below B7 hgwk) dc (by omega) hc1000 HBL.out (fun j hj => by rw [if_pos hj]) (by decide) (by decide +kernel) y7 sz7 (by omega) (Nat.le_refl _) hgw)
      have HB7 := Hd.mk (show Bel w.heap.size [g, gw] w w7 from
        (HB3.out.weak (Nat.le_refl _) (fun x hx _ => by simp at hx; subst hx; simp)).trans ((HLK.out.weak HB3.out.size (fun x hx _ => by simp at hx; subst hx; simp)).trans (Bel.of (B7.mono (Nat.le_trans HB3.out.size HLK.out.size)))))
      clear B7 q7 y7 hw7 CO HBK HLK
      go_wp2_with fail
      with_reducible refine CA.out.mono ?_
      rintro e w8 ⟨A', l', c', rfl, hi8, hb8, hf8⟩
      have eN : WB ^ kk - 1 - a + 1 = WB ^ kk - a := by have := HI3.out.dig.lt; omega
      rw [eN] at hi8
      have hbw2 : Bel w.heap.size [g, gw] w w8 := HB7.out.trans (hb8.weak HB7.out.size (fun x hx _ => by simp at hx; rcases hx with rfl | rfl <;> simp))
      have HI := Hd.mk hi8
      have HBW := Hd.mk (hbw2.weak (S' := [sb, wb, g, gw]) (Nat.le_refl _) (fun x hx _ => by simp at hx; rcases hx with rfl | rfl <;> simp))
      have HE1 := Hd.mk (HE0.out.bel hbw2 HE0.out.lt (by simp; exact ⟨Ne.symm d4, Ne.symm d1⟩))
      have HW := Hd.mk (HW0.out.bel hbw2 HW0.out.lt (by simp; exact ⟨Ne.symm d6, Ne.symm d3⟩))
      have HZ := Hd.mk ((HZ0.out.bel hbw2 HZ0.out.lt (by simp; exact ⟨Ne.symm d5, Ne.symm d2⟩)).cast (scr_zero (a := 256 ^ n - a) hz))
      have HAD := Hd.mk (fun (ad : Addr) (h : A' = some ad) (_ : 0 < l') => (show ad.block ≠ sb from by
        have := HZ0.out.lt; have := HB7.out.size
        rcases hf8 ad h with h3 | h3 <;> omega))
      have LL := Hd.mk (show kk ≤ l' from twos_len h0 hn HA.out HI3.out.dig.lt HI3.out.dig.ge hi8.dig.lt)
      have LL2 := Hd.mk (show l' ≤ kk from hi8.dig.len_le WB1 (by have := HI3.out.dig.lt; omega))
      have hl : l' ≤ 1000 := by have := LL2.out; omega
      have AK := Hd.mk (show a ≤ 256 ^ (8 * kk) by have := HI3.out.dig.lt; rw [WB_pow] at this; omega)
      have WK := Hd.mk (show WB ^ kk = 256 ^ (8 * kk) from WB_pow kk)
      have BY := Hd.mk (fun q i (hk : q < l') (hi : i < 8) (hq : 8 * q + i < n) => (show limb WB (WB ^ kk - a) q / 256 ^ i % 256 = limb 256 (256 ^ n - a) (8 * q + i) from by
        have := LL2.out
        rw [byte_word _ q i hi, WK.out]
        exact twos_limb h0 AK.out (by have := HA.out; omega) (by omega) hq))
      have FL := Hd.mk (fun q (hq : 8 * l' ≤ q) (hqn : q < n) => (show (255 : Int) = (limb 256 (256 ^ n - a) q : Nat) from by
        have h1 := LL.out
        have h2 := HI3.out.dig.lt
        rw [WK.out] at h2
        rw [invW_limb (N := n) (n := a - 1) B256 (by have := HA.out; omega) hqn, limb_over B256 (j := 8 * kk) (by omega) (by omega)]; rfl))
      clear hi8 hb8 hf8 hbw2 CA eN
      go_wp2_with fail
      with_reducible refine (intBits g false A' l' c' _ w8 HI.out).mono ?_
      rintro e w9 ⟨rfl, rfl⟩
      have dc' := HI.out.dig.cap; have ds' := HI.out.dig.small
      go_wp2_with fail
      go_loopw [11, 52] (fun j i wr => ∃ k p : Nat, k ≤ l' ∧ i = .int .i64 k ∧ j = .int .i64 p ∧ p ≤ n ∧ (p = 8 * k ∨ (p = n ∧ n ≤ 8 * k)) ∧ Blk wr sb (scr (256 ^ n - a) p Z) 5 ∧ Bel w8.heap.size [sb] w8 wr) (fun _ i _ => l' - (intOf i).toNat)
      case atStart => exact ⟨0, 0, by omega, rfl, rfl, by omega, .inl rfl, HZ.out, Bel.refl _ _ _⟩
      case round =>
        obtain ⟨k, p, hk, rfl, rfl, hpn, hkp, hb, hl⟩ := hrel
        have HB := Hd.mk hb; have HL := Hd.mk hl
        clear hb hl
        by_cases hlt : k < l'
        · obtain ⟨g1, hA1, s1, l1⟩ := HI.out.dig.at_ k hlt
          have s1' : wr.cell? ⟨g1, k, none⟩ = some (.int .u64 (limb WB (WB ^ kk - a) k)) := by rw [HL.out.cell (p := ⟨g1, k, none⟩) l1 (by simp; exact HAD.out _ hA1 (by omega))]; exact s1
          have hd := WBlt (WB ^ kk - a) k
          subst hA1
          clear s1 l1
          have BW := Hd.mk (fun i hi hq => BY.out k i hlt hi hq)
          generalize hD : limb WB (WB ^ kk - a) k = d at *
          clear hD
          have HKP := Hd.mk hkp
          clear hkp
          go_wp2
          go_loopw [11, 13, 14] (fun j v i wr => ∃ t p2 : Nat, t ≤ 8 ∧ i = .int .i64 t ∧ j = .int .i64 p2 ∧ p2 ≤ n ∧ (p2 = 8 * k + t ∨ (p2 = n ∧ n ≤ 8 * k ∧ t = 0)) ∧ v = .int .u64 (d / 256 ^ t : Nat) ∧ Blk wr sb (scr (256 ^ n - a) p2 Z) 5 ∧ Bel w8.heap.size [sb] w8 wr) (fun _ _ i _ => 8 - (intOf i).toNat)
          case atStart => exact ⟨0, p, by omega, rfl, rfl, hpn, by have := HKP.out; omega, by simp, HB.out, HL.out⟩
          case round =>
            obtain ⟨t, p2, ht, rfl, rfl, hp2, hor, rfl, hb2, hl2⟩ := hrel
            have HB2 := Hd.mk hb2; have HL2 := Hd.mk hl2
            clear hb2 hl2
            by_cases ht8 : t < 8
            · by_cases hpn2 : p2 < n
              · obtain rfl : p2 = 8 * k + t := by omega
                have V1 := Hd.mk (BW.out t ht8 hpn2)
                have V2 := Hd.mk (show d / 256 ^ (t + 1) = d / 256 ^ t / 256 by rw [Nat.pow_succ, Nat.div_div_eq_div_mul])
                have hv : d / 256 ^ t < 18446744073709551616 := Nat.lt_of_le_of_lt (Nat.div_le_self _ _) hd
                generalize hV : d / 256 ^ t = v at *
                clear hV hor
                obtain ⟨v0, s0⟩ := scr_cell HB2.out (q := 8 * k + t) (by omega)
                have f0 := HB2.out.free (8 * k + t)
                have j1 : 8 * (k : Int) + t < n := by omega
                have j2 : (t : Int) < 8 := by omega
                go_wp2
                go_roundw
                case rel =>
                  refine ⟨t + 1, 8 * k + t + 1, by omega, by go_num, by go_num, by omega, .inl (by omega), by rw [V2.out]; simp, ?_, HL2.out.set (.inr (by simp)) _⟩
                  refine Blk.cast (HB2.out.set (8 * k + t) _) (scr_step (by omega) ?_)
                  rw [← V1.out]
                  simp
                case measure => simp [intOf]; omega
              · obtain rfl : p2 = n := by omega
                have j2 : (t : Int) < 8 := by omega
                go_wp2
                go_roundw
                case rel => exact ⟨k + 1, p2, by omega, by go_num, rfl, Nat.le_refl _, .inr ⟨rfl, by omega⟩, HB2.out, HL2.out⟩
                case measure => simp [intOf]; omega
            · obtain rfl : t = 8 := by omega
              obtain rfl : p2 = 8 * k + 8 := by omega
              go_wp2
              go_roundw
              case rel => exact ⟨k + 1, 8 * k + 8, by omega, by go_num, by go_num, hp2, .inl (by omega), HB2.out, HL2.out⟩
              case measure => simp [intOf]; omega
        · obtain rfl : k = l' := by omega
          have HKP := Hd.mk hkp
          clear hkp
          go_wp2
          go_loopw [15] (fun i wr => ∃ q : Nat, p ≤ q ∧ q ≤ n ∧ i = .int .i64 q ∧ Blk wr sb (scr (256 ^ n - a) q Z) 5 ∧ Bel w8.heap.size [sb] w8 wr) (fun i _ => n - (intOf i).toNat)
          case atStart => exact ⟨p, Nat.le_refl _, hpn, rfl, HB.out, HL.out⟩
          case round =>
            obtain ⟨q, hq1, hq2, rfl, hb2, hl2⟩ := hrel
            have HB2 := Hd.mk hb2; have HL2 := Hd.mk hl2
            clear hb2 hl2
            by_cases hqn : q < n
            · obtain ⟨v0, s0⟩ := scr_cell HB2.out (q := q) (by omega)
              have f0 := HB2.out.free q
              have FQ := Hd.mk (FL.out q (by have := HKP.out; omega) hqn)
              have j1 : (q : Int) < n := by omega
              go_wp2
              go_roundw
              case rel => exact ⟨q + 1, by omega, by omega, by go_num, Blk.cast (HB2.out.set q _) (scr_step (by omega) FQ.out), HL2.out.set (.inr (by simp)) _⟩
              case measure => simp [intOf]; omega
            · obtain rfl : q = n := by omega
              have E1 := HE1.out.bel HL2.out HE1.out.lt (by simp; exact n1)
              have E3 := HW.out.bel HL2.out HW.out.lt (by simp; exact Ne.symm n3)
              have HE := Enc.startZ E1 (scr (256 ^ q - a) q Z).toList (by simp [scr, mapR]) (by simpa using HB2.out) E3 n1 n2 n3
              have CWr := Hd.mk (W_Write ⟨eb, sb, wb, tr, wr.heap.size⟩ [] (leL (256 ^ q - a) q) wr HE (some ⟨sb, 0, none⟩) q 4096 (scr_rdN HB2.out (by omega)) rfl (by simp; omega))
              have e0 : wr.cell? ⟨eb, 0, none⟩ = some (.pointer (some ⟨wb, 0, none⟩)) := E1.cell 0 rfl
              clear E1 E3 HE
              go_wp2_with fail
              with_reducible refine CWr.out.mono ?_
              rintro e w4 ⟨rfl, hw4, hbw4⟩
              have HW4 := Hd.mk (show FixWr w wb [sb, wb, g, gw] (leL (256 ^ q - a) q) (.returned (.tuple #[])) w4 from by
                obtain ⟨v, hv, hown⟩ := hw4.own
                rw [List.nil_append] at hown
                refine ⟨rfl, v, hv, own_base hown (Nat.le_trans HBW.out.size HL2.out.size), (HBW.out.trans (HL2.out.weak (B' := w.heap.size) HBW.out.size (S' := [sb, wb, g, gw]) (fun x hx _ => by simp at hx; subst hx; simp))).trans (hbw4.weak (Nat.le_trans HBW.out.size HL2.out.size) (fun x hx _ => by simp at hx; rcases hx with rfl | rfl <;> simp))⟩)
              clear hw4 hbw4
              go_wp2_with fail
              go_end0
              exact HW4.out
end Go.Proofs.Ytjikodjljocpmaa.Kb
