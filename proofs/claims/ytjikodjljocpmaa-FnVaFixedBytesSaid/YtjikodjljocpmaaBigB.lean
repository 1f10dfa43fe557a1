/- math/big: nat.setBytes. -/
import Derived.Test.YtjikodjljocpmaaBigA
import Derived.Test.YtjikodjljocpmaaLe
import Derived.Deep.RegionHeld3
namespace Go.Proofs.Ytjikodjljocpmaa.Kb
open Go Go.RowKit
set_option linter.unusedVariables false
set_option linter.unusedSimpArgs false
set_option maxHeartbeats 1000000
theorem Rd.at_off {w : World} {S : List Nat} {ad : Addr} {n : Nat} {xs : List Int} (h : Rd w S (some ad) n xs) (j : Nat) (h0 : 0 < j) (hj : j < n) : w.cell? ⟨ad.block, ad.off + j, none⟩ = some (.int .u8 (xs.getD j 0)) := by
  obtain ⟨ad', h1, h2⟩ := h.cell j hj
  cases h1
  rw [Addr.add, if_neg (by omega)] at h2
  exact h2
theorem Rd.at_zero {w : World} {S : List Nat} {ad : Addr} {n : Nat} {xs : List Int} (h : Rd w S (some ad) n xs) (hj : 0 < n) : w.cell? ad = some (.int .u8 (xs.getD 0 0)) := by
  obtain ⟨ad', h1, h2⟩ := h.cell 0 hj
  cases h1
  exact h2
theorem take4 {xs : List Int} (h : 4 ≤ xs.length) : xs.take 4 = [xs.getD 0 0, xs.getD 1 0, xs.getD 2 0, xs.getD 3 0] := by
  match xs, h with
  | a :: b :: c :: d :: r, _ => rfl
theorem getD_byte {xs : List Int} (hby : ∀ x ∈ xs, 0 ≤ x ∧ x < 256) (j : Nat) : 0 ≤ xs.getD j 0 ∧ xs.getD j 0 < 256 := by
  rw [List.getD_eq_getElem?_getD]
  by_cases h : j < xs.length
  · rw [List.getElem?_eq_getElem h]; exact hby _ (List.getElem_mem h)
  · rw [List.getElem?_eq_none (by omega)]; simp
set_option maxRecDepth 100000 in
theorem be32 (ad : Addr) (n c : Nat) (xs : List Int) (w : World) (hr : Rd w [] (some ad) n xs) (hby : ∀ x ∈ xs, 0 ≤ x ∧ x < 256) (h4 : 4 ≤ n) :
    Calls Try.prog 81 #[.slice (some ad) n c] w fun e w' => e = .returned (.int .u32 (beN (xs.take 4))) ∧ Below w.heap.size w w' := by
  have c0 := hr.at_zero (by omega)
  have c1 := hr.at_off 1 (by omega) (by omega)
  have c2 := hr.at_off 2 (by omega) (by omega)
  have c3 := hr.at_off 3 (by omega) (by omega)
  obtain ⟨g0, k0⟩ := getD_byte hby 0
  obtain ⟨g1, k1⟩ := getD_byte hby 1
  obtain ⟨g2, k2⟩ := getD_byte hby 2
  obtain ⟨g3, k3⟩ := getD_byte hby 3
  have HT := Hd.mk (take4 (by rw [hr.len]; exact h4))
  clear hr hby
  generalize xs.getD 0 0 = b0 at *
  generalize xs.getD 1 0 = b1 at *
  generalize xs.getD 2 0 = b2 at *
  generalize xs.getD 3 0 = b3 at *
  have q0 : 0 < n := by omega
  have q1 : (1 : Int) < (n : Int) := by omega
  have q2 : (2 : Int) < (n : Int) := by omega
  have q3 : (3 : Int) < (n : Int) := by omega
  have q4 : (0 : Int) < (n : Int) := by omega
  have HV := Hd.mk (show ((beN [b0, b1, b2, b3] : Nat) : Int) = b3 + b2 * 256 + b1 * 65536 + b0 * 16777216 by simp [beN]; omega)
  go_enter Try.func81, Try.ntmps81
  go_wp2
  go_quiet (fail)
  go_wp2
  go_ret
  refine ⟨?_, belowN (Below.refl _ _) _⟩
  simp (disch := omega) only [u32_wrap_id, u32_or8, u32_or16, u32_or24]
  rw [HT.out, HV.out]
  rfl
theorem beN_append (xs ys : List Int) : beN (xs ++ ys) = beN xs * 256 ^ ys.length + beN ys := by
  suffices ∀ (zs : List Int) (a : Nat), zs.foldl (fun a x => a * 256 + x.toNat) a = a * 256 ^ zs.length + zs.foldl (fun a x => a * 256 + x.toNat) 0 by
    unfold beN
    rw [List.foldl_append, this ys]
  intro zs
  induction zs with
  | nil => intro a; simp
  | cons z zs ih =>
    intro a
    simp only [List.foldl_cons, List.length_cons]
    rw [ih (a * 256 + z.toNat), ih (0 * 256 + z.toNat), Nat.pow_succ]
    simp only [Nat.zero_mul, Nat.zero_add, Nat.add_mul]
    have : a * 256 * 256 ^ zs.length = a * (256 ^ zs.length * 256) := by rw [Nat.mul_assoc, Nat.mul_comm 256]
    omega
/-- Bits put above a number are added to it. -/
theorem or_shift (s u v : Nat) (hv : v < 2 ^ s) (h64 : u * 2 ^ s + v < 18446744073709551616) : bits .or .u64 ((u * 2 ^ s : Nat) : Int) (v : Int) = ((u * 2 ^ s + v : Nat) : Int) := by
  rw [u64_or _ _ (by omega) (by omega) (by omega) (by omega)]
  simp only [Int.toNat_natCast]
  rw [Nat.mul_comm, ← Nat.two_pow_add_eq_or_of_lt hv]
theorem or_shift' (s u v : Nat) (hv : v < 2 ^ s) (h64 : u * 2 ^ s + v < 18446744073709551616) : bits .or .u64 (v : Int) ((u * 2 ^ s : Nat) : Int) = ((u * 2 ^ s + v : Nat) : Int) := by
  rw [u64_or _ _ (by omega) (by omega) (by omega) (by omega)]
  simp only [Int.toNat_natCast]
  rw [Nat.or_comm, Nat.mul_comm, ← Nat.two_pow_add_eq_or_of_lt hv]
/-- What a region of beUint64 keeps. -/
def BeS (w0 : World) (ad : Addr) (xs : List Int) (W : World) : Prop := Rd W [] (some ad) 8 xs ∧ Below w0.heap.size w0 W
theorem beS_keep {w0 W W' : World} {ad : Addr} {xs : List Int} (h : BeS w0 ad xs W) (hb : Below W.heap.size W W') : BeS w0 ad xs W' := ⟨h.1.below hb, h.2.trans (hb.mono h.2.size)⟩
theorem beS_hi {w0 W : World} {ad : Addr} {xs : List Int} (h : BeS w0 ad xs W) : Rd W [] (some ⟨ad.block, ad.off + 4, none⟩) 4 ((xs.drop 4).take 4) := by
  have := h.1.part 4 4 (by omega)
  rwa [Addr.add, if_neg (by omega)] at this
set_option maxRecDepth 100000 in
theorem be64 (ad : Addr) (c : Nat) (xs : List Int) (w : World) (hr : Rd w [] (some ad) 8 xs) (hby : ∀ x ∈ xs, 0 ≤ x ∧ x < 256) (hc : 8 ≤ c) (hc2 : c ≤ 9223372036854775807) :
    Calls Try.prog 80 #[.slice (some ad) 8 c] w fun e w' => e = .returned (.int .u64 (beN xs)) ∧ Below w.heap.size w w' := by
  have hlen := hr.len
  have hb1 : ∀ x ∈ xs.take 4, 0 ≤ x ∧ x < 256 := fun x hx => hby x (List.mem_of_mem_take hx)
  have hb2 : ∀ x ∈ (xs.drop 4).take 4, 0 ≤ x ∧ x < 256 := fun x hx => hby x (List.mem_of_mem_drop (List.mem_of_mem_take hx))
  have l1 := beN_lt _ hb1
  have l2 := beN_lt _ hb2
  have e0 : beN xs = beN (xs.take 4) * 4294967296 + beN ((xs.drop 4).take 4) := by
    conv => lhs; rw [← List.take_append_drop 4 xs]
    rw [beN_append, List.length_drop, hlen, List.take_of_length_le (l := xs.drop 4) (by simp; omega)]
  rw [List.length_take, hlen] at l1
  rw [List.length_take, List.length_drop, hlen] at l2
  have c7 := hr.at_off 7 (by omega) (by omega)
  have C1 := Hd.mk (fun W (h : BeS w ad xs W) => be32 ad 8 c xs W h.1 hby (by omega))
  have C2 := Hd.mk (fun W (h : BeS w ad xs W) => be32 ⟨ad.block, ad.off + 4, none⟩ 4 (c - 4) ((xs.drop 4).take 4) W (beS_hi h) hb2 (by omega))
  rw [List.take_take] at C2
  have S0 : BeS w ad xs w.drew := ⟨hr.below (Below.refl _ _).drew, (Below.refl _ _).drew⟩
  have E0 := Hd.mk e0
  clear hr hby hb1 hb2 e0 hlen
  generalize beN (xs.take 4) = u at *
  generalize hV : beN ((xs.drop 4).take 4) = v at *
  simp only [Nat.min_self] at C2 l1 l2
  rw [hV] at C2
  clear hV
  simp at l1 l2
  have i1 : (4 : Int) ≤ c := by omega
  have i2 : (8 : Int) ≤ c := by omega
  have i3 : ¬ c = 4 := by omega
  go_enter Try.func80, Try.ntmps80
  go_wp2_with fail
  go_region_held3 (fun W => BeS w ad xs W) (first | assumption | exact beS_keep (by assumption) (by assumption))
    (first
      | (go_at_call 81; (with_reducible refine (C1.out _ (by assumption)).mono ?_); rintro e w2 ⟨rfl, hb⟩)
      | (go_at_call 81; (with_reducible refine (C2.out _ (by assumption)).mono ?_); rintro e w2 ⟨rfl, hb⟩))
  rename_i hh
  go_wp2
  go_ret
  refine ⟨?_, hh.2⟩
  have w1 : IntKind.u64.wrap (u : Int) = u := u64_wrap_id _ (by omega) (by omega)
  have w2 : IntKind.u64.wrap (v : Int) = v := u64_wrap_id _ (by omega) (by omega)
  have w3 : IntKind.u64.wrap ((u : Int) * 4294967296) = ((u * 2 ^ 32 : Nat) : Int) := by rw [u64_wrap_id _ (by omega) (by omega)]; simp
  rw [E0.out]
  show Ending.returned (.int .u64 (bits .or .u64 (IntKind.u64.wrap (IntKind.u64.wrap ↑u * 4294967296)) (IntKind.u64.wrap ↑v))) = _
  rw [w1, w2, w3, or_shift 32 u v (by omega) (by omega)]
end Go.Proofs.Ytjikodjljocpmaa.Kb
