/- A number out of two or four bytes, as the specification says. -/
import Derived.Test.YtbohjafchfeheaaHdr
namespace Go.Proofs.Ytbohjafchfeheaa.Kb
open Go Go.RowKit
set_option linter.unusedVariables false
set_option linter.unusedSimpArgs false
set_option maxHeartbeats 1000000
theorem leN_drop (xs : List Int) (k : Nat) (h : k < xs.length) : leN (xs.drop k) = xs.getD k 0 + 256 * leN (xs.drop (k + 1)) := by
  rw [List.drop_eq_getElem_cons h, leN, List.getD_eq_getElem?_getD, List.getElem?_eq_getElem h]
  rfl
theorem leN_bound (xs : List Int) (hby : ∀ x ∈ xs, 0 ≤ x ∧ x < 256) : 0 ≤ leN xs ∧ leN xs < 256 ^ xs.length := by
  induction xs with
  | nil => exact ⟨Int.le_refl 0, (by decide : (0 : Int) < 1)⟩
  | cons x r ih =>
    have h1 := hby x List.mem_cons_self
    have h2 := ih (fun y hy => hby y (List.mem_cons_of_mem _ hy))
    have e : (256 : Int) ^ (x :: r).length = 256 ^ r.length * 256 := Int.pow_succ _ _
    have e2 : leN (x :: r) = x + 256 * leN r := rfl
    generalize (256 : Int) ^ (x :: r).length = P at *
    generalize (256 : Int) ^ r.length = Q at *
    omega
theorem or_high (v x : Int) (v0 : 0 ≤ v) (v1 : v < 4294967296) (x0 : 0 ≤ x) (x1 : x < 256) : bits .or .u64 (v * 256) x = x + 256 * v := by
  have h := u64_or8 (y := x) (x := v * 256) x0 x1 (by omega) (by omega) (by omega)
  rw [u64_or _ _ x0 (by omega) (by omega) (by omega)] at h
  rw [u64_or _ _ (by omega) (by omega) x0 (by omega), Nat.or_comm, h]
  omega
theorem leN_bound4 (xs : List Int) (hby : ∀ x ∈ xs, 0 ≤ x ∧ x < 256) (h : xs.length ≤ 4) : 0 ≤ leN xs ∧ leN xs < 4294967296 := by
  have h1 := leN_bound xs hby
  have h2 : (256 : Int) ^ xs.length ≤ 4294967296 := by
    rcases (by omega : xs.length = 0 ∨ xs.length = 1 ∨ xs.length = 2 ∨ xs.length = 3 ∨ xs.length = 4) with h | h | h | h | h <;> rw [h] <;> decide
  omega
set_option maxRecDepth 100000 in
theorem heNumber (A : Option Addr) (n c : Nat) (xs : List Int) (w : World) (hr : Rd w [] A n xs) (hby : ∀ x ∈ xs, 0 ≤ x ∧ x < 256) (r : Int) (hn : n = 2 ∧ r = IntKind.i16.wrap (leN xs) ∨ n = 4 ∧ r = wrap32 (leN xs)) :
    Calls Try.prog 42 #[.slice A n c, .bool true] w fun e w' => e = .returned (.int .i64 r) ∧ w' = w := by
  have hlen := hr.len
  have HR := Hd.mk hr; have HBY := Hd.mk hby; have HLEN := Hd.mk hlen
  have hn4 : n ≤ 4 := by omega
  clear hr hby hlen
  go_enter Try.func42, Try.ntmps42
  go_wp2
  go_loopw [5, 6] (fun v i wr => ∃ k : Nat, k ≤ n ∧ i = .int .i64 ((k : Int) - 1) ∧ v = .int .u64 (leN (xs.drop k)) ∧ wr = w) (fun _ i _ => (intOf i + 1).toNat)
  case atStart => exact ⟨n, by omega, rfl, by rw [List.drop_eq_nil_of_le (by rw [HLEN.out]; exact Nat.le_refl _)]; rfl, rfl⟩
  case round =>
    obtain ⟨k, hk, rfl, rfl, rfl⟩ := hrel
    by_cases hlt : 0 < k
    · obtain ⟨k, rfl⟩ : ∃ j, k = j + 1 := ⟨k - 1, by omega⟩
      obtain ⟨ad, rfl, hc⟩ := HR.out.cell k (by omega)
      have hv := leN_bound4 (xs.drop (k + 1)) (fun x hx => HBY.out x (List.mem_of_mem_drop hx)) (by have := HLEN.out; simp <;> omega)
      have hx : 0 ≤ xs.getD k 0 ∧ xs.getD k 0 < 256 := by
        have hkx : k < xs.length := by rw [HLEN.out]; omega
        rw [List.getD_eq_getElem?_getD, List.getElem?_eq_getElem hkx]
        exact HBY.out _ (List.getElem_mem hkx)
      have hd := leN_drop xs k (by rw [HLEN.out]; omega)
      have HDD := Hd.mk hd
      clear hd
      generalize leN (xs.drop (k + 1)) = v at *
      generalize xs.getD k 0 = x at *
      obtain ⟨v0, v1⟩ := hv
      obtain ⟨x0, x1⟩ := hx
      go_wp2
      go_roundw
      case rel =>
        refine ⟨k, by omega, by go_num, ?_, trivial⟩
        rw [HDD.out, or_high v x v0 v1 x0 x1]
      case measure => simp [intOf]
    · obtain rfl : k = 0 := by omega
      have hv := leN_bound4 xs HBY.out (by rw [HLEN.out]; exact hn4)
      rcases hn with ⟨rfl, rfl⟩ | ⟨rfl, rfl⟩
      all_goals
        go_wp2
        go_ret
        refine ⟨?_, rfl⟩
        congr 2
        simp [IntKind.wrap, IntKind.bits, IntKind.signed]
        unfold wrap64
        try unfold wrap32
        omega
end Go.Proofs.Ytbohjafchfeheaa.Kb
