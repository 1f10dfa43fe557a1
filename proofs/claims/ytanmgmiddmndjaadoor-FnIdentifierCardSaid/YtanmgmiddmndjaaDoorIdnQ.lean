/- FnIdentifier: quoted identifiers: plain, and the walk of the specification's. -/
import Derived.Test.YtanmgmiddmndjaaDoorIdnA
import Derived.Lib.QuoteLoop
namespace Go.Proofs.YtanmgmiddmndjaaDoor.Kb
open Go Go.RowKit
set_option linter.unusedVariables false
set_option linter.unusedSimpArgs false
set_option maxHeartbeats 4000000
def esc (x : Nat) : List Int := if x = 34 ∨ x = 92 then [92, x] else [x]
def qz (s : ByteArray) : Nat → List Int
  | 0 => [34]
  | k + 1 => qz s k ++ esc (at_ s k)
theorem qz_len (s : ByteArray) (k : Nat) : (qz s k).length ≤ 1 + 2 * k := by
  induction k with
  | zero => simp [qz]
  | succ k ih =>
    have : (esc (at_ s k)).length ≤ 2 := by unfold esc; split <;> simp
    simp [qz]
    omega
theorem ext_at (s : ByteArray) (k : Nat) (h : k < s.size) : ∃ h0 : 0 < (s.extract k s.size).size, (((s.extract k s.size)[0]'h0).toNat = at_ s k) := by
  have e : (s.extract k s.size).size = s.size - k := by simp [ByteArray.size_extract]
  refine ⟨by omega, ?_⟩
  rw [← at_get s k h]
  simp [ByteArray.getElem_extract]
theorem ext_next (s : ByteArray) (k : Nat) (h : k < s.size) : (s.extract k s.size).extract 1 (s.extract k s.size).size = s.extract (k + 1) s.size := by
  have e : (s.extract k s.size).size = s.size - k := by simp [ByteArray.size_extract]
  rw [e, ByteArray.extract_extract]
  congr 1
  omega
theorem esc_step (T : Lib.PrintTabs) (x : Nat) (h0 : 32 ≤ x) (h1 : x ≤ 126) : Lib.escRune T (x : Int) = esc x := by
  unfold Lib.escRune esc
  by_cases c : x = 34 ∨ x = 92
  · rw [if_pos c, if_pos (by omega)]
  · rw [if_neg c, if_neg (by omega), if_pos]
    · unfold Lib.encodeRuneZ
      rw [if_pos (by omega)]
    · unfold Lib.isPrintR Lib.isPrintLatin
      rw [if_pos (by omega)]
      simp
      omega
theorem quote_from (T : Lib.PrintTabs) (s : ByteArray) (hp : ∀ k, k < s.size → 32 ≤ at_ s k ∧ at_ s k ≤ 126) : ∀ (m k f : Nat), k + m = s.size → m ≤ f → qz s k ++ Lib.quoteFrom T f (s.extract k s.size) = qz s s.size := by
  intro m
  induction m with
  | zero =>
    intro k f hk _
    obtain rfl : k = s.size := by omega
    rw [Lib.quoteFrom_end _ _ _ (by simp)]
    simp
  | succ m ih =>
    intro k f hk hf
    obtain ⟨h0, hx⟩ := ext_at s k (by omega)
    have hb := hp k (by omega)
    have e : (s.extract k s.size).size = s.size - k := by simp [ByteArray.size_extract]
    rw [Lib.quoteFrom_step T f _ h0 (by omega)]
    have hd : Utf8.decode (s.extract k s.size) 0 = (at_ s k, 1) := by
      rw [← hx]; exact decode_ascii _ 0 h0 (by omega)
    rw [hd, ext_next s k (by omega), Lib.quoteStep_good _ _ (by rw [hd]; simp; omega), hd]
    simp only
    rw [esc_step T _ hb.1 hb.2, ← List.append_assoc]
    exact ih (k + 1) (f - 1) (by omega) (by omega)
theorem quote_all (T : Lib.PrintTabs) (s : ByteArray) (hp : ∀ k, k < s.size → 32 ≤ at_ s k ∧ at_ s k ≤ 126) : Lib.quoteZ T s = qz s s.size ++ [34] := by
  have h := quote_from T s hp s.size 0 s.size (by omega) (Nat.le_refl _)
  have e : s.extract 0 s.size = s := by simp
  rw [e] at h
  unfold Lib.quoteZ
  rw [← h]
  simp [qz]
end Go.Proofs.YtanmgmiddmndjaaDoor.Kb
