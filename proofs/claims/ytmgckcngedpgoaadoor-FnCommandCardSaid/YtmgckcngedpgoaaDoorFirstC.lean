/- FnCesuFirst: utf8.DecodeRune of a character below U+10000 and what follows. -/
import Derived.Test.YtmgckcngedpgoaaDoorFirstB
namespace Go.Proofs.YtmgckcngedpgoaaDoor.Kb
open Go Go.RowKit
set_option linter.unusedVariables false
set_option linter.unusedSimpArgs false
set_option maxHeartbeats 2000000
/-- Numbers as bytes. -/
def u8s (xs : List Int) : List UInt8 := xs.map fun z => UInt8.ofNat z.toNat
theorem enc_u8s (r : Int) (h0 : 0 ≤ r) (h1 : r < 65536) (hs : ¬ (55296 ≤ r ∧ r ≤ 57343)) : (Utf8.encode r).data.toList = u8s (encC r) := by
  obtain ⟨n, rfl⟩ := Int.eq_ofNat_of_zero_le h0
  by_cases c1 : n < 128
  · rw [encC_1 _ (by omega), Utf.enc1 n c1]; simp [u8s]
  · by_cases c2 : n < 2048
    · rw [encC_2 _ (by omega) (by omega), Utf.enc2 n c1 c2]
      have e1 : ((192 : Int) + (n : Int) / 64).toNat = 192 + n / 64 := by omega
      have e2 : ((128 : Int) + (n : Int) % 64).toNat = 128 + n % 64 := by omega
      simp [u8s, e1, e2]
    · rw [encC_3 _ (by omega) (by omega) hs, Utf.enc3 n c2 (by omega) (by omega)]
      have e1 : ((224 : Int) + (n : Int) / 4096).toNat = 224 + n / 4096 := by omega
      have e2 : ((128 : Int) + (n : Int) / 64 % 64).toNat = 128 + n / 64 % 64 := by omega
      have e3 : ((128 : Int) + (n : Int) % 64).toNat = 128 + n % 64 := by omega
      simp [u8s, three, e1, e2, e3]
theorem str_list (xs : List Int) : (strOfNums xs).data.toList = u8s xs := by simp [strOfNums, u8s]
theorem dec_first (r : Int) (rest : List Int) (h0 : 0 ≤ r) (h1 : r < 65536) (hs : ¬ (55296 ≤ r ∧ r ≤ 57343)) :
    Go.Lib.decodeGo (strOfNums (encC r ++ rest)) = (r.toNat, (encC r).length) := by
  have hn : ((r.toNat : Nat) : Int) = r := by omega
  have e := Utf.decode_mid (strOfNums (encC r ++ rest)) [] (u8s rest) r.toNat (by omega) (by rw [hn, str_list, enc_u8s r h0 h1 hs]; simp [u8s])
  rw [hn] at e
  have hz : (Utf8.encode r).size = (encC r).length := by
    rw [Utf.size_at _ _ rfl, enc_u8s r h0 h1 hs]; simp [u8s]
  have hne : (strOfNums (encC r ++ rest)).size ≠ 0 := by
    rw [Utf.size_at _ _ rfl, str_list]
    have : 0 < (encC r).length := by rw [encC, if_pos h1]; exact (encU_len r).2
    simp [u8s]
    intro h
    simp [h] at this
  unfold Go.Lib.decodeGo
  rw [if_neg hne]
  simpa [hz] using e
theorem str_byte (xs : List Int) (hby : ∀ x ∈ xs, 0 ≤ x ∧ x < 256) (j : Nat) (hj : j < xs.length) : (((strOfNums xs).get! j).toNat : Int) = xs[j] := by
  have e := Utf.get_at (strOfNums xs) j _ (str_list xs)
  rw [e]
  have hb := hby _ (List.getElem_mem hj)
  simp [u8s, hj, UInt8.toNat_ofNat']
  omega
theorem utf8_dec (g off n c : Nat) (xs rest : List Int) (r : Int) (w : World) (hr : Rd w [] (some ⟨g, off, none⟩) n xs) (hxs : xs = encC r ++ rest) (hby : ∀ x ∈ xs, 0 ≤ x ∧ x < 256) (hT : Go.Lib.Utf8Tabs 3 4 w)
    (h0 : 0 ≤ r) (h1 : r < 65536) (hs : ¬ (55296 ≤ r ∧ r ≤ 57343)) :
    Calls Tryd.prog 77 #[.slice (some ⟨g, off, none⟩) n c] w fun e w' => e = .returned (.tuple #[.int .i32 r, .int .i64 (encC r).length]) ∧ Below w.heap.size w w' := by
  have hz : (strOfNums xs).size = n := by rw [Utf.size_at _ _ rfl, str_list, ← hr.len]; simp [u8s]
  have C := Any7.utf8_DecodeRune Door.lays7_32 (strOfNums xs) g off c w hT (fun j hj => by
    have hj' : j < xs.length := by rw [hr.len, ← hz]; exact hj
    rw [str_byte xs hby j hj']
    by_cases h : j = 0
    · subst h
      exact hr.at0 (List.getElem?_eq_getElem hj')
    · exact hr.atk j _ (by omega) (List.getElem?_eq_getElem hj'))
  rw [hz, hxs, dec_first r rest h0 h1 hs] at C
  have hn : ((r.toNat : Nat) : Int) = r := by omega
  simp only [hn] at C
  exact C
end Go.Proofs.YtmgckcngedpgoaaDoor.Kb
