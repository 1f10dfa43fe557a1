/- Plain law: what is decoded at the place where a character's bytes of UTF-8 stand is that character. No program in sight. -/
import Derived.RowKit
import Derived.Lib.DecodeN
namespace Go.Proofs.YtmgckcngedpgoaaDoor.Utf
theorem get_at (s : ByteArray) (i : Nat) (l : List UInt8) (h : s.data.toList = l) : (s.get! i).toNat = (l[i]?.getD 0).toNat := by
  subst h
  rw [Array.getElem?_toList]
  show (s.data[i]!).toNat = _
  rw [getElem!_def]
  cases s.data[i]? <;> rfl
theorem size_at (s : ByteArray) (l : List UInt8) (h : s.data.toList = l) : s.size = l.length := by
  subst h
  exact (Array.length_toList).symm
theorem of8 (n : Nat) (h : n < 256) : (UInt8.ofNat n).toNat = n := by
  rw [UInt8.toNat_ofNat']; omega
theorem enc1 (r : Nat) (c1 : r < 128) : (Utf8.encode (r : Int)).data.toList = [UInt8.ofNat r] := by
  have v : Utf8.valid (r : Int) = true := by simp [Utf8.valid]; omega
  simp [Utf8.encode, v, c1]
theorem enc2 (r : Nat) (c1 : ¬ r < 128) (c2 : r < 2048) : (Utf8.encode (r : Int)).data.toList = [UInt8.ofNat (192 + r / 64), UInt8.ofNat (128 + r % 64)] := by
  have v : Utf8.valid (r : Int) = true := by simp [Utf8.valid]; omega
  simp [Utf8.encode, v, c1, c2]
theorem enc3 (r : Nat) (c2 : ¬ r < 2048) (c3 : r < 65536) (hv : r < 55296 ∨ 57344 ≤ r) : (Utf8.encode (r : Int)).data.toList = [UInt8.ofNat (224 + r / 4096), UInt8.ofNat (128 + r / 64 % 64), UInt8.ofNat (128 + r % 64)] := by
  have v : Utf8.valid (r : Int) = true := by simp [Utf8.valid]; omega
  have c1 : ¬ r < 128 := by omega
  simp [Utf8.encode, v, c1, c2, c3]
theorem enc4 (r : Nat) (c3 : ¬ r < 65536) (c4 : r ≤ 1114111) : (Utf8.encode (r : Int)).data.toList = [UInt8.ofNat (240 + r / 262144), UInt8.ofNat (128 + r / 4096 % 64), UInt8.ofNat (128 + r / 64 % 64), UInt8.ofNat (128 + r % 64)] := by
  have v : Utf8.valid (r : Int) = true := by simp [Utf8.valid]; omega
  have c1 : ¬ r < 128 := by omega
  have c2 : ¬ r < 2048 := by omega
  simp [Utf8.encode, v, c1, c2, c3]
theorem decode_mid (s : ByteArray) (A B : List UInt8) (r : Nat) (hr : r < 55296 ∨ (57344 ≤ r ∧ r ≤ 1114111)) (h : s.data.toList = A ++ ((Utf8.encode (r : Int)).data.toList ++ B)) :
    Utf8.decode s A.length = (r, (Utf8.encode (r : Int)).size) := by
  have hg := fun i => get_at s i _ h
  have hs := size_at s _ h
  rw [Go.Lib.decode_at]
  have g : ∀ k, (s.get! (A.length + k)).toNat = (((Utf8.encode (r : Int)).data.toList ++ B)[k]?.getD 0).toNat := by
    intro k
    rw [hg, List.getElem?_append_right (by omega), Nat.add_sub_cancel_left]
  have g0 := g 0
  rw [Nat.add_zero] at g0
  have es : (Utf8.encode (r : Int)).size = (Utf8.encode (r : Int)).data.toList.length := size_at _ _ rfl
  rw [g0, g 1, g 2, g 3, hs, es, List.length_append, Nat.add_sub_cancel_left, List.length_append]
  clear g0 g hg hs es h
  unfold Go.Lib.decodeN
  by_cases c1 : r < 128
  · rw [enc1 r c1]
    simp only [List.cons_append, List.nil_append, List.getElem?_cons_zero, Option.getD_some, of8 r (by omega), List.length_cons, List.length_nil]
    rw [if_pos c1]
  · by_cases c2 : r < 2048
    · rw [enc2 r c1 c2]
      simp only [List.cons_append, List.nil_append, List.getElem?_cons_zero, List.getElem?_cons_succ, Option.getD_some, of8 (192 + r / 64) (by omega), of8 (128 + r % 64) (by omega), List.length_cons, List.length_nil]
      rw [if_neg (by omega), if_pos (by omega), if_pos (by omega)]
      congr 1
      omega
    · by_cases c3 : r < 65536
      · rw [enc3 r c2 c3 (by omega)]
        simp only [List.cons_append, List.nil_append, List.getElem?_cons_zero, List.getElem?_cons_succ, Option.getD_some, of8 (224 + r / 4096) (by omega), of8 (128 + r / 64 % 64) (by omega), of8 (128 + r % 64) (by omega), List.length_cons, List.length_nil]
        rw [if_neg (by omega), if_neg (by omega), if_pos (by omega), if_pos (by omega)]
        congr 1
        omega
      · rw [enc4 r c3 (by omega)]
        simp only [List.cons_append, List.nil_append, List.getElem?_cons_zero, List.getElem?_cons_succ, Option.getD_some, of8 (240 + r / 262144) (by omega), of8 (128 + r / 4096 % 64) (by omega), of8 (128 + r / 64 % 64) (by omega), of8 (128 + r % 64) (by omega), List.length_cons, List.length_nil]
        rw [if_neg (by omega), if_neg (by omega), if_neg (by omega), if_pos (by omega), if_pos (by omega)]
        congr 1
        omega
end Go.Proofs.YtmgckcngedpgoaaDoor.Utf
