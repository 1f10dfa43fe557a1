/- Texts of characters: their bytes in UTF-8 and in CESU-8. -/
import Derived.Test.YtmgckcngedpgoaaDoorFirstH
import Derived.Test.YtmgckcngedpgoaaDoorTabs
import Derived.Test.YtmgckcngedpgoaaDoorLocC
namespace Go.Proofs.YtmgckcngedpgoaaDoor.Kb
open Go Go.RowKit
set_option linter.unusedVariables false
set_option linter.unusedSimpArgs false
set_option maxHeartbeats 1000000
/-- A character that CESU-8 brings there and back. -/
def good (r : Int) : Prop := 0 ≤ r ∧ r ≤ 1114111 ∧ ¬ (55296 ≤ r ∧ r ≤ 57343) ∧ r ≠ 65533
theorem good.v {r : Int} (h : good r) : isV r := ⟨h.1, h.2.1, h.2.2.1⟩
def uB (F : List Int) : List Int := F.flatMap encU
def cB (F : List Int) : List Int := F.flatMap encC
theorem uB_app (a b : List Int) : uB (a ++ b) = uB a ++ uB b := List.flatMap_append ..
theorem cB_app (a b : List Int) : cB (a ++ b) = cB a ++ cB b := List.flatMap_append ..
theorem uB_one (r : Int) : uB [r] = encU r := by simp [uB]
theorem cB_one (r : Int) : cB [r] = encC r := by simp [cB]
theorem uB_next {F : List Int} {k : Nat} (h : k < F.length) : uB (F.take (k + 1)) = uB (F.take k) ++ encU F[k] := by rw [List.take_succ_eq_append_getElem h, uB_app, uB_one]
theorem cB_next {F : List Int} {k : Nat} (h : k < F.length) : cB (F.take (k + 1)) = cB (F.take k) ++ encC F[k] := by rw [List.take_succ_eq_append_getElem h, cB_app, cB_one]
theorem uB_split (F : List Int) (k : Nat) : uB F = uB (F.take k) ++ uB (F.drop k) := by rw [← uB_app, List.take_append_drop]
theorem cB_split (F : List Int) (k : Nat) : cB F = cB (F.take k) ++ cB (F.drop k) := by rw [← cB_app, List.take_append_drop]
theorem uB_drop (F : List Int) (k : Nat) : (uB F).drop (uB (F.take k)).length = uB (F.drop k) := by rw [uB_split F k, List.drop_left]
theorem cB_drop (F : List Int) (k : Nat) : (cB F).drop (cB (F.take k)).length = cB (F.drop k) := by rw [cB_split F k, List.drop_left]
theorem uB_here {F : List Int} {k : Nat} (h : k < F.length) : uB (F.drop k) = encU F[k] ++ uB (F.drop (k + 1)) := by rw [List.drop_eq_getElem_cons h]; rfl
theorem cB_here {F : List Int} {k : Nat} (h : k < F.length) : cB (F.drop k) = encC F[k] ++ cB (F.drop (k + 1)) := by rw [List.drop_eq_getElem_cons h]; rfl
theorem encU_isV {r : Int} (h : ¬ (55296 ≤ r ∧ r ≤ 57343)) : encU r = enc1 r := by unfold encU; rw [if_neg h]
theorem encC_lenC {r : Int} (h : ¬ (55296 ≤ r ∧ r ≤ 57343)) : ((encC r).length : Int) = lenC r := by
  unfold encC lenC encU enc1
  repeat' split
  all_goals first | rfl | omega | simp
theorem encC_len6 (r : Int) : (encC r).length ≤ 6 ∧ 0 < (encC r).length := by
  unfold encC encU enc1
  repeat' split
  all_goals simp
theorem enc_le (r : Int) : (encU r).length ≤ (encC r).length ∧ (encC r).length ≤ 2 * (encU r).length := by
  unfold encC encU enc1
  repeat' split
  all_goals first | omega | simp
theorem encU_byte (r : Int) (h0 : 0 ≤ r) (h1 : r ≤ 1114111) : ∀ x ∈ encU r, 0 ≤ x ∧ x < 256 := by
  unfold encU enc1
  intro x hx
  repeat' split at hx
  all_goals
    simp at hx
    omega
theorem encU_low {r : Int} (h : r < 128) (h0 : 0 ≤ r) : encU r = [r] := by
  rw [encU_isV (by omega)]; unfold enc1; rw [if_pos h]
theorem encC_low {r : Int} (h : r < 128) (h0 : 0 ≤ r) : encC r = [r] := by unfold encC; rw [if_pos (by omega), encU_low h h0]
/-- The first byte of a character that has several. -/
theorem encU_high {r : Int} (h : 128 ≤ r) (h1 : r ≤ 1114111) : ∃ p q, encU r = p :: q ∧ 128 ≤ p ∧ p < 256 ∧ (65536 ≤ r → 240 ≤ p) := by
  unfold encU enc1
  repeat' split
  all_goals first | omega | exact ⟨_, _, rfl, by omega, by omega, by omega⟩
theorem encC_high {r : Int} (h : 128 ≤ r) (h1 : r ≤ 1114111) : ∃ p q, encC r = p :: q ∧ 128 ≤ p ∧ p < 256 := by
  unfold encC encU enc1 hiS loS
  repeat' split
  all_goals first | omega | exact ⟨_, _, rfl, by omega, by omega⟩
theorem uB_byte {F : List Int} (h : ∀ r ∈ F, good r) : ∀ x ∈ uB F, 0 ≤ x ∧ x < 256 := by
  intro x hx
  obtain ⟨r, hr, hx⟩ := List.mem_flatMap.1 hx
  exact encU_byte r (h r hr).1 (h r hr).2.1 x hx
theorem cB_byte {F : List Int} (h : ∀ r ∈ F, good r) : ∀ x ∈ cB F, 0 ≤ x ∧ x < 256 := by
  intro x hx
  obtain ⟨r, hr, hx⟩ := List.mem_flatMap.1 hx
  exact encC_byteL r (h r hr).1 (h r hr).2.1 x hx
theorem uB_le (F : List Int) : (uB F).length ≤ 4 * F.length := by
  induction F with
  | nil => simp [uB]
  | cons r F ih =>
    have := (encU_len r).1
    unfold uB at *
    simp only [List.flatMap_cons, List.length_append, List.length_cons]
    omega
theorem cB_le (F : List Int) : (cB F).length ≤ 6 * F.length := by
  induction F with
  | nil => simp [cB]
  | cons r F ih =>
    have := (encC_len6 r).1
    unfold cB at *
    simp only [List.flatMap_cons, List.length_append, List.length_cons]
    omega
theorem ub_le_cb (F : List Int) : (uB F).length ≤ (cB F).length := by
  induction F with
  | nil => simp [uB, cB]
  | cons r F ih =>
    have := (enc_le r).1
    unfold uB cB at *
    simp only [List.flatMap_cons, List.length_append]
    omega
theorem cb_le_ub (F : List Int) : (cB F).length ≤ 2 * (uB F).length := by
  induction F with
  | nil => simp [uB, cB]
  | cons r F ih =>
    have := (enc_le r).2
    unfold uB cB at *
    simp only [List.flatMap_cons, List.length_append]
    omega
theorem uB_pos {F : List Int} (h : 0 < F.length) : 0 < (uB F).length := by
  cases F with
  | nil => simp at h
  | cons r F =>
    have := (encU_len r).2
    simp only [uB, List.flatMap_cons, List.length_append]
    omega
theorem cB_pos {F : List Int} (h : 0 < F.length) : 0 < (cB F).length := by
  cases F with
  | nil => simp at h
  | cons r F =>
    have := (encC_len6 r).2
    simp only [cB, List.flatMap_cons, List.length_append]
    omega
/-- The model's UTF-8 is that of encU. -/
theorem enc_u8U {r : Int} (h : isV r) : (Utf8.encode r).data.toList = u8s (encU r) := by
  obtain ⟨h0, h1, h2⟩ := h
  by_cases hl : r < 65536
  · have e : encC r = encU r := by unfold encC; rw [if_pos hl]
    rw [enc_u8s r h0 hl h2, e]
  · obtain ⟨n, rfl⟩ := Int.eq_ofNat_of_zero_le h0
    rw [Utf.enc4 n (by omega) (by omega), encU_isV h2]
    unfold enc1
    rw [if_neg (by omega), if_neg (by omega), if_neg (by omega)]
    have e1 : ((240 : Int) + (n : Int) / 262144).toNat = 240 + n / 262144 := by omega
    have e2 : ((128 : Int) + (n : Int) / 4096 % 64).toNat = 128 + n / 4096 % 64 := by omega
    have e3 : ((128 : Int) + (n : Int) / 64 % 64).toNat = 128 + n / 64 % 64 := by omega
    have e4 : ((128 : Int) + (n : Int) % 64).toNat = 128 + n % 64 := by omega
    simp [u8s, e1, e2, e3, e4]
theorem u8s_back {xs : List Int} (h : ∀ x ∈ xs, 0 ≤ x ∧ x < 256) : (u8s xs).map (fun x => (x.toNat : Int)) = xs := by
  unfold u8s
  rw [List.map_map]
  refine (List.map_congr_left fun x hx => ?_).trans (List.map_id xs)
  have := h x hx
  simp [UInt8.toNat_ofNat']
  omega
theorem nums_runes {F : List Int} (h : ∀ r ∈ F, isV r) : nums (runesBytes F) = uB F := by
  induction F with
  | nil => simp [nums, runesBytes, uB]
  | cons r F ih =>
    have e := runes_append [r] F
    rw [List.singleton_append, runes_one] at e
    have hr := h r (by simp)
    unfold nums at *
    rw [e, List.map_append, ih (fun x hx => h x (by simp [hx])), enc_u8U hr, u8s_back (encU_byte r hr.1 hr.2.1)]
    simp [uB]
theorem size_uB {F : List Int} (h : ∀ r ∈ F, isV r) : (runesBytes F).size = (uB F).length := by rw [← nums_runes h, nums_len]
theorem dec_firstU {r : Int} (rest : List Int) (h : isV r) : Go.Lib.decodeGo (strOfNums (encU r ++ rest)) = (r.toNat, (encU r).length) := by
  have hn : ((r.toNat : Nat) : Int) = r := by have := h.1; omega
  have e := Utf.decode_mid (strOfNums (encU r ++ rest)) [] (u8s rest) r.toNat (by have := h.2; omega) (by rw [hn, str_list, enc_u8U h]; simp [u8s])
  rw [hn] at e
  have hz : (Utf8.encode r).size = (encU r).length := by
    rw [Utf.size_at _ _ rfl, enc_u8U h]; simp [u8s]
  have hne : (strOfNums (encU r ++ rest)).size ≠ 0 := by
    rw [Utf.size_at _ _ rfl, str_list]
    have := (encU_len r).2
    simp [u8s]
    intro h
    simp [h] at this
  unfold Go.Lib.decodeGo
  rw [if_neg hne]
  simpa [hz] using e
theorem utf8_decU (g off n c : Nat) (xs rest : List Int) (r : Int) (w : World) (hr : Rd w [] (some ⟨g, off, none⟩) n xs) (hxs : xs = encU r ++ rest) (hby : ∀ x ∈ xs, 0 ≤ x ∧ x < 256) (hT : Go.Lib.Utf8Tabs 3 4 w) (hv : isV r) :
    Calls Tryd.prog 77 #[.slice (some ⟨g, off, none⟩) n c] w fun e w' => RuneAt r (encU r).length w e w' := by
  have hz : (strOfNums xs).size = n := by rw [Utf.size_at _ _ rfl, str_list, ← hr.len]; simp [u8s]
  have C := Any7.utf8_DecodeRune Door.lays7_32 (strOfNums xs) g off c w hT (fun j hj => by
    have hj' : j < xs.length := by rw [hr.len, ← hz]; exact hj
    rw [str_byte xs hby j hj']
    by_cases h : j = 0
    · subst h
      exact hr.at0 (List.getElem?_eq_getElem hj')
    · exact hr.atk j _ (by omega) (List.getElem?_eq_getElem hj'))
  rw [hz, hxs, dec_firstU rest hv] at C
  have hn : ((r.toNat : Nat) : Int) = r := by have := hv.1; omega
  simp only [hn] at C
  exact C
set_option maxRecDepth 100000 in
/-- cesu8.DecodeRune of UTF-8. -/
theorem ce_decU (g off n c : Nat) (xs rest : List Int) (r : Int) (w : World) (hr : Rd w [] (some ⟨g, off, none⟩) n xs) (hxs : xs = encU r ++ rest) (hby : ∀ x ∈ xs, 0 ≤ x ∧ x < 256) (hT : Go.Lib.Utf8Tabs 3 4 w) (hv : isV r) :
    Calls Tryd.prog 68 #[.slice (some ⟨g, off, none⟩) n c] w fun e w' => RuneAt r (encU r).length w e w' := by
  by_cases hl : r < 65536
  · have e : encC r = encU r := by unfold encC; rw [if_pos hl]
    have := ce_dec_low g off n c xs rest r w hr (by rw [e]; exact hxs) hby hT hv.1 hl hv.2.2
    rwa [e] at this
  · have C2 := Hd.mk (utf8_decU g off n c xs rest r w hr hxs hby hT hv)
    obtain ⟨p, q, hp, p1, p2, p3⟩ := encU_high (r := r) (by omega) hv.2.1
    have hl4 : (encU r).length = 4 := by rw [encU_isV hv.2.2]; unfold enc1; rw [if_neg (by omega), if_neg (by omega), if_neg (by omega)]; rfl
    have p4 := p3 (by omega)
    have x0 : xs[0]? = some p := by rw [hxs, hp]; rfl
    have hn : 4 ≤ n := by rw [← hr.len, hxs, List.length_append, hl4]; omega
    have hx1 : 1 < xs.length := by rw [hr.len]; omega
    have C1 := Hd.mk (isSur g off n c xs w hr p _ (by omega) x0 (List.getElem?_eq_getElem hx1) false (by simp; omega))
    obtain ⟨k, hk⟩ : ∃ k, (encU r).length = k := ⟨_, rfl⟩
    rw [hk] at C2 ⊢
    clear hr hxs hT hby hk hp p1 p2 p3 p4 x0 hn hx1 hl4 hl
    go_enter Tryd.func68, Tryd.ntmps68
    go_wp2_with fail
    with_reducible refine C1.out.mono ?_
    rintro e w1 ⟨rfl, rfl⟩
    go_wp2_with fail
    with_reducible refine C2.out.mono ?_
    rintro e w2 ⟨rfl, hb⟩
    have HB := Hd.mk hb
    clear C1 C2 hb
    go_wp2
    go_ret2
    exact ⟨rfl, HB.out⟩
theorem Rd.dropN {w : World} {S : List Nat} {g off n : Nat} {xs : List Int} (h : Rd w S (some ⟨g, off, none⟩) n xs) (p : Nat) : Rd w S (some ⟨g, off + p, none⟩) (n - p) (xs.drop p) := by
  refine ⟨by simp [h.len], Nat.le_trans (Nat.sub_le _ _) h.small, fun j hj => ?_⟩
  simp at hj
  obtain ⟨ad, h1, h2, h3, h4⟩ := h.at_ (p + j) (by omega)
  cases h1
  refine ⟨_, rfl, ?_, h3, h4⟩
  rw [add_mk] at h2 ⊢
  rw [Nat.add_assoc, h2]
  simp
end Go.Proofs.YtmgckcngedpgoaaDoor.Kb
