/- Versions: scNumbers. -/
import Derived.Test.YtagmjdhjhjlffaaDoorVerG
namespace Go.Proofs.YtagmjdhjhjlffaaDoor.Kb
open Go Go.RowKit
set_option linter.unusedVariables false
set_option linter.unusedSimpArgs false
set_option maxHeartbeats 6400000
/-- The text of the first k parts. -/
def texts (F : Nat → Nat) (k : Nat) : List (List UInt8) := (List.range k).map fun i => d_ F i 1
theorem texts_succ (F : Nat → Nat) (k : Nat) : texts F (k + 1) = texts F k ++ [d_ F k 1] := by simp [texts, List.range_succ]
def only (x : Nat) : Nat → Nat := fun t => if t = 0 then x else 0
theorem five_only (x : Nat) : five (only x) = #[.int .u64 x, .int .u64 0, .int .u64 0, .int .u64 0, .int .u64 0] := rfl
theorem fits_only (x : Nat) (h : x < 10000000000) : Fits (only x) := ⟨h, by simp [only], by simp [only], by simp [only], by simp [only]⟩
theorem vtext_only (x : Nat) : vtext (only x) = lowD x (wide x 1) ++ [46, 48, 48, 46, 48, 48, 48, 46, 48, 48] := by
  have e : ∀ k, 1 ≤ k → lowD 0 (wide 0 k) = List.replicate k 48 := fun k hk => by
    rw [wide_fix hk (Nat.pow_pos (by omega))]
    have := lowD_pad k 0 0 (by decide)
    simpa [lowD] using this
  have h : vtext (only x) = ((((((lowD x (wide x 1) ++ [46]) ++ lowD 0 (wide 0 2)) ++ [46]) ++ lowD 0 (wide 0 3)) ++ [46]) ++ lowD 0 (wide 0 2)) ++ [] := rfl
  rw [h, e 2 (by omega), e 3 (by omega)]
  simp [List.replicate]
/-- What scNumbers gives: the numbers F, and the text of the first 'most' of them. -/
def Numbered (F : Nat → Nat) (T : List UInt8) (w : World) (e : Ending) (w' : World) : Prop := ∃ g, e = .returned (.tuple #[.slice (some ⟨g, 0, none⟩) 5 5, .string (S T)]) ∧ w.heap.size ≤ g ∧ Blk w' g (five F) 22 ∧ Below w.heap.size w w'
theorem five_at (F : Nat → Nat) (k : Nat) (hk : k < 5) : (five F)[k]? = some (.int .u64 (F k)) := by
  rcases (by omega : k = 0 ∨ k = 1 ∨ k = 2 ∨ k = 3 ∨ k = 4) with rfl | rfl | rfl | rfl | rfl <;> rfl
theorem five_congr {F G : Nat → Nat} (h : ∀ t, t < 5 → F t = G t) : five F = five G := by simp [five, h]
theorem five_set (F G : Nat → Nat) (k : Nat) (hk : k < 5) (h : ∀ t, t < 5 → t ≠ k → F t = G t) : (five F).setIfInBounds k (.int .u64 (G k)) = five G := by
  have h0 := h 0 (by omega); have h1 := h 1 (by omega); have h2 := h 2 (by omega); have h3 := h 3 (by omega); have h4 := h 4 (by omega)
  rcases (by omega : k = 0 ∨ k = 1 ∨ k = 2 ∨ k = 3 ∨ k = 4) with rfl | rfl | rfl | rfl | rfl
  · simp at h1 h2 h3 h4; simp [five, h1, h2, h3, h4]
  · simp at h0 h2 h3 h4; simp [five, h0, h2, h3, h4]
  · simp at h0 h1 h3 h4; simp [five, h0, h1, h3, h4]
  · simp at h0 h1 h2 h4; simp [five, h0, h1, h2, h4]
  · simp at h0 h1 h2 h3; simp [five, h0, h1, h2, h3]
/-- The numbers behind k rounds. -/
def mid (F0 F : Nat → Nat) (k : Nat) : Nat → Nat := fun t => if t < k then F t else F0 t
/-- The row l, and what the rounds leave. -/
def Row (g k : Nat) (F0 F : Nat → Nat) (w W : World) : Prop := Blk W g (five (mid F0 F k)) 22 ∧ Below w.heap.size w W ∧ Pow W
theorem Row.on {g k : Nat} {F0 F : Nat → Nat} {w W W' : World} (h : Row g k F0 F w W) (hb : Below W.heap.size W W') : Row g k F0 F w W' := ⟨h.1.below hb h.1.lt, h.2.1.trans (hb.mono h.2.1.size), pow_below h.2.2 hb⟩
theorem Row.cell {g k : Nat} {F0 F : Nat → Nat} {w W : World} (h : Row g k F0 F w W) (hk : k < 5) : W.cell? ⟨g, k, none⟩ = some (.int .u64 (F0 k)) := by
  have := h.1.cell k (five_at _ k hk)
  simpa [mid] using this
theorem row_keep {g k : Nat} {F0 F : Nat → Nat} {w W W' : World} (h : W.cell? ⟨g, k, none⟩ = some (.int .u64 (F0 k)) ∧ k < 5 ∧ Row g k F0 F w W) (hb : Below W.heap.size W W') : W'.cell? ⟨g, k, none⟩ = some (.int .u64 (F0 k)) ∧ k < 5 ∧ Row g k F0 F w W' :=
  ⟨(h.2.2.on hb).cell h.2.1, h.2.1, h.2.2.on hb⟩
theorem row_pow {g k : Nat} {F0 F : Nat → Nat} {w W : World} (h : W.cell? ⟨g, k, none⟩ = some (.int .u64 (F0 k)) ∧ k < 5 ∧ Row g k F0 F w W) : Pow W := h.2.2.2.2
theorem row_alloc {g k : Nat} {F0 F : Nat → Nat} {w W : World} (h : W.cell? ⟨g, k, none⟩ = some (.int .u64 (F0 k)) ∧ k < 5 ∧ Row g k F0 F w W) (o : Obj) : (W.alloc o).cell? ⟨g, k, none⟩ = some (.int .u64 (F0 k)) ∧ k < 5 ∧ Row g k F0 F w (W.alloc o) :=
  row_keep h ((Below.refl _ _).alloc (Nat.le_refl _) o)
theorem vsize (x : Nat) : (S (vtext (only x))).size = wide x 1 + 10 := by rw [S_size, vtext_only]; simp [lowD_len]
theorem vcut (x : Nat) : (S (vtext (only x))).extract 0 (wide x 1) = S (lowD x (wide x 1)) := by
  rw [S_extract, vtext_only, List.take_append_of_le_length (by simp [lowD_len])]
  simp [List.take_of_length_le (Nat.le_of_eq (lowD_len (wide x 1) x))]
theorem join_texts (F : Nat → Nat) (k : Nat) (hk : 0 < k) : join (texts F (k + 1)) = join (texts F k) ++ [46] ++ d_ F k 1 := by
  rw [texts_succ, join_snoc _ _ (by intro h; have := congrArg List.length h; simp [texts] at this; omega)]
  simp
theorem join_one (F : Nat → Nat) : join (texts F 1) = d_ F 0 1 := by simp [texts, join]
theorem blk_new' {W : World} {cs : Array Value} {t : TypeId} {G : Nat} (h : G = W.heap.size) : Blk (W.alloc (.cells cs t)) G cs t := by rw [h]; exact Blk.new W cs t
theorem row_next {g k : Nat} {F0 F : Nat → Nat} {w W : World} (h : Row g k F0 F w W) (hk : F k = F0 k) : Row g (k + 1) F0 F w W :=
  ⟨h.1.cast (five_congr fun t _ => by
    simp only [mid]
    by_cases h1 : t < k
    · rw [if_pos h1, if_pos (by omega)]
    · rw [if_neg h1]
      by_cases h2 : t < k + 1
      · obtain rfl : t = k := by omega
        rw [if_pos h2, hk]
      · rw [if_neg h2]), h.2⟩
theorem texts_len (F : Nat → Nat) (h : ∀ i, i < 5 → F i < 10000000000) : ∀ k, k ≤ 5 → (join (texts F k)).length ≤ 11 * k
  | 0, _ => by simp [texts, join]
  | k + 1, hk => by
    have h1 := d_size F k 1 (h k (by omega)) (by omega)
    rw [S_size] at h1
    rcases Nat.eq_zero_or_pos k with rfl | hp
    · rw [join_one]; omega
    · rw [join_texts F k hp]
      have := texts_len F h k (by omega)
      simp only [List.length_append, List.length_cons, List.length_nil]
      omega
set_option maxRecDepth 100000 in
theorem scNumbers (n0 n1 n2 n3 n4 : Nat) (F0 F : Nat → Nat) (most : Nat) (hm1 : 1 ≤ most) (hm5 : most ≤ 5) (e0 : n0 % 1000000 = F0 0) (e1 : n1 % 100 = F0 1) (e2 : n2 % 1000 = F0 2) (e3 : n3 % 100 = F0 3) (e4 : n4 % 10000000000 = F0 4)
    (b0 : n0 < 18446744073709551616) (b1 : n1 < 18446744073709551616) (b2 : n2 < 18446744073709551616) (b3 : n3 < 18446744073709551616) (b4 : n4 < 18446744073709551616) (hF : ∀ t, t < 5 → F t = if t < most then F0 t else 0) (w : World) (hP : Pow w) :
    Calls Tryd.prog 6 #[.agg #[.int .u64 n0, .int .u64 n1, .int .u64 n2, .int .u64 n3, .int .u64 n4], .int .i64 most] w fun e w' => Numbered F (join (texts F most)) w e w' := by
  have hbig : Hd (∀ k, k < 5 → F0 k < 10000000000) := ⟨fun k hk => by
    rcases (by omega : k = 0 ∨ k = 1 ∨ k = 2 ∨ k = 3 ∨ k = 4) with rfl | rfl | rfl | rfl | rfl <;> omega⟩
  have HFF : Hd (five (mid F0 F 0) = #[.int .u64 (F0 0), .int .u64 (F0 1), .int .u64 (F0 2), .int .u64 (F0 3), .int .u64 (F0 4)]) := ⟨by simp [five, mid]⟩
  obtain ⟨f0, h0⟩ : ∃ n, F0 0 = n := ⟨_, rfl⟩
  obtain ⟨f1, h1⟩ : ∃ n, F0 1 = n := ⟨_, rfl⟩
  obtain ⟨f2, h2⟩ : ∃ n, F0 2 = n := ⟨_, rfl⟩
  obtain ⟨f3, h3⟩ : ∃ n, F0 3 = n := ⟨_, rfl⟩
  obtain ⟨f4, h4⟩ : ∃ n, F0 4 = n := ⟨_, rfl⟩
  rw [h0, h1, h2, h3, h4] at HFF
  rw [h0] at e0; rw [h1] at e1; rw [h2] at e2; rw [h3] at e3; rw [h4] at e4
  have q0 : (n0 : Int) % 1000000 = (f0 : Int) := by omega
  have q1 : (n1 : Int) % 100 = (f1 : Int) := by omega
  have q2 : (n2 : Int) % 1000 = (f2 : Int) := by omega
  have q3 : (n3 : Int) % 100 = (f3 : Int) := by omega
  have q4 : (n4 : Int) % 10000000000 = (f4 : Int) := by omega
  have HF := Hd.mk hF; have HP := Hd.mk hP
  clear hF hP e0 e1 e2 e3 e4 h0 h1 h2 h3 h4
  have hA := Blk.new w #[.int .u64 n0, .int .u64 n1, .int .u64 n2, .int .u64 n3, .int .u64 n4] 23
  have V : Hd (∀ (x : Nat) (_ : x < 10000000000) (G : Nat) (W : World) (_ : Blk W G #[.int .u64 x, .int .u64 0, .int .u64 0, .int .u64 0, .int .u64 0] 22) (_ : Pow W), Calls Tryd.prog 8 #[.slice (some ⟨G, 0, none⟩) 5 5] W fun e w' => Says (vtext (only x)) W e w') :=
    ⟨fun x hx G W hB hp => scVersion G 5 (only x) (fits_only x hx) W hB hp (by omega) (by decide)⟩
  go_enter Tryd.func6, Tryd.ntmps6
  go_wp2
  obtain ⟨g, hg⟩ : ∃ g, w.heap.size + 1 = g := ⟨_, rfl⟩
  have HG : Hd (w.heap.size ≤ g) := ⟨by omega⟩
  have hb0 : Below w.heap.size w ((w.alloc (.cells #[.int .u64 n0, .int .u64 n1, .int .u64 n2, .int .u64 n3, .int .u64 n4] 23)).alloc (.cells #[.int .u64 f0, .int .u64 f1, .int .u64 f2, .int .u64 f3, .int .u64 f4] 22)) := ((Below.refl _ _).alloc (Nat.le_refl _) _).alloc (by simp) _
  have hR : Hd (Row g 0 F0 F w ((w.alloc (.cells #[.int .u64 n0, .int .u64 n1, .int .u64 n2, .int .u64 n3, .int .u64 n4] 23)).alloc (.cells #[.int .u64 f0, .int .u64 f1, .int .u64 f2, .int .u64 f3, .int .u64 f4] 22))) := ⟨by
    refine ⟨?_, hb0, pow_below HP.out hb0⟩
    rw [HFF.out, ← hg]
    have := Blk.new (w.alloc (.cells #[.int .u64 n0, .int .u64 n1, .int .u64 n2, .int .u64 n3, .int .u64 n4] 23)) #[.int .u64 f0, .int .u64 f1, .int .u64 f2, .int .u64 f3, .int .u64 f4] 22
    simpa using this⟩
  rw [hg]
  obtain ⟨W0, hW0⟩ : ∃ W0, W0 = ((w.alloc (.cells #[.int .u64 n0, .int .u64 n1, .int .u64 n2, .int .u64 n3, .int .u64 n4] 23)).alloc (.cells #[.int .u64 f0, .int .u64 f1, .int .u64 f2, .int .u64 f3, .int .u64 f4] 22)) := ⟨_, rfl⟩
  rw [← hW0] at hR ⊢
  clear hb0 hW0 hA hg q0 q1 q2 q3 q4
  go_loopw [27, 7] (fun i x W => ∃ k : Nat, k ≤ 5 ∧ i = .int .i64 k ∧ x = .string (S (join (texts F (min k most)))) ∧ Row g k F0 F w W) (fun i _ _ => 5 - (intOf i).toNat)
  case atStart => exact ⟨0, by omega, rfl, by simp [texts, join, S], hR.out⟩
  case round =>
    obtain ⟨k, hk, rfl, rfl, hr⟩ := hrel
    have HR := Hd.mk hr
    clear hr hR
    by_cases hlt : k < 5
    · by_cases hm : k < most
      · have HFk : Hd (F k = F0 k) := ⟨by rw [HF.out k hlt, if_pos hm]⟩
        have hx := hbig.out k hlt
        have hw := nDigits_le (n := F0 k) (k := 10) (by omega) (by omega)
        rw [← wide_one] at hw
        have c0 := HR.out.cell hlt
        obtain ⟨T, hT⟩ : ∃ T, S (vtext (only (F0 k))) = T := ⟨_, rfl⟩
        obtain ⟨dk, hdk⟩ : ∃ dk, S (lowD (F0 k) (wide (F0 k) 1)) = dk := ⟨_, rfl⟩
        have sT := vsize (F0 k)
        have cT := vcut (F0 k)
        have sdk : dk.size = wide (F0 k) 1 := by rw [← hdk, S_size, lowD_len]
        have hFb : ∀ i, i < 5 → F i < 10000000000 := fun i hi => by
          rw [HF.out i hi]; split
          · exact hbig.out i hi
          · omega
        have stx := texts_len F hFb (min k most) (by omega)
        obtain ⟨n, hn⟩ : ∃ n, wide (F0 k) 1 = n := ⟨_, rfl⟩
        rw [hT, hn] at sT
        rw [hT, hn, ← hn, hdk, hn] at cT
        rw [hn] at sdk hw
        have VT : Hd (∀ (G : Nat) (W : World) (_ : Blk W G #[.int .u64 (F0 k), .int .u64 0, .int .u64 0, .int .u64 0, .int .u64 0] 22) (_ : Pow W), Calls Tryd.prog 8 #[.slice (some ⟨G, 0, none⟩) 5 5] W fun e w' => e = .returned (.string T) ∧ Below W.heap.size W w') := ⟨fun G W h1 h2 => by rw [← hT]; exact V.out (F0 k) hx G W h1 h2⟩
        obtain ⟨m, hm2⟩ : ∃ m, T.size = m := ⟨_, rfl⟩
        have hmn : m = n + 10 := by omega
        have hwm : IntKind.i64.wrap ((m : Int) - 10) = (n : Int) := by rw [IntWalk.i64_in _ (by omega)]; omega
        have hmi : ¬ (most : Int) ≤ k := by omega
        have hki : (k : Int) < 5 := by omega
        have hnm : (n : Int) ≤ m := by omega
        have stx2 : (S (join (texts F (min k most)))).size ≤ 55 := by rw [S_size]; omega
        obtain ⟨tx, htx⟩ : ∃ tx, S (join (texts F (min k most))) = tx := ⟨_, rfl⟩
        rw [htx] at stx2 ⊢
        have hdF : d_ F k 1 = lowD (F0 k) (wide (F0 k) 1) := by rw [d_, HFk.out]
        have S0 : wr.cell? ⟨g, k, none⟩ = some (.int .u64 (F0 k)) ∧ k < 5 ∧ Row g k F0 F w wr := ⟨c0, hlt, HR.out⟩
        have S1 := row_keep S0 (Below.refl _ _).drew
        clear S0
        have Hmn := Hd.mk hmn
        clear sT stx hFb V hmn
        by_cases hk0 : k = 0
        · have hk0' : ¬ (0 : Int) < k := by omega
          obtain ⟨r, hr⟩ : ∃ r, tx ++ dk = r := ⟨_, rfl⟩
          have hnl : ¬ 9223372036854775807 < tx.size + dk.size := by omega
          clear sdk
          have HT : Hd (r = S (join (texts F (min (k + 1) most)))) := ⟨by
            rw [← hr, ← htx, ← hdk, S_append, ← hdF, show min (k + 1) most = k + 1 by omega, show min k most = k by omega, hk0, join_one]
            simp [texts, join]⟩
          have HH := Hd.mk (And.intro hT (And.intro hdk (And.intro htx (And.intro hdF hn))))
          clear hT hdk htx hdF hn hk0
          go_wp2_with fail
          go_region_held3 (fun W => W.cell? ⟨g, k, none⟩ = some (.int .u64 (F0 k)) ∧ k < 5 ∧ Row g k F0 F w W)
            (first | assumption | exact row_alloc (by assumption) _ | exact row_keep (by assumption) (by assumption))
            (first
              | (go_at_call 8; (with_reducible refine Calls.mono (VT.out _ _ ?_ ?_) ?_); (first | ((with_reducible refine blk_new' ?_); (focus (simp; done))) | ((with_reducible refine Blk.drew (blk_new' ?_)); (focus (simp; done))) | ((with_reducible refine Blk.alloc (blk_new' ?_) _); (focus (simp; done))) | ((with_reducible refine Blk.drew (Blk.alloc (blk_new' ?_) _)); (focus (simp; done))) | ((with_reducible refine Blk.below (blk_new' ?_) hb ?_) <;> (first | (simp; done) | (simp; omega))) | ((with_reducible refine Blk.below (Blk.drew (blk_new' ?_)) hb ?_) <;> (first | (simp; done) | (simp; omega))) | ((with_reducible refine Blk.below (Blk.alloc (blk_new' ?_) _) hb ?_) <;> (first | (simp; done) | (simp; omega))) | ((with_reducible refine Blk.below (Blk.drew (Blk.alloc (blk_new' ?_) _)) hb ?_) <;> (first | (simp; done) | (simp; omega)))); exact row_pow (g := g) (k := k) (F0 := F0) (F := F) (w := w) (by assumption); rintro e w2 ⟨rfl, hb⟩))
          all_goals
            rename_i hh
            have HN := Hd.mk (row_next hh.2.2 HFk.out)
            clear hh hb
            go_wp2
            go_roundw
            case rel => exact ⟨k + 1, by omega, by go_num, by rw [HT.out], HN.out⟩
            case measure => simp [intOf]; omega
        · have hk0' : (0 : Int) < k := by omega
          obtain ⟨ux, hux⟩ : ∃ ux, tx ++ (⟨#[46]⟩ : ByteArray) = ux := ⟨_, rfl⟩
          have sux : ux.size ≤ 56 := by rw [← hux, ByteArray.size_append]; have : (⟨#[46]⟩ : ByteArray).size = 1 := rfl; omega
          have hnd : ¬ 9223372036854775807 < tx.size + 1 := by omega
          obtain ⟨r, hr⟩ : ∃ r, ux ++ dk = r := ⟨_, rfl⟩
          have hnl : ¬ 9223372036854775807 < ux.size + dk.size := by omega
          clear sdk
          have HT : Hd (r = S (join (texts F (min (k + 1) most)))) := ⟨by
            rw [← hr, ← hux, ← htx, ← hdk, show (⟨#[46]⟩ : ByteArray) = S [46] from rfl, S_append, S_append, ← hdF, show min (k + 1) most = k + 1 by omega, show min k most = k by omega, join_texts F k (by omega)]⟩
          have HH := Hd.mk (And.intro hT (And.intro hdk (And.intro htx (And.intro hdF hn))))
          clear hT hdk htx hdF hn hk0
          go_wp2_with fail
          go_region_held3 (fun W => W.cell? ⟨g, k, none⟩ = some (.int .u64 (F0 k)) ∧ k < 5 ∧ Row g k F0 F w W)
            (first | assumption | exact row_alloc (by assumption) _ | exact row_keep (by assumption) (by assumption))
            (first
              | (go_at_call 8; (with_reducible refine Calls.mono (VT.out _ _ ?_ ?_) ?_); (first | ((with_reducible refine blk_new' ?_); (focus (simp; done))) | ((with_reducible refine Blk.drew (blk_new' ?_)); (focus (simp; done))) | ((with_reducible refine Blk.alloc (blk_new' ?_) _); (focus (simp; done))) | ((with_reducible refine Blk.drew (Blk.alloc (blk_new' ?_) _)); (focus (simp; done))) | ((with_reducible refine Blk.below (blk_new' ?_) hb ?_) <;> (first | (simp; done) | (simp; omega))) | ((with_reducible refine Blk.below (Blk.drew (blk_new' ?_)) hb ?_) <;> (first | (simp; done) | (simp; omega))) | ((with_reducible refine Blk.below (Blk.alloc (blk_new' ?_) _) hb ?_) <;> (first | (simp; done) | (simp; omega))) | ((with_reducible refine Blk.below (Blk.drew (Blk.alloc (blk_new' ?_) _)) hb ?_) <;> (first | (simp; done) | (simp; omega)))); exact row_pow (g := g) (k := k) (F0 := F0) (F := F) (w := w) (by assumption); rintro e w2 ⟨rfl, hb⟩))
          all_goals
            rename_i hh
            have HN := Hd.mk (row_next hh.2.2 HFk.out)
            clear hh hb
            go_wp2
            go_roundw
            case rel => exact ⟨k + 1, by omega, by go_num, by rw [HT.out], HN.out⟩
            case measure => simp [intOf]; omega
      · have hmi : (most : Int) ≤ k := by omega
        have c0 := HR.out.cell hlt
        have f0' := HR.out.1.free k
        have HN : Hd (Row g (k + 1) F0 F w (wr.setCell ⟨g, k, none⟩ (.int .u64 0))) := ⟨by
          have hFk : F k = 0 := by rw [HF.out k hlt, if_neg hm]
          have hb : Below w.heap.size w (wr.setCell ⟨g, k, none⟩ (.int .u64 0)) := HR.out.2.1.setCell (p := ⟨g, k, none⟩) HG.out _
          refine ⟨?_, hb, pow_below HP.out hb⟩
          have h2 := HR.out.1.set k (.int .u64 0)
          refine h2.cast ?_
          have h3 := five_set (mid F0 F k) (mid F0 F (k + 1)) k hlt (fun t _ ht => by simp only [mid]; by_cases h : t < k; rw [if_pos h, if_pos (by omega)]; rw [if_neg h, if_neg (by omega)])
          rw [show (mid F0 F (k + 1)) k = 0 by simp [mid, hFk]] at h3
          exact h3⟩
        go_wp2
        go_roundw
        case rel => exact ⟨k + 1, by omega, by go_num, by rw [show min (k + 1) most = min k most by omega], HN.out⟩
        case measure => simp [intOf]; omega
    · obtain rfl : k = 5 := by omega
      go_wp2
      refine bodyPost_ret (v := .tuple #[.slice (some ⟨g, 0, none⟩) 5 5, .string (S (join (texts F (min 5 most))))]) (by simp [results, Tryd.results6, go_sem]) rfl ⟨g, by rw [show min 5 most = most by omega], HG.out, ?_, HR.out.2.1⟩
      have := HR.out.1
      rwa [five_congr (G := F) (fun t ht => by simp [mid, ht])] at this
end Go.Proofs.YtagmjdhjhjlffaaDoor.Kb
