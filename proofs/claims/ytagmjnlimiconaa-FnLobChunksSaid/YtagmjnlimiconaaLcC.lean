/- FnLobChunks: impl.LobChunks. -/
import Derived.Test.YtagmjnlimiconaaLcB
import Derived.Deep.RegionHeld3
import Derived.Deep.DeepCutAuto
namespace Go.Proofs.Ytagmjnlimiconaa.Kb
open Go Go.RowKit
set_option linter.unusedVariables false
set_option linter.unusedSimpArgs false
set_option maxHeartbeats 2000000
theorem rd_rest {w : World} {A : Option Addr} {l c m : Nat} {ys : List Int} (h : Rd w [] A l ys) (hm : m ≤ l) (hc : l ≤ c) : Rd w [] (rest A m c) (l - m) (ys.drop m) := by
  have hl := h.len; have hs := h.small
  refine ⟨by simp; omega, by omega, fun j hj => ?_⟩
  simp at hj
  obtain ⟨ad, rfl, h2, h3, h4⟩ := h.at_ (m + j) (by omega)
  refine ⟨ad.add m, by unfold rest; rw [if_neg (by omega)]; rfl, ?_, by rw [add_block]; exact h3, by simp⟩
  have e : (ad.add m).add j = ad.add (m + j) := by
    unfold Addr.add
    by_cases h0 : m = 0 <;> by_cases h1 : j = 0 <;> simp [h0, h1] <;> omega
  rw [e, h2]
  simp
theorem rd_first {w : World} {A : Option Addr} {n : Nat} {xs : List Int} (h : Rd w [] A n xs) (k : Nat) (hk : k ≤ n) : Rd w [] A k (xs.take k) := by
  have hl := h.len
  have hs := h.small
  refine ⟨by simp; omega, by omega, fun j hj => ?_⟩
  simp at hj
  obtain ⟨ad, h1, h2, h3, h4⟩ := h.at_ j (by omega)
  exact ⟨ad, h1, by rw [h2]; simp, h3, h4⟩
theorem own_one {w : World} {b n s : Nat} {e : TypeId} {v : Value} {xs : List Value} (h : w.ownsRow b e s v n xs) : v.oneCell' = true := by
  obtain ⟨A, c, rfl, _⟩ := own_slice h
  rfl
/-- The descriptor at the head of round k. -/
def LobInv (w0 : World) (xs : List Int) (N : Nat) (w : World) : Prop :=
  ∃ (k : Nat) (v4 v5 : Value) (vs : List Value) (A : Option Addr) (l c : Nat) (o : Int) (A' : Option Addr) (l' c' : Nat),
    LobS w0 xs N w.heap.size v4 v5 k ((List.replicate k (2 : Int)).map (.int .i64)) v4 k vs v5 (lobD A l c o 0 A' l' c') w ∧ vs.length = k ∧ k * N ≤ xs.length ∧ l = xs.length - k * N ∧ l ≤ c ∧ c ≤ 9223372036854775807 ∧
    Rd w0 [] A l (xs.drop (k * N))
/-- Behind the two appends of a round. -/
def LobCut (w0 : World) (xs : List Int) (N k : Nat) (o : Int) (vs : List Value) (D : Array Value) (w : World) : Prop :=
  ∃ (v4 v5 u : Value), LobS w0 xs N w.heap.size v4 v5 (k + 1) ((List.replicate k (2 : Int)).map (.int .i64) ++ [.int .i64 o]) v4 (k + 1) (vs ++ [u]) v5 D w
def lobM (g : Nat) (w : World) : Nat := match w.cell? ⟨g, 0, none⟩ with | some (.slice _ l _) => l | _ => 0
theorem lobM_of {w : World} {g : Nat} {A : Option Addr} {l c : Nat} {o p : Int} {A' : Option Addr} {l' c' : Nat} (h : Blk w g (lobD A l c o p A' l' c') 46) : lobM g w = l := by
  unfold lobM
  rw [h.cell 0 (v := .slice A l c) rfl]
theorem lob_next {w0 wx : World} {xs : List Int} {N k l c m' c' : Nat} {A A' : Option Addr} {o : Int} {v4 v5 u : Value} {vs : List Value}
    (S : LobS w0 xs N wx.heap.size v4 v5 (k + 1) ((List.replicate k (2 : Int)).map (.int .i64) ++ [.int .i64 2]) v4 (k + 1) (vs ++ [u]) v5 (lobD (rest A N c) (l - N) (c - N) o 0 A' m' c') wx)
    (hv : vs.length = k) (hk : k * N ≤ xs.length) (hl : l = xs.length - k * N) (h1 : N ≤ l) (hc : l ≤ c) (hm : c ≤ 9223372036854775807) (hr : Rd w0 [] A l (xs.drop (k * N))) : LobInv w0 xs N wx := by
  have e : (k + 1) * N = k * N + N := Nat.succ_mul k N
  have er : ((List.replicate k (2 : Int)).map (.int .i64) ++ [.int .i64 2] : List Value) = (List.replicate (k + 1) (2 : Int)).map (.int .i64) := by simp [List.replicate_succ']
  rw [er] at S
  refine ⟨k + 1, v4, v5, vs ++ [u], rest A N c, l - N, c - N, o, A', m', c', S, by simp [hv], by omega, by omega, by omega, by omega, ?_⟩
  have := rd_rest hr h1 hc
  rwa [List.drop_drop, ← e] at this
theorem lob_less {w0 w wx : World} {xs : List Int} {N l c m' c' : Nat} {A A' : Option Addr} {o : Int} {c4 c5 v4 v5 : Value} {os vs : List Value} {H k4 k5 : Nat}
    (S : LobS w0 xs N H c4 c5 k4 os v4 k5 vs v5 (lobD A (l - N) c o 0 A' m' c') wx) (hM : lobM (w0.heap.size + 1 + 1 + 1) w = l) (h1 : N ≤ l) (hN : 3 ≤ N) : lobM (w0.heap.size + 1 + 1 + 1) wx < lobM (w0.heap.size + 1 + 1 + 1) w := by
  rw [lobM_of S.b3, hM]
  omega
def LobOut (w0 : World) (xs : List Int) (N : Nat) (e : Ending) (w : World) : Prop :=
  ∃ (v4 v5 : Value) (vs : List Value), e = .returned (.tuple #[v4, v5, .int .i64 0]) ∧ w.ownsRow w0.heap.size 3 1 v4 (xs.length / N + 1) ((List.replicate (xs.length / N) (2 : Int) ++ [6]).map (.int .i64)) ∧
    w.ownsRow w0.heap.size 22 1 v5 (xs.length / N + 1) vs ∧ (∀ i (h : i < vs.length), w.ownsRow w0.heap.size 5 1 vs[i] (chunk xs N i).length (bc (chunk xs N i))) ∧ Below w0.heap.size w0 w
theorem own_baseL {w : World} {B B' n : Nat} {e : TypeId} {s : Nat} {v : Value} {xs : List Value} (h : w.ownsRow B e s v n xs) (hB : B' ≤ B) : w.ownsRow B' e s v n xs := by
  refine ⟨h.1, ?_⟩
  rcases h.2 with h | ⟨g, cap, cur, h1, h2, h3⟩
  · exact .inl h
  · exact .inr ⟨g, cap, cur, h1, Nat.le_trans hB h2, h3⟩
theorem lob_end {w0 w V : World} {xs : List Int} {N H k4 k5 : Nat} {c4 c5 v4 v5 : Value} {os vs : List Value} {D : Array Value} (S : LobS w0 xs N H c4 c5 k4 os v4 k5 vs v5 D w)
    (hV : V = (((w.setCell ⟨w0.heap.size, 0, none⟩ v4).setCell ⟨w0.heap.size + 1, 0, none⟩ v5).setCell ⟨w0.heap.size + 1 + 1, 0, none⟩ (.int .i64 0)).drew) :
    V.cell? ⟨w0.heap.size, 0, none⟩ = some v4 ∧ V.cell? ⟨w0.heap.size + 1, 0, none⟩ = some v5 ∧ V.cell? ⟨w0.heap.size + 1 + 1, 0, none⟩ = some (.int .i64 0) ∧ V.ownsRow w0.heap.size 3 1 v4 k4 os ∧ V.ownsRow w0.heap.size 22 1 v5 k5 vs ∧
    (∀ i (h : i < vs.length), V.ownsRow w0.heap.size 5 1 vs[i] (chunk xs N i).length (bc (chunk xs N i))) ∧ Below w0.heap.size w0 V := by
  have T := S.store v4 v5
  have own : ∀ {e n s : Nat} {v : Value} {ys : List Value}, ((w.setCell ⟨w0.heap.size, 0, none⟩ v4).setCell ⟨w0.heap.size + 1, 0, none⟩ v5).ownsRow (w0.heap.size + 1 + 1 + 1 + 1) e s v n ys → V.ownsRow w0.heap.size e s v n ys := fun h => by
    rw [hV]; exact own_baseL (own_set_lt h (p := ⟨w0.heap.size + 1 + 1, 0, none⟩) (by simp <;> omega) _) (by omega)
  refine ⟨?_, ?_, ?_, own T.o4, own T.o5, fun i h => own (T.pc i h).1, ?_⟩
  · rw [hV]; exact (T.b0.set_ne (p := ⟨w0.heap.size + 1 + 1, 0, none⟩) (by simp <;> omega) _).cell 0 rfl
  · rw [hV]; exact (T.b1.set_ne (p := ⟨w0.heap.size + 1 + 1, 0, none⟩) (by simp <;> omega) _).cell 0 rfl
  · rw [hV]; exact (T.b2.set 0 _).cell 0 rfl
  · rw [hV]; exact (T.bel.setCell (p := ⟨w0.heap.size + 1 + 1, 0, none⟩) (by simp <;> omega) _).drew
theorem catch_lob (a0 a1 a2 : Value) (w : World) :
    CallsD Try.prog 7 #[a0, a1, a2] .returning w fun e u' w' => e = .returned (.tuple #[]) ∧ u' = .returning ∧ w' = w := by
  refine callsD_of_wpS Try.func7 rfl fun c₀ cs hu => ?_
  apply wpS_seq
  apply wpS_region
  simp [wpOpsS, go_sem, recoverD, hu, Try.ntmps7, Exit.thenS]
  refine wpS_cond (t := false) (by simp [Act.eval, Array.replicate]) ?_
  simp only [Bool.false_eq_true, if_false]
  refine wpS_of_wp (wp_skip ?_)
  cases c₀
  simp_all [bodyPostS, results, Try.results7]
set_option maxRecDepth 100000 in
theorem lobChunks (A : Option Addr) (n c : Nat) (xs : List Int) (N : Nat) (w : World) (hr : Rd w [] A n xs) (hnc : n ≤ c) (hc : c ≤ 9223372036854775807) (hN : 3 ≤ N) (hN2 : N ≤ 60) (hn : n ≤ 500) :
    Calls Try.prog 5 #[.slice A n c, .int .i64 N] w fun e w' => LobOut w xs N e w' := by
  have hmf : ∀ (fn : Fn) (first cap : Array Value) (w : World), (Instr.makeFunc fn first cap).run Try.prog w = .ok (.func fn first cap) w := fun _ _ _ _ => rfl
  have hB : Below w.heap.size w (((w.alloc (.cells #[.slice none 0 0] 23)).alloc (.cells #[.slice none 0 0] 24)).alloc (.cells #[.int .i64 0] 3)) := (((Below.refl _ _).alloc (by simp <;> omega) _).alloc (by simp <;> omega) _).alloc (by simp <;> omega) _
  have g0 := ((Blk.new w #[.slice none 0 0] 23).alloc (.cells #[.slice none 0 0] 24)).alloc (.cells #[.int .i64 0] 3)
  have g1 := (Blk.new (w.alloc (.cells #[.slice none 0 0] 23)) #[.slice none 0 0] 24).alloc (.cells #[.int .i64 0] 3)
  have g2 := Blk.new ((w.alloc (.cells #[.slice none 0 0] 23)).alloc (.cells #[.slice none 0 0] 24)) #[.int .i64 0] 3
  simp only [World.size_alloc] at g0 g1 g2
  have HB := Hd.mk hB; have G0 := Hd.mk g0; have G1 := Hd.mk g1; have G2 := Hd.mk g2; have HR := Hd.mk hr
  have L0 := Hd.mk hr.len
  have n0 : ¬ (N : Int) < 0 := by omega
  have n1 : ¬ (10000 : Int) < N := by omega
  have n2 : ¬ (10000 : Int) < n := by omega
  clear hr hB g0 g1 g2
  go_enter_defers Try.func5, Try.ntmps5
  go_wp2_with fail
  with_reducible refine (lob_in _ _ _ _).mono ?_
  rintro e w1 ⟨rfl, hw1⟩
  have g3 : Blk w1 (w.heap.size + 1 + 1 + 1) (lobD A n c 0 0 none 0 0) 46 := by
    rw [hw1]; simpa using Blk.new (((w.alloc (.cells #[.slice none 0 0] 23)).alloc (.cells #[.slice none 0 0] 24)).alloc (.cells #[.int .i64 0] 3)) (lobD A n c 0 0 none 0 0) 46
  have S0 : LobS w xs N w1.heap.size (.slice none 0 0) (.slice none 0 0) 0 [] (.slice none 0 0) 0 [] (.slice none 0 0) (lobD A n c 0 0 none 0 0) w1 := by
    rw [hw1]
    exact ⟨G0.out.alloc _, G1.out.alloc _, G2.out.alloc _, hw1 ▸ g3, World.ownsRow_nil _ _ _ _, World.ownsRow_nil _ _ _ _, fun i h => by simp at h, HB.out.alloc HB.out.size _, by simp⟩
  have S1 : LobInv w xs N w1 := ⟨0, _, _, [], A, n, c, 0, none, 0, 0, S0, rfl, by simp, by rw [L0.out]; simp, hnc, hc, by simpa using HR.out⟩
  have S2 := Hd.mk S1
  clear g3 S0 hw1 HB G0 G1 G2 S1
  go_wp2
  go_loopw [8] (fun _ wr => LobInv w xs N wr) (fun _ wr => lobM (w.heap.size + 1 + 1 + 1) wr)
  case atStart => exact S2.out
  case round =>
    obtain ⟨k, v4, v5, vs, A1, l, c1, o, A1', l', c1', S, hvs, hkN, hl, hlc, hcm, hR⟩ := hrel
    have hD := S.b3
    obtain ⟨A5, c5, rfl, h5, _⟩ := own_slice S.o5
    have hk3 : k * 3 ≤ k * N := Nat.mul_le_mul_left k hN
    have hL := L0.out
    have hk200 : (k : Int) < 200 := by omega
    have x1 : wr.cell? ⟨w.heap.size + 1, 0, none⟩ = some (.slice A5 k c5) := S.b1.cell 0 rfl
    have HM := Hd.mk (lobM_of hD)
    obtain ⟨m, o', b, hcase⟩ : ∃ (m : Nat) (o' : Int) (b : Bool), (N ≤ l ∧ m = N ∧ o' = 2 ∧ b = false) ∨ (l < N ∧ m = l ∧ o' = 6 ∧ b = true) := by
      by_cases h : N ≤ l
      · exact ⟨N, 2, false, .inl ⟨h, rfl, rfl, rfl⟩⟩
      · exact ⟨l, 6, true, .inr ⟨by omega, rfl, rfl, rfl⟩⟩
    have C := Hd.mk (fetch_any _ A1 l c1 N m o 0 o' b A1' l' c1' wr hD hcase hlc hcm (by omega))
    have hch : Rd w [] A1 m (chunk xs N k) := by
      unfold chunk
      rcases hcase with ⟨h, rfl, _⟩ | ⟨h, rfl, _⟩
      · exact rd_first hR m h
      · rw [List.take_of_length_le (by rw [hR.len]; omega)]
        exact hR
    have ho : 0 ≤ o' ∧ o' ≤ 100 := by omega
    have hob : o' = 2 ∧ b = false ∨ o' = 6 ∧ b = true := by rcases hcase with ⟨_, _, h1, h2⟩ | ⟨_, _, h1, h2⟩ <;> simp [h1, h2]
    have hml : m ≤ 60 := by omega
    have HS := Hd.mk S; have HV := Hd.mk hvs; have HL := Hd.mk hl; have HRd := Hd.mk hR; have HCh := Hd.mk hch; have HC := Hd.mk hcase; have HOB := Hd.mk hob
    obtain ⟨ji, i1, i2, i3, i4⟩ := info_of infoInt
    obtain ⟨js, s1, s2, s3, s4⟩ := info_of infoSl
    obtain ⟨jb, b1, b2, b3, b4⟩ := info_of infoByte
    have I := Hd.mk (And.intro i1 (And.intro i2 (And.intro i3 i4))); have J := Hd.mk (And.intro s1 (And.intro s2 (And.intro s3 s4))); have Kb := Hd.mk (And.intro b1 (And.intro b2 (And.intro b3 b4)))
    clear S2 S hvs hl hD hR hk3 hL h5 HR hcase hch hob i1 i2 i3 i4 s1 s2 s3 s4 b1 b2 b3 b4
    go_wp2_with fail
    with_reducible refine C.out.mono ?_
    rintro e w2 ⟨rfl, hD2, hb2⟩
    have S3 := Hd.mk (HS.out.set3 hD2 hb2)
    have C2 := Hd.mk (lob_parts _ _ _ _ o' 0 A1 m c1 w2 hD2 ho)
    clear hD2 hb2 C HS x1
    go_wp2_with fail
    with_reducible refine C2.out.mono ?_
    rintro e w3 ⟨rfl, q, rfl⟩
    have S4 := Hd.mk (S3.out.drewN q)
    obtain ⟨W, hW⟩ : ∃ W, w2.drewN q = W := ⟨_, rfl⟩
    rw [hW] at S4 ⊢
    clear hW S3 C2
    have y0 : W.cell? ⟨w.heap.size, 0, none⟩ = some v4 := S4.out.b0.cell 0 rfl
    have y1 : W.cell? ⟨w.heap.size + 1, 0, none⟩ = some (.slice A5 k c5) := S4.out.b1.cell 0 rfl
    have f0 := S4.out.b0.free 0; have f1 := S4.out.b1.free 0
    have z0 : w.heap.size < W.heap.size := S4.out.b0.lt
    have z1 : w.heap.size + 1 < W.heap.size := S4.out.b1.lt
    go_upto_region 9 with fail
    go_cut [8] from 25 to 49 (fun s8 wx => LobCut w xs N k o' vs (lobD (rest A1 m c1) (l - m) (c1 - m) o' 0 A1 m c1) wx)
    case first =>
      refine wp_region_noPanic ?_
      go_region_law (first | (refine step_append_one (base := (w.heap.size + 1 + 1 + 1 + 1)) (n := k) (b := W.heap.size + 1) (v := v4) (u := .int .i64 o') (xs := (List.replicate k (2 : Int)).map (.int .i64)) (by_ := 8) rfl (.tmp 38) (.tmp 40) 23 rfl Try.underlying23 I.out.1 I.out.2.1 I.out.2.2.1 I.out.2.2.2 rfl rfl ((S4.out.here.alloc (.cells #[] 5)).alloc (.cells #[.int .i64 o'] 3)).drew.o4 (by simp [Act.eval, Act.put]) (show Blk ((W.alloc (.cells #[] 5)).alloc (.cells #[.int .i64 o'] 3)) (W.heap.size + 1) #[.int .i64 o'] 3 by simpa using Blk.new (W.alloc (.cells #[] 5)) #[.int .i64 o'] 3) rfl (by unfold maxLen; omega) (by omega) ((S4.out.here.alloc (.cells #[] 5)).alloc (.cells #[.int .i64 o'] 3)).drew.big ?_; intro v4' w3 own3 G3; obtain ⟨A4', c4', rfl, _, _⟩ := own_slice own3; have S5 := Hd.mk (((S4.out.here.alloc (.cells #[] 5)).alloc (.cells #[.int .i64 o'] 3)).drew.growA G3 own3); have E43 := Hd.mk (own_grown ((World.ownsRow_lit (base := (w.heap.size + 1 + 1 + 1 + 1)) (size := 1) (e := 5) W #[] 0 S4.out.big (by decide) rfl).alloc (.cells #[.int .i64 o'] 3) |>.drew) ((S4.out.here.alloc (.cells #[] 5)).alloc (.cells #[.int .i64 o'] 3)).drew.o4 (by decide) G3); have y3 : w3.cell? ⟨w.heap.size + 1, 0, none⟩ = some (.slice A5 k c5) := S5.out.b1.cell 0 rfl; have z3 : w.heap.size + 1 < w3.heap.size := S5.out.b1.lt; have l3 : W.heap.size ≤ w3.heap.size := (by have := G3.size; simp at this; omega); clear own3 G3) | (refine step_append_one (base := (w.heap.size + 1 + 1 + 1 + 1)) (n := k) (b := W.heap.size) (v := v4) (u := .int .i64 o') (xs := (List.replicate k (2 : Int)).map (.int .i64)) (by_ := 8) rfl (.tmp 38) (.tmp 40) 23 rfl Try.underlying23 I.out.1 I.out.2.1 I.out.2.2.1 I.out.2.2.2 rfl rfl ((S4.out.here.alloc (.cells #[.int .i64 o'] 3)).alloc (.cells #[] 5)).drew.o4 (by simp [Act.eval, Act.put]) ((Blk.new W #[.int .i64 o'] 3).alloc (.cells #[] 5)) rfl (by unfold maxLen; omega) (by omega) ((S4.out.here.alloc (.cells #[.int .i64 o'] 3)).alloc (.cells #[] 5)).drew.big ?_; intro v4' w3 own3 G3; obtain ⟨A4', c4', rfl, _, _⟩ := own_slice own3; have S5 := Hd.mk (((S4.out.here.alloc (.cells #[.int .i64 o'] 3)).alloc (.cells #[] 5)).drew.growA G3 own3); have E43 := Hd.mk (own_grown ((show ((W.alloc (.cells #[.int .i64 o'] 3)).alloc (.cells #[] 5)).ownsRow (w.heap.size + 1 + 1 + 1 + 1) 5 1 (.slice (some ⟨W.heap.size + 1, 0, none⟩) 0 0) 0 [] by simpa using World.ownsRow_lit (base := (w.heap.size + 1 + 1 + 1 + 1)) (size := 1) (e := 5) (W.alloc (.cells #[.int .i64 o'] 3)) #[] 0 (S4.out.alloc _).big (by decide) rfl).drew) ((S4.out.here.alloc (.cells #[.int .i64 o'] 3)).alloc (.cells #[] 5)).drew.o4 (by decide) G3); have y3 : w3.cell? ⟨w.heap.size + 1, 0, none⟩ = some (.slice A5 k c5) := S5.out.b1.cell 0 rfl; have z3 : w.heap.size + 1 < w3.heap.size := S5.out.b1.lt; have l3 : W.heap.size ≤ w3.heap.size := (by have := G3.size; simp at this; omega); clear own3 G3) | (refine step_append_one (base := (w.heap.size + 1 + 1 + 1 + 1)) (n := k) (b := W.heap.size) (v := v4) (u := .int .i64 o') (xs := (List.replicate k (2 : Int)).map (.int .i64)) (by_ := 8) rfl (.tmp 38) (.tmp 40) 23 rfl Try.underlying23 I.out.1 I.out.2.1 I.out.2.2.1 I.out.2.2.2 rfl rfl (S4.out.here.alloc (.cells #[.int .i64 o'] 3)).drew.o4 (by simp [Act.eval, Act.put]) (Blk.new W #[.int .i64 o'] 3) rfl (by unfold maxLen; omega) (by omega) (S4.out.here.alloc (.cells #[.int .i64 o'] 3)).drew.big ?_; intro v4' w3 own3 G3; obtain ⟨A4', c4', rfl, _, _⟩ := own_slice own3; have S5 := Hd.mk ((S4.out.here.alloc (.cells #[.int .i64 o'] 3)).drew.growA G3 own3); have y3 : w3.cell? ⟨w.heap.size + 1, 0, none⟩ = some (.slice A5 k c5) := S5.out.b1.cell 0 rfl; have z3 : w.heap.size + 1 < w3.heap.size := S5.out.b1.lt; have l3 : W.heap.size ≤ w3.heap.size := (by have := G3.size; simp at this; omega); clear own3 G3) | (refine step_append_rd rfl (.tmp 43) (.tmp 44) 22 rfl (w.heap.size + 1 + 1 + 1 + 1) 5 jb (.int .u8 0) Try.underlying22 Kb.out.1 Kb.out.2.1 Kb.out.2.2.1 Kb.out.2.2.2 rfl (.slice (some ⟨W.heap.size, 0, none⟩) 0 0) 0 [] (by simp [Act.eval, Act.put]) E43.out A1 m c1 (chunk xs N k) (by simp [Act.eval, Act.put]) (HCh.out.below S5.out.bel) (by omega) S5.out.big ?_; intro v45 w5 own5 G5; have S6 := Hd.mk (S5.out.growE E43.out (fun j hj => by simp [Value.ownBlock] at hj; omega) G5); have O45 := Hd.mk (show w5.ownsRow (w.heap.size + 1 + 1 + 1 + 1) 5 1 v45 m (bc (chunk xs N k)) by simpa using own5); obtain ⟨A45, c45, rfl, _, _⟩ := own_slice O45.out; have y5 : w5.cell? ⟨w.heap.size + 1, 0, none⟩ = some (.slice A5 k c5) := S6.out.b1.cell 0 rfl; have z5 : w.heap.size + 1 < w5.heap.size := S6.out.b1.lt; clear own5 G5) | (refine step_append_rd rfl (.tmp 43) (.tmp 44) 22 rfl (w.heap.size + 1 + 1 + 1 + 1) 5 jb (.int .u8 0) Try.underlying22 Kb.out.1 Kb.out.2.1 Kb.out.2.2.1 Kb.out.2.2.2 rfl (.slice (some ⟨W.heap.size + 1, 0, none⟩) 0 0) 0 [] (by simp [Act.eval, Act.put]) E43.out A1 m c1 (chunk xs N k) (by simp [Act.eval, Act.put]) (HCh.out.below S5.out.bel) (by omega) S5.out.big ?_; intro v45 w5 own5 G5; have S6 := Hd.mk (S5.out.growE E43.out (fun j hj => by simp [Value.ownBlock] at hj; omega) G5); have O45 := Hd.mk (show w5.ownsRow (w.heap.size + 1 + 1 + 1 + 1) 5 1 v45 m (bc (chunk xs N k)) by simpa using own5); obtain ⟨A45, c45, rfl, _, _⟩ := own_slice O45.out; have y5 : w5.cell? ⟨w.heap.size + 1, 0, none⟩ = some (.slice A5 k c5) := S6.out.b1.cell 0 rfl; have z5 : w.heap.size + 1 < w5.heap.size := S6.out.b1.lt; clear own5 G5) | (refine step_append_rd rfl (.tmp 43) (.tmp 44) 22 rfl (w.heap.size + 1 + 1 + 1 + 1) 5 jb (.int .u8 0) Try.underlying22 Kb.out.1 Kb.out.2.1 Kb.out.2.2.1 Kb.out.2.2.2 rfl (.slice (some ⟨w3.heap.size, 0, none⟩) 0 0) 0 [] (by simp [Act.eval, Act.put]) (World.ownsRow_lit (base := (w.heap.size + 1 + 1 + 1 + 1)) (size := 1) (e := 5) w3 #[] 0 S5.out.big (by decide) rfl) A1 m c1 (chunk xs N k) (by simp [Act.eval, Act.put]) (HCh.out.below (S5.out.alloc (.cells #[] 5)).bel) (by omega) (S5.out.alloc (.cells #[] 5)).big ?_; intro v45 w5 own5 G5; have S6 := Hd.mk ((S5.out.alloc (.cells #[] 5)).growE (World.ownsRow_lit (base := (w.heap.size + 1 + 1 + 1 + 1)) (size := 1) (e := 5) w3 #[] 0 S5.out.big (by decide) rfl) (fun j hj => by simp [Value.ownBlock] at hj; omega) G5); have O45 := Hd.mk (show w5.ownsRow (w.heap.size + 1 + 1 + 1 + 1) 5 1 v45 m (bc (chunk xs N k)) by simpa using own5); obtain ⟨A45, c45, rfl, _, _⟩ := own_slice O45.out; have y5 : w5.cell? ⟨w.heap.size + 1, 0, none⟩ = some (.slice A5 k c5) := S6.out.b1.cell 0 rfl; have z5 : w.heap.size + 1 < w5.heap.size := S6.out.b1.lt; clear own5 G5) | (refine step_append_one (base := (w.heap.size + 1 + 1 + 1 + 1)) (n := k) (b := w5.heap.size) (v := .slice A5 k c5) (u := .slice A45 m c45) (xs := vs) (by_ := 24) rfl (.tmp 42) (.tmp 46) 24 rfl Try.underlying24 J.out.1 J.out.2.1 J.out.2.2.1 J.out.2.2.2 rfl rfl (S6.out.alloc (.cells #[.slice A45 m c45] 22)).o5 (by simp [Act.eval, Act.put]) (Blk.new w5 #[.slice A45 m c45] 22) (own_one O45.out) (by unfold maxLen; omega) (by omega) (S6.out.alloc (.cells #[.slice A45 m c45] 22)).big ?_; intro v5' w9 own9 G9; obtain ⟨A5', c5', rfl, _, _⟩ := own_slice own9; have S7 := Hd.mk ((S6.out.alloc (.cells #[.slice A45 m c45] 22)).growD G9 HV.out.symm own9 (by rw [HCh.out.len]; exact O45.out.alloc (.cells #[.slice A45 m c45] 22))); have e0 : w9.cell? ⟨w.heap.size, 0, none⟩ = some v4 := S7.out.b0.cell 0 rfl; have e1 : w9.cell? ⟨w.heap.size + 1, 0, none⟩ = some (.slice A5 k c5) := S7.out.b1.cell 0 rfl; have f70 := S7.out.b0.free 0; have f71 := S7.out.b1.free 0; clear own9 G9))
      all_goals
        refine NoPanic.normal ?_
        go_wp2_with fail
        go_meet
        case rel => exact ⟨_, _, _, (S7.out.store _ _).here⟩
    case rest =>
      obtain ⟨v4', v5', u, S8⟩ := hcut
      have C3 := Hd.mk (lob_last _ _ _ _ o' 0 A1 m c1 wc b S8.b3 HOB.out)
      have S9 := Hd.mk S8
      clear S8 y0 y1 f0 f1 z0 z1
      go_wp2_with fail
      with_reducible refine C3.out.mono ?_
      rintro e w4 ⟨rfl, rfl⟩
      clear C3
      rcases HC.out with ⟨h1, rfl, rfl, rfl⟩ | ⟨h1, rfl, rfl, rfl⟩
      · go_wp2
        go_roundw
        case rel => exact lob_next S9.out HV.out hkN HL.out h1 hlc hcm HRd.out
        case measure => exact lob_less S9.out HM.out h1 hN
      · obtain ⟨A4', c4', rfl, _, _⟩ := own_slice S9.out.o4
        obtain ⟨A5', c5', rfl, _, _⟩ := own_slice S9.out.o5
        have y0 : wc.cell? ⟨w.heap.size, 0, none⟩ = some (.slice A4' (k + 1) c4') := S9.out.b0.cell 0 rfl
        have y1 : wc.cell? ⟨w.heap.size + 1, 0, none⟩ = some (.slice A5' (k + 1) c5') := S9.out.b1.cell 0 rfl
        have y2 : wc.cell? ⟨w.heap.size + 1 + 1, 0, none⟩ = some (.int .i64 0) := S9.out.b2.cell 0 rfl
        have f0 := S9.out.b0.free 0; have f1 := S9.out.b1.free 0; have f2 := S9.out.b2.free 0
        go_wp2
        refine wp_region_noPanic ?_
        go_region
        refine NoPanic.normal ?_
        go_wp2
        have hk : k = xs.length / N := by
          symm
          have e : (k + 1) * N = k * N + N := Nat.succ_mul k N
          exact Nat.div_eq_of_lt_le hkN (by have := HL.out; rw [e]; omega)
        obtain ⟨V, hV⟩ : ∃ V, V = (((wc.setCell ⟨w.heap.size, 0, none⟩ (.slice A4' (k + 1) c4')).setCell ⟨w.heap.size + 1, 0, none⟩ (.slice A5' (k + 1) c5')).setCell ⟨w.heap.size + 1 + 1, 0, none⟩ (.int .i64 0)).drew := ⟨_, rfl⟩
        rw [← hV]
        obtain ⟨e0, e1, e2, r4, r5, rp, rb⟩ := lob_end S9.out hV
        clear hV y0 y1 y2 f0 f1 f2
        refine leaves_cons (f := 7) (args := #[.pointer (some ⟨w.heap.size, 0, none⟩), .pointer (some ⟨w.heap.size + 1, 0, none⟩), .pointer (some ⟨w.heap.size + 1 + 1, 0, none⟩)]) (by simp) (by simp [go_sem]) ?_
        refine (catch_lob _ _ _ _).mono ?_
        rintro e u' w'' ⟨rfl, rfl, rfl⟩
        simp [Leaves, settle, results, Try.results5, go_sem, e0, e1, e2]
        subst hk
        exact ⟨_, _, _, rfl, by simpa using r4, r5, rp, rb⟩
end Go.Proofs.Ytagmjnlimiconaa.Kb
