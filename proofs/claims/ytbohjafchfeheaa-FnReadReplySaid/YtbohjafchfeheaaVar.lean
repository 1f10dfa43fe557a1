/- The lengths of texts: how they are told, how read. -/
import Derived.Test.YtbohjafchfeheaaArrs
import Derived.Test.YtbohjafchfeheaaHdr
import Derived.Defers
import Derived.Recover
namespace Go.Proofs.Ytbohjafchfeheaa.Kb
open Go Go.RowKit
set_option linter.unusedVariables false
set_option linter.unusedSimpArgs false
set_option maxHeartbeats 1000000
/-- The bytes that tell a length. -/
def lenB (n : Int) : List Int := if n ≤ 245 then [n] else if n ≤ 32767 then 246 :: leB 2 n else 247 :: leB 4 n
theorem lenB_len (n : Int) : (lenB n).length ≤ 5 := by
  unfold lenB
  repeat' split
  all_goals simp [leB_len]
theorem lenB_byte (n : Int) (h0 : 0 ≤ n) : ∀ x ∈ lenB n, 0 ≤ x ∧ x < 256 := by
  intro x hx
  unfold lenB at hx
  split at hx
  · simp at hx; omega
  split at hx
  · rcases List.mem_cons.1 hx with rfl | hx
    · omega
    · exact leB_byte _ _ x hx
  · rcases List.mem_cons.1 hx with rfl | hx
    · omega
    · exact leB_byte _ _ x hx
set_option maxRecDepth 100000 in
theorem varSize (n : Int) (w : World) (h0 : 0 ≤ n) (h1 : n ≤ 1073741824) :
    Calls Try.prog 81 #[.int .i64 n] w fun e w' => e = .returned (.int .i64 (n + (lenB n).length)) ∧ w' = w := by
  unfold lenB
  by_cases k1 : n ≤ 245
  · rw [if_pos k1]
    go_enter Try.func81, Try.ntmps81
    go_wp2
    go_ret
    exact ⟨by simp, rfl⟩
  rw [if_neg k1]
  by_cases k2 : n ≤ 32767
  · rw [if_pos k2]
    go_enter Try.func81, Try.ntmps81
    go_wp2
    go_ret
    exact ⟨by simp [leB_len], rfl⟩
  · rw [if_neg k2]
    go_enter Try.func81, Try.ntmps81
    go_wp2
    go_ret
    exact ⟨by simp [leB_len], rfl⟩
set_option maxRecDepth 100000 in
theorem lengthSize (n : Int) (w : World) (h0 : 0 ≤ n) (h1 : n ≤ 1073741824) :
    Calls Try.prog 26 #[.int .i64 n] w fun e w' => e = .returned (.int .i64 (n + (lenB n).length)) ∧ w' = w := by
  have C : ∀ w, Calls Try.prog 54 #[.int .i64 n] w fun e w' => e = .returned (.int .i64 (n + (lenB n).length)) ∧ w' = w := by
    intro w
    go_enter Try.func54, Try.ntmps54
    go_wp2_with fail
    with_reducible refine (varSize n _ h0 h1).mono ?_
    rintro e w1 ⟨rfl, rfl⟩
    go_wp2
    go_ret
    exact ⟨rfl, rfl⟩
  have C := Hd.mk C
  go_enter Try.func26, Try.ntmps26
  go_wp2_with fail
  with_reducible refine (C.out _).mono ?_
  rintro e w1 ⟨rfl, rfl⟩
  go_wp2
  go_ret
  exact ⟨rfl, rfl⟩
theorem Wrote.two {K : EK} {w w1 w2 : World} {out a b : List Int} (h : Wrote K w out a w1) (k : Wrote K w1 (out ++ a) b w2) : Wrote K w out (a ++ b) w2 := by
  refine ⟨?_, h.2.trans k.2⟩
  have := k.1
  rwa [List.append_assoc] at this
set_option maxRecDepth 100000 in
theorem E_varInd (K : EK) (out : List Int) (n : Int) (w : World) (h : Enc K w out) (hn : out.length + 5 ≤ 1000000000) (h0 : 0 ≤ n) (h1 : n ≤ 1073741824) :
    Calls Try.prog 80 #[.pointer (some ⟨K.e, 0, none⟩), .int .i64 n] w fun e w' => e = .returned .nilIface ∧ Wrote K w out (lenB n) w' := by
  unfold lenB
  by_cases k1 : n ≤ 245
  · rw [if_pos k1]
    have C := Hd.mk (E_Byte K out n w h (by omega))
    clear h
    go_enter Try.func80, Try.ntmps80
    go_wp2_with fail
    with_reducible refine C.out.mono ?_
    rintro e w1 ⟨rfl, hw⟩
    have HW := Hd.mk hw
    clear hw C
    go_wp2
    go_ret
    exact ⟨rfl, HW.out⟩
  rw [if_neg k1]
  by_cases k2 : n ≤ 32767
  · rw [if_pos k2]
    have C := Hd.mk (E_Byte K out 246 w h (by omega))
    clear h
    go_enter Try.func80, Try.ntmps80
    go_wp2_with fail
    with_reducible refine C.out.mono ?_
    rintro e w1 ⟨rfl, hw⟩
    have HW := Hd.mk hw
    have C2 := Hd.mk (E_Int16 K (out ++ [246]) n w1 hw.1 (by simp; omega))
    clear hw C
    go_wp2_with fail
    with_reducible refine C2.out.mono ?_
    rintro e w2 ⟨rfl, hw⟩
    have HW2 := Hd.mk (HW.out.two hw)
    clear hw C2 HW
    go_wp2
    go_ret
    exact ⟨rfl, HW2.out⟩
  · rw [if_neg k2]
    have C := Hd.mk (E_Byte K out 247 w h (by omega))
    clear h
    go_enter Try.func80, Try.ntmps80
    go_wp2_with fail
    with_reducible refine C.out.mono ?_
    rintro e w1 ⟨rfl, hw⟩
    have HW := Hd.mk hw
    have C2 := Hd.mk (E_Int32 K (out ++ [247]) n w1 hw.1 (by simp; omega))
    clear hw C
    go_wp2_with fail
    with_reducible refine C2.out.mono ?_
    rintro e w2 ⟨rfl, hw⟩
    have HW2 := Hd.mk (HW.out.two hw)
    clear hw C2 HW
    go_wp2
    go_ret
    exact ⟨rfl, HW2.out⟩
set_option maxRecDepth 100000 in
theorem zzVarInd (eb sb wr tb : Nat) (n : Int) (w : World) (h : Enc0 w eb sb wr tb) (h0 : 0 ≤ n) (h1 : n ≤ 1073741824) :
    Calls Try.prog 53 #[.pointer (some ⟨eb, 0, none⟩), .int .i64 n] w fun e w' => e = .returned .nilIface ∧ Sent w sb wr (lenB n) w' := by
  have hE := Enc.start h.b1 h.b2 h.b3 h.n1 h.n2 h.n3
  have C := Hd.mk (E_varInd _ _ n _ hE (by simp) h0 h1)
  clear hE h
  go_enter Try.func53, Try.ntmps53
  go_wp2_with fail
  with_reducible refine C.out.mono ?_
  rintro e w1 ⟨rfl, hw⟩
  have HW := Hd.mk (Sent.of hw rfl rfl (by simp) (Below.refl _ _))
  clear hw C
  go_wp2
  go_ret
  exact ⟨rfl, HW.out⟩
theorem catch_lengthBytes (a b : Value) (w : World) :
    CallsD Try.prog 52 #[a, b] .returning w fun e u' w' => e = .returned (.tuple #[]) ∧ u' = .returning ∧ w' = w := by
  refine callsD_of_wpS Try.func52 rfl fun c₀ cs hu => ?_
  apply wpS_seq
  apply wpS_region
  simp [wpOpsS, go_sem, recoverD, hu, Try.ntmps52, Exit.thenS]
  refine wpS_cond (t := false) (by simp [Act.eval, Array.replicate]) ?_
  simp only [Bool.false_eq_true, if_false]
  refine wpS_of_wp (wp_skip ?_)
  cases c₀
  simp_all [bodyPostS, results, Try.results52]
set_option maxRecDepth 100000 in
theorem lengthBytes (n : Int) (w : World) (h0 : 0 ≤ n) (h1 : n ≤ 1073741824) :
    Calls Try.prog 25 #[.int .i64 n] w fun e w' => ∃ v, e = .returned (.tuple #[v, .int .i64 0]) ∧ Made w (lenB n) (.returned v) w' := by
  have hmf : ∀ (fn : Fn) (first cap : Array Value) (w : World), (Instr.makeFunc fn first cap).run Try.prog w = .ok (.func fn first cap) w := fun _ _ _ _ => rfl
  have hB : Below w.heap.size w (((w.alloc (.cells #[.slice none 0 0] 23)).alloc (.cells #[.int .i64 0] 3)).alloc (.cells #[.slice none 0 0] 103)) := (((Below.refl _ _).alloc (Nat.le_refl _) _).alloc (by simp) _).alloc (by simp; omega) _
  have g0 := ((Blk.new w #[.slice none 0 0] 23).alloc (.cells #[.int .i64 0] 3)).alloc (.cells #[.slice none 0 0] 103)
  have g1 := (Blk.new (w.alloc (.cells #[.slice none 0 0] 23)) #[.int .i64 0] 3).alloc (.cells #[.slice none 0 0] 103)
  have g2 := Blk.new ((w.alloc (.cells #[.slice none 0 0] 23)).alloc (.cells #[.int .i64 0] 3)) #[.slice none 0 0] 103
  simp only [World.size_alloc] at g0 g1 g2
  have HB := Hd.mk hB; have G0 := Hd.mk g0; have G1 := Hd.mk g1; have G2 := Hd.mk g2
  clear hB g0 g1 g2
  go_enter_defers Try.func25, Try.ntmps25
  go_wp2_with fail
  with_reducible refine (encoder_new _ _).mono ?_
  intro e w1 k1
  obtain ⟨eb, sb, tb, rfl, he, p1, p2, p3, hl⟩ := Enc0.of G2.out k1
  have C := Hd.mk (zzVarInd eb sb _ tb n _ he h0 h1)
  have HL := Hd.mk hl
  have P2 := Hd.mk p2
  clear k1 he p1 p2 p3 hl G2
  go_wp2_with fail
  with_reducible refine C.out.mono ?_
  rintro e w2 ⟨rfl, v, hv, hown, hb⟩
  obtain ⟨A, a, b, rfl⟩ := own_slice hown
  have hp2 := P2.out
  simp at hp2
  have c : w2.cell? ⟨w.heap.size + 1 + 1, 0, none⟩ = some (.slice A a b) := hv.cell 0 rfl
  have hs1 := HL.out.size
  simp at hs1
  have hg0 := (G0.out.below HL.out (by simp <;> omega)).bel hb (by omega) (by simp; omega)
  have hg1 := (G1.out.below HL.out (by simp <;> omega)).bel hb (by omega) (by simp; omega)
  have f0 := hg0.free 0; have f1 := hg1.free 0
  have x0 : w2.cell? ⟨w.heap.size, 0, none⟩ = some (.slice none 0 0) := hg0.cell 0 rfl
  have x1 : w2.cell? ⟨w.heap.size + 1, 0, none⟩ = some (.int .i64 0) := hg1.cell 0 rfl
  have HO := Hd.mk hown
  have G0' := Hd.mk hg0; have G1' := Hd.mk hg1
  have HB2 := Hd.mk (Bel.to' ((Bel.of (HB.out.trans (HL.out.mono (by simp; omega)))).trans (hb.weak (B' := w.heap.size) (by omega) (S' := [sb, w.heap.size + 1 + 1]) (fun x hx _ => hx))) (by simp; omega))
  clear hv hown hb hg0 hg1 HB HL G0 G1 C
  go_wp2
  obtain ⟨W, hW⟩ : ∃ W, W = (w2.setCell ⟨w.heap.size, 0, none⟩ (.slice A a b)).setCell ⟨w.heap.size + 1, 0, none⟩ (.int .i64 0) := ⟨_, rfl⟩
  rw [← hW]
  have y0 : W.cell? ⟨w.heap.size, 0, none⟩ = some (.slice A a b) := by rw [hW]; exact ((G0'.out.set 0 (.slice A a b)).set_ne (p := ⟨w.heap.size + 1, 0, none⟩) (by simp) _).cell 0 rfl
  have y1 : W.cell? ⟨w.heap.size + 1, 0, none⟩ = some (.int .i64 0) := by rw [hW]; exact ((G1'.out.set_ne (p := ⟨w.heap.size, 0, none⟩) (by simp) (.slice A a b)).set 0 (.int .i64 0)).cell 0 rfl
  have ho := ownsRow_setCell_below (ownsRow_setCell_below HO.out (a := ⟨w.heap.size, 0, none⟩) (by simp; omega) (.slice A a b)) (a := ⟨w.heap.size + 1, 0, none⟩) (by simp; omega) (.int .i64 0)
  have hbl := (HB2.out.setCell (p := ⟨w.heap.size, 0, none⟩) (by simp) (.slice A a b)).setCell (p := ⟨w.heap.size + 1, 0, none⟩) (by simp) (.int .i64 0)
  rw [← hW] at ho hbl
  clear hW
  refine leaves_cons (f := 52) (args := #[.pointer (some ⟨w.heap.size, 0, none⟩), .pointer (some ⟨w.heap.size + 1, 0, none⟩)]) (by simp) (by simp [go_sem]) ?_
  refine (catch_lengthBytes _ _ _).mono ?_
  rintro e u' w'' ⟨rfl, rfl, rfl⟩
  simp [Leaves, settle, results, Try.results25, go_sem, y0, y1]
  exact ⟨_, rfl, own_base ho (by omega), hbl⟩
/-- The first byte that a Decoder reads, by which it knows a length. -/
def K1 (K : DK) (p : Nat) : Int := K.num p 1
theorem Went.next {K : DK} {w w1 w2 : World} {p k m : Nat} (h : Went K w p k w1) (h2 : Went K w1 (p + k) m w2) : Went K w p (k + m) w2 := by
  refine ⟨by have := h2.1; rwa [Nat.add_assoc] at this, h.2.trans (h2.2.weak h.2.size (fun x hx _ => hx))⟩
set_option maxRecDepth 100000 in
theorem D_var0 (K : DK) (p : Nat) (b : Int) (w : World) (h : Dec K w p .nilIface) (fit : p + 1 ≤ K.xs.length) (hb : K.num p 1 = b) (b0 : 0 ≤ b) (b1 : b ≤ 245) :
    Calls Try.prog 70 #[.pointer (some ⟨K.d, 0, none⟩)] w fun e w' => e = .returned (.tuple #[.int .i64 1, .int .i64 b, .bool false]) ∧ Went K w p 1 w' := by
  have C := D_Byte K p w h fit
  rw [hb] at C
  have C := Hd.mk C
  clear h
  go_enter Try.func70, Try.ntmps70
  go_wp2_with fail
  with_reducible refine C.out.mono ?_
  rintro e w1 ⟨rfl, hw⟩
  have HW := Hd.mk hw
  clear hw C
  go_wp2
  refine bodyPost_ret (v := .tuple #[.int .i64 1, .int .i64 b, .bool false]) (by simp [results, Try.results70, go_sem]) rfl ⟨rfl, HW.out⟩
set_option maxRecDepth 100000 in
theorem D_var255 (K : DK) (p : Nat) (w : World) (h : Dec K w p .nilIface) (fit : p + 1 ≤ K.xs.length) (hb : K.num p 1 = 255) :
    Calls Try.prog 70 #[.pointer (some ⟨K.d, 0, none⟩)] w fun e w' => e = .returned (.tuple #[.int .i64 1, .int .i64 0, .bool true]) ∧ Went K w p 1 w' := by
  have C := D_Byte K p w h fit
  rw [hb] at C
  have C := Hd.mk C
  clear h
  go_enter Try.func70, Try.ntmps70
  go_wp2_with fail
  with_reducible refine C.out.mono ?_
  rintro e w1 ⟨rfl, hw⟩
  have HW := Hd.mk hw
  clear hw C
  go_wp2
  refine bodyPost_ret (v := .tuple #[.int .i64 1, .int .i64 0, .bool true]) (by simp [results, Try.results70, go_sem]) rfl ⟨rfl, HW.out⟩
set_option maxRecDepth 100000 in
theorem D_var246 (K : DK) (p : Nat) (w : World) (h : Dec K w p .nilIface) (fit : p + 3 ≤ K.xs.length) (hb : K.num p 1 = 246) :
    Calls Try.prog 70 #[.pointer (some ⟨K.d, 0, none⟩)] w fun e w' => e = .returned (.tuple #[.int .i64 3, .int .i64 (IntKind.i16.wrap (K.num (p + 1) 2)), .bool false]) ∧ Went K w p 3 w' := by
  have C := D_Byte K p w h (by omega)
  rw [hb] at C
  have C := Hd.mk C
  obtain ⟨x, hx⟩ : ∃ x, IntKind.i16.wrap (K.num (p + 1) 2) = x := ⟨_, rfl⟩
  have hx1 : -32768 ≤ x ∧ x ≤ 32767 := by rw [← hx]; simp [IntKind.wrap, IntKind.bits, IntKind.signed]; omega
  obtain ⟨x1, x2⟩ := hx1
  rw [hx]
  have HX := Hd.mk hx
  clear h hx
  go_enter Try.func70, Try.ntmps70
  go_wp2_with fail
  with_reducible refine C.out.mono ?_
  rintro e w1 ⟨rfl, hw⟩
  have HW := Hd.mk hw
  have C2 := D_Int16 K (p + 1) w1 hw.1 (by omega)
  rw [HX.out] at C2
  have C2 := Hd.mk C2
  clear hw C
  go_wp2_with fail
  with_reducible refine C2.out.mono ?_
  rintro e w2 ⟨rfl, hw⟩
  have HW2 := Hd.mk (HW.out.next hw)
  clear hw C2 HW
  go_wp2
  refine bodyPost_ret (v := .tuple #[.int .i64 3, .int .i64 x, .bool false]) (by simp [results, Try.results70, go_sem]) rfl ⟨rfl, HW2.out⟩
set_option maxRecDepth 100000 in
theorem D_var247 (K : DK) (p : Nat) (w : World) (h : Dec K w p .nilIface) (fit : p + 5 ≤ K.xs.length) (hb : K.num p 1 = 247) :
    Calls Try.prog 70 #[.pointer (some ⟨K.d, 0, none⟩)] w fun e w' => e = .returned (.tuple #[.int .i64 5, .int .i64 (wrap32 (K.num (p + 1) 4)), .bool false]) ∧ Went K w p 5 w' := by
  have C := D_Byte K p w h (by omega)
  rw [hb] at C
  have C := Hd.mk C
  obtain ⟨x, hx⟩ : ∃ x, wrap32 (K.num (p + 1) 4) = x := ⟨_, rfl⟩
  have hx1 : -2147483648 ≤ x ∧ x ≤ 2147483647 := by rw [← hx]; exact wrap32_bounds _
  obtain ⟨x1, x2⟩ := hx1
  rw [hx]
  have HX := Hd.mk hx
  clear h hx
  go_enter Try.func70, Try.ntmps70
  go_wp2_with fail
  with_reducible refine C.out.mono ?_
  rintro e w1 ⟨rfl, hw⟩
  have HW := Hd.mk hw
  have C2 := D_Int32 K (p + 1) w1 hw.1 (by omega)
  rw [HX.out] at C2
  have C2 := Hd.mk C2
  clear hw C
  go_wp2_with fail
  with_reducible refine C2.out.mono ?_
  rintro e w2 ⟨rfl, hw⟩
  have HW2 := Hd.mk (HW.out.next hw)
  clear hw C2 HW
  go_wp2
  refine bodyPost_ret (v := .tuple #[.int .i64 5, .int .i64 x, .bool false]) (by simp [results, Try.results70, go_sem]) rfl ⟨rfl, HW2.out⟩
/-- The error that a Decoder keeps, or none. -/
def Er (bad : Bool) (er : Value) : Prop := (bad = false ∧ er = .nilIface) ∨ (bad = true ∧ ∃ T v, er = .iface T v)
/-- What the reading of a length answers: how many bytes it takes, the length, whether it is null, and the Decoder's error. -/
def Ind (K : DK) (w : World) (a b : Int) (nl bad : Bool) (e : Ending) (w' : World) : Prop :=
  e = .returned (.tuple #[.int .i64 a, .int .i64 b, .bool nl]) ∧ (∃ p c er, Er bad er ∧ DecB K w' p c er) ∧ Bel w.heap.size [K.d, K.sb] w w'
theorem Ind.of {K : DK} {w w' : World} {a b : Int} {nl : Bool} {p k : Nat} (h : Went K w p k w') : Ind K w a b nl false (.returned (.tuple #[.int .i64 a, .int .i64 b, .bool nl])) w' := ⟨rfl, ⟨_, _, _, .inl ⟨rfl, rfl⟩, h.1.b⟩, h.2⟩
set_option maxRecDepth 100000 in
theorem zzVarIndOf (K : DK) (a b : Int) (nl bad : Bool) (w : World) (h : Calls Try.prog 70 #[.pointer (some ⟨K.d, 0, none⟩)] w fun e w' => Ind K w a b nl bad e w') :
    Calls Try.prog 40 #[.pointer (some ⟨K.d, 0, none⟩)] w fun e w' => Ind K w a b nl bad e w' := by
  have C := Hd.mk h
  clear h
  go_enter Try.func40, Try.ntmps40
  go_wp2_with fail
  with_reducible refine C.out.mono ?_
  rintro e w1 ⟨rfl, hw⟩
  have HW := Hd.mk hw
  clear hw C
  go_wp2
  refine bodyPost_ret (v := .tuple #[.int .i64 a, .int .i64 b, .bool nl]) (by simp [results, Try.results40, go_sem]) rfl ⟨rfl, HW.out⟩
theorem catch_lengthOf (a b c d : Value) (w : World) :
    CallsD Try.prog 39 #[a, b, c, d] .returning w fun e u' w' => e = .returned (.tuple #[]) ∧ u' = .returning ∧ w' = w := by
  refine callsD_of_wpS Try.func39 rfl fun c₀ cs hu => ?_
  apply wpS_seq
  apply wpS_region
  simp [wpOpsS, go_sem, recoverD, hu, Try.ntmps39, Exit.thenS]
  refine wpS_cond (t := false) (by simp [Act.eval, Array.replicate]) ?_
  simp only [Bool.false_eq_true, if_false]
  refine wpS_of_wp (wp_skip ?_)
  cases c₀
  simp_all [bodyPostS, results, Try.results39]
theorem err_blk (d : Nat) (er : Value) (cs : Array Value) (hc : cs[2]? = some er) (w : World) (h : Blk w d cs 138) :
    Calls Try.prog 41 #[.pointer (some ⟨d, 0, none⟩)] w fun e w' => e = .returned er ∧ w = w' := by
  have c2 : w.cell? ⟨d, 2, none⟩ = some er := h.cell 2 hc
  clear h hc
  go_enter Try.func41, Try.ntmps41
  go_wp2
  go_ret
  exact ⟨rfl, rfl⟩
/-- What the reading of a length answers in the end. -/
def lenR (a b : Int) (nl : Bool) : Bool → Value
  | false => .tuple #[.int .i64 a, .int .i64 b, .bool nl, .int .i64 0]
  | true => .tuple #[.int .i64 0, .int .i64 0, .bool false, .int .i64 1]
theorem four {W : World} {g : Nat} {a0 a1 a2 a3 : Value} {t0 t1 t2 t3 : TypeId} (v0 v1 v2 v3 : Value) (q0 : Blk W g #[a0] t0) (q1 : Blk W (g + 1) #[a1] t1) (q2 : Blk W (g + 1 + 1) #[a2] t2) (q3 : Blk W (g + 1 + 1 + 1) #[a3] t3) (w : World) (hg : w.heap.size ≤ g) (hb : Below w.heap.size w W)
    (V : World) (hV : V = (((W.setCell ⟨g, 0, none⟩ v0).setCell ⟨g + 1, 0, none⟩ v1).setCell ⟨g + 1 + 1, 0, none⟩ v2).setCell ⟨g + 1 + 1 + 1, 0, none⟩ v3) :
    V.cell? ⟨g, 0, none⟩ = some v0 ∧ V.cell? ⟨g + 1, 0, none⟩ = some v1 ∧ V.cell? ⟨g + 1 + 1, 0, none⟩ = some v2 ∧ V.cell? ⟨g + 1 + 1 + 1, 0, none⟩ = some v3 ∧ Below w.heap.size w V := by
  subst hV
  refine ⟨?_, ?_, ?_, ?_, ?_⟩
  · exact ((((q0.set 0 v0).set_ne (p := ⟨g + 1, 0, none⟩) (by simp <;> omega) v1).set_ne (p := ⟨g + 1 + 1, 0, none⟩) (by simp <;> omega) v2).set_ne (p := ⟨g + 1 + 1 + 1, 0, none⟩) (by simp <;> omega) v3).cell 0 rfl
  · exact ((((q1.set_ne (p := ⟨g, 0, none⟩) (by simp <;> omega) v0).set 0 v1).set_ne (p := ⟨g + 1 + 1, 0, none⟩) (by simp <;> omega) v2).set_ne (p := ⟨g + 1 + 1 + 1, 0, none⟩) (by simp <;> omega) v3).cell 0 rfl
  · exact ((((q2.set_ne (p := ⟨g, 0, none⟩) (by simp <;> omega) v0).set_ne (p := ⟨g + 1, 0, none⟩) (by simp <;> omega) v1).set 0 v2).set_ne (p := ⟨g + 1 + 1 + 1, 0, none⟩) (by simp <;> omega) v3).cell 0 rfl
  · exact ((((q3.set_ne (p := ⟨g, 0, none⟩) (by simp <;> omega) v0).set_ne (p := ⟨g + 1, 0, none⟩) (by simp <;> omega) v1).set_ne (p := ⟨g + 1 + 1, 0, none⟩) (by simp <;> omega) v2).set 0 v3).cell 0 rfl
  · exact (((hb.setCell (p := ⟨g, 0, none⟩) hg v0).setCell (p := ⟨g + 1, 0, none⟩) (by simp <;> omega) v1).setCell (p := ⟨g + 1 + 1, 0, none⟩) (by simp <;> omega) v2).setCell (p := ⟨g + 1 + 1 + 1, 0, none⟩) (by simp <;> omega) v3
set_option maxRecDepth 100000 in
theorem lengthOf_any (A : Option Addr) (n c : Nat) (xs : List Int) (w : World) (hr : Rd w [] A n xs) (hn : n ≤ c) (hc : c ≤ maxLen) (hby : ∀ x ∈ xs, 0 ≤ x ∧ x < 256) (a b : Int) (nl : Bool) (la : -1000 ≤ a ∧ a ≤ 1000) (lb : -4000000000 ≤ b ∧ b ≤ 4000000000) (bad : Bool)
    (H : ∀ (K : DK) (w : World), K.xs = xs → Dec K w 0 .nilIface → Calls Try.prog 70 #[.pointer (some ⟨K.d, 0, none⟩)] w fun e w' => Ind K w a b nl bad e w') :
    Calls Try.prog 16 #[.slice A n c] w fun e w' => e = .returned (lenR a b nl bad) ∧ Below w.heap.size w w' := by
  have hmf : ∀ (fn : Fn) (first cap : Array Value) (w : World), (Instr.makeFunc fn first cap).run Try.prog w = .ok (.func fn first cap) w := fun _ _ _ _ => rfl
  have hB : Below w.heap.size w ((((w.alloc (.cells #[.int .i64 0] 3)).alloc (.cells #[.int .i64 0] 3)).alloc (.cells #[.bool false] 4)).alloc (.cells #[.int .i64 0] 3)) := ((((Below.refl _ _).alloc (Nat.le_refl _) _).alloc (by simp <;> omega) _).alloc (by simp; omega) _).alloc (by simp; omega) _
  have g0 := (((Blk.new w #[.int .i64 0] 3).alloc (.cells #[.int .i64 0] 3)).alloc (.cells #[.bool false] 4)).alloc (.cells #[.int .i64 0] 3)
  have g1 := ((Blk.new (w.alloc (.cells #[.int .i64 0] 3)) #[.int .i64 0] 3).alloc (.cells #[.bool false] 4)).alloc (.cells #[.int .i64 0] 3)
  have g2 := (Blk.new ((w.alloc (.cells #[.int .i64 0] 3)).alloc (.cells #[.int .i64 0] 3)) #[.bool false] 4).alloc (.cells #[.int .i64 0] 3)
  have g3 := Blk.new (((w.alloc (.cells #[.int .i64 0] 3)).alloc (.cells #[.int .i64 0] 3)).alloc (.cells #[.bool false] 4)) #[.int .i64 0] 3
  simp only [World.size_alloc] at g0 g1 g2 g3
  have C := Hd.mk (decoder_new A n c xs false false _ (hr.below hB) hn hc hby)
  have HB := Hd.mk hB; have G0 := Hd.mk g0; have G1 := Hd.mk g1; have G2 := Hd.mk g2; have G3 := Hd.mk g3; have HH := Hd.mk H; have LA := Hd.mk la; have LB := Hd.mk lb
  clear hr hn hc hby hB g0 g1 g2 g3 H la lb
  go_enter_defers Try.func16, Try.ntmps16
  go_wp2_with fail
  with_reducible refine C.out.mono ?_
  intro e w1 k1
  obtain ⟨K, rfl, k2, l1, l2, hd, hb1⟩ := k1.to
  have C1 := Hd.mk (zzVarIndOf K a b nl bad w1 (HH.out K w1 k2 hd))
  have HL := Hd.mk hb1; have L1 := Hd.mk l1; have L2 := Hd.mk l2
  clear k1 k2 l1 l2 hd hb1 C HH
  go_wp2_with fail
  with_reducible refine C1.out.mono ?_
  rintro e w2 ⟨rfl, ⟨p, cc, er, her, hd⟩, hb⟩
  have hs1 := HL.out.size
  have l1 := L1.out; have l2 := L2.out
  simp at hs1 l1 l2
  have hg0 := (G0.out.below HL.out (by simp <;> omega)).bel hb (by omega) (by simp; omega)
  have hg1 := (G1.out.below HL.out (by simp <;> omega)).bel hb (by omega) (by simp; omega)
  have hg2 := (G2.out.below HL.out (by simp <;> omega)).bel hb (by omega) (by simp; omega)
  have hg3 := (G3.out.below HL.out (by simp <;> omega)).bel hb (by omega) (by simp; omega)
  have HB2 := Hd.mk (Bel.to' ((Bel.of (HB.out.trans (HL.out.mono (by simp; omega)))).trans (hb.weak (B' := w.heap.size) (by omega) (S' := [K.d, K.sb]) (fun x hx _ => hx))) (by simp; omega))
  have x0 : w2.cell? ⟨w.heap.size, 0, none⟩ = some (.int .i64 0) := hg0.cell 0 rfl
  have x1 : w2.cell? ⟨w.heap.size + 1, 0, none⟩ = some (.int .i64 0) := hg1.cell 0 rfl
  have x2 : w2.cell? ⟨w.heap.size + 1 + 1, 0, none⟩ = some (.bool false) := hg2.cell 0 rfl
  have f0 := hg0.free 0; have f1 := hg1.free 0; have f2 := hg2.free 0
  have HD := Hd.mk hd; have G0' := Hd.mk hg0; have G1' := Hd.mk hg1; have G2' := Hd.mk hg2; have G3' := Hd.mk hg3
  clear hb hd hg0 hg1 hg2 hg3 HB HL G0 G1 G2 G3 C1
  obtain ⟨W, hW⟩ : ∃ W, W = ((w2.setCell ⟨w.heap.size, 0, none⟩ (.int .i64 a)).setCell ⟨w.heap.size + 1, 0, none⟩ (.int .i64 b)).setCell ⟨w.heap.size + 1 + 1, 0, none⟩ (.bool nl) := ⟨_, rfl⟩
  have q0 : Blk W w.heap.size #[.int .i64 a] 3 := by
    rw [hW]
    exact (((G0'.out.set 0 (.int .i64 a)).set_ne (p := ⟨w.heap.size + 1, 0, none⟩) (by simp <;> omega) _).set_ne (p := ⟨w.heap.size + 1 + 1, 0, none⟩) (by simp <;> omega) _).cast (by simp)
  have q1 : Blk W (w.heap.size + 1) #[.int .i64 b] 3 := by
    rw [hW]
    exact (((G1'.out.set_ne (p := ⟨w.heap.size, 0, none⟩) (by simp <;> omega) _).set 0 (.int .i64 b)).set_ne (p := ⟨w.heap.size + 1 + 1, 0, none⟩) (by simp <;> omega) _).cast (by simp)
  have q2 : Blk W (w.heap.size + 1 + 1) #[.bool nl] 4 := by
    rw [hW]
    exact (((G2'.out.set_ne (p := ⟨w.heap.size, 0, none⟩) (by simp <;> omega) _).set_ne (p := ⟨w.heap.size + 1, 0, none⟩) (by simp <;> omega) _).set 0 (.bool nl)).cast (by simp)
  have q3 : Blk W (w.heap.size + 1 + 1 + 1) #[.int .i64 0] 3 := by
    rw [hW]
    exact ((G3'.out.set_ne (p := ⟨w.heap.size, 0, none⟩) (by simp <;> omega) _).set_ne (p := ⟨w.heap.size + 1, 0, none⟩) (by simp <;> omega) _).set_ne (p := ⟨w.heap.size + 1 + 1, 0, none⟩) (by simp) _
  have q4 := ((HD.out.blk.set_ne (p := ⟨w.heap.size, 0, none⟩) (by simp <;> omega) (.int .i64 a)).set_ne (p := ⟨w.heap.size + 1, 0, none⟩) (by simp <;> omega) (.int .i64 b)).set_ne (p := ⟨w.heap.size + 1 + 1, 0, none⟩) (by simp <;> omega) (.bool nl)
  have hbl := ((HB2.out.setCell (p := ⟨w.heap.size, 0, none⟩) (by simp <;> omega) (.int .i64 a)).setCell (p := ⟨w.heap.size + 1, 0, none⟩) (by simp <;> omega) (.int .i64 b)).setCell (p := ⟨w.heap.size + 1 + 1, 0, none⟩) (by simp <;> omega) (.bool nl)
  rw [← hW] at q4 hbl
  have C2 := Hd.mk (err_blk K.d er _ rfl W q4)
  have Q0 := Hd.mk q0; have Q1 := Hd.mk q1; have Q2 := Hd.mk q2; have Q3 := Hd.mk q3; have HBL := Hd.mk hbl
  clear G0' G1' G2' G3' HD HB2 q4 hbl
  go_wp2_with fail
  rw [← hW]
  clear hW x0 x1 x2 f0 f1 f2
  with_reducible refine C2.out.mono ?_
  rintro e w3 ⟨rfl, rfl⟩
  have x0 : W.cell? ⟨w.heap.size, 0, none⟩ = some (.int .i64 a) := q0.cell 0 rfl
  have x1 : W.cell? ⟨w.heap.size + 1, 0, none⟩ = some (.int .i64 b) := q1.cell 0 rfl
  have x2 : W.cell? ⟨w.heap.size + 1 + 1, 0, none⟩ = some (.bool nl) := q2.cell 0 rfl
  have x3 : W.cell? ⟨w.heap.size + 1 + 1 + 1, 0, none⟩ = some (.int .i64 0) := q3.cell 0 rfl
  have f0 := q0.free 0; have f1 := q1.free 0; have f2 := q2.free 0; have f3 := q3.free 0
  clear q0 q1 q2 q3 C2
  rcases her with ⟨rfl, rfl⟩ | ⟨rfl, T, v, rfl⟩
  · go_wp2
    go_region
    all_goals
      go_wp2
      obtain ⟨V, hV⟩ : ∃ V, V = (((W.setCell ⟨w.heap.size, 0, none⟩ (.int .i64 a)).setCell ⟨w.heap.size + 1, 0, none⟩ (.int .i64 b)).setCell ⟨w.heap.size + 1 + 1, 0, none⟩ (.bool nl)).setCell ⟨w.heap.size + 1 + 1 + 1, 0, none⟩ (.int .i64 0) := ⟨_, rfl⟩
      rw [← hV]
      obtain ⟨y0, y1, y2, y3, hbl⟩ := four _ _ _ _ Q0.out Q1.out Q2.out Q3.out w (Nat.le_refl _) HBL.out V hV
      clear hV
      refine leaves_cons (f := 39) (args := #[.pointer (some ⟨w.heap.size, 0, none⟩), .pointer (some ⟨w.heap.size + 1, 0, none⟩), .pointer (some ⟨w.heap.size + 1 + 1, 0, none⟩), .pointer (some ⟨w.heap.size + 1 + 1 + 1, 0, none⟩)]) (by simp) (by simp [go_sem]) ?_
      refine (catch_lengthOf _ _ _ _ _).mono ?_
      rintro e u' w'' ⟨rfl, rfl, rfl⟩
      simp [Leaves, settle, results, Try.results16, go_sem, y0, y1, y2, y3, lenR]
      exact hbl.drew
  · go_wp2
    obtain ⟨V, hV⟩ : ∃ V, V = (((W.setCell ⟨w.heap.size, 0, none⟩ (.int .i64 0)).setCell ⟨w.heap.size + 1, 0, none⟩ (.int .i64 0)).setCell ⟨w.heap.size + 1 + 1, 0, none⟩ (.bool false)).setCell ⟨w.heap.size + 1 + 1 + 1, 0, none⟩ (.int .i64 1) := ⟨_, rfl⟩
    rw [← hV]
    obtain ⟨y0, y1, y2, y3, hbl⟩ := four _ _ _ _ Q0.out Q1.out Q2.out Q3.out w (Nat.le_refl _) HBL.out V hV
    clear hV
    refine leaves_cons (f := 39) (args := #[.pointer (some ⟨w.heap.size, 0, none⟩), .pointer (some ⟨w.heap.size + 1, 0, none⟩), .pointer (some ⟨w.heap.size + 1 + 1, 0, none⟩), .pointer (some ⟨w.heap.size + 1 + 1 + 1, 0, none⟩)]) (by simp) (by simp [go_sem]) ?_
    refine (catch_lengthOf _ _ _ _ _).mono ?_
    rintro e u' w'' ⟨rfl, rfl, rfl⟩
    simp [Leaves, settle, results, Try.results16, go_sem, y0, y1, y2, y3, lenR]
    exact hbl
end Go.Proofs.Ytbohjafchfeheaa.Kb
