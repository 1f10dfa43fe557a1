/- The walk of FnAffected: numbers of four bytes, read into a slice. -/
import Derived.Test.YtbohjafchfeheaaVar
import Derived.Test.YtbohjafchfeheaaLenOf
import Derived.BigRegion
import Derived.BigQuiet
import Derived.Lib.SliceRun
namespace Go.Proofs.Ytbohjafchfeheaa.Kb
open Go Go.RowKit
set_option linter.unusedVariables false
set_option linter.unusedSimpArgs false
set_option maxHeartbeats 1000000
theorem infoI32 : (Try.prog.info? 21).map (fun i => (i.zero, i.size, i.bytes)) = some (some (.int .i32 0), 1, 4) := by kernel_rfl
/-- What resizeSlice makes of nothing. -/
def Room (w : World) (n : Nat) (e : Ending) (w' : World) : Prop := e = .returned (.slice (some ⟨w.heap.size, 0, none⟩) n n) ∧ Blk w' w.heap.size (zs n (.int .i32 0)).toArray 21 ∧ Below w.heap.size w w' ∧ w'.heap.size = w.heap.size + 1
set_option maxRecDepth 100000 in
theorem resize32 (n : Nat) (m : Int) (hm : m = n) (hn : n ≤ 100000) (w : World) :
    Calls Try.prog 100 #[.slice none 0 0, .int .i64 m] w fun e w' => Room w n e w' := by
  subst hm
  have q1 : ∀ (w : World) (a : Option Addr) (n c n' c' : Nat), (binOp .eql 43 (.slice a n c) (.slice none n' c')).run Try.prog w = .ok (.bool a.isNone) w := fun w a n c n' c' => Lib.run_eql_slice_nil w _ _ a n c n' c' Try.underlying43
  go_enter Try.func100, Try.ntmps100
  go_wp2_with (refine wpList_make_z rfl _ _ 43 rfl 21 (.int .i32 0) 4 Try.underlying43 infoI32 rfl .i64 .i64 _ _ n rfl rfl rfl rfl (by omega) (by omega) ?_)
  intro w1 hb hl hs
  have H := Hd.mk (And.intro hb (And.intro hl hs))
  clear hb hl hs
  go_wp2
  go_ret
  exact ⟨rfl, H.out.1, H.out.2.1, H.out.2.2⟩
/-- A Decoder, a struct with a slice, and the slice's row. -/
structure Two (K : DK) (w : World) (p R G : Nat) (rv : Value) (cs : Array Value) (T : TypeId) (U : TypeId) : Prop where
  d : Dec K w p .nilIface
  rR : Rd w [R] K.ra K.xs.length K.xs
  rG : Rd w [G] K.ra K.xs.length K.xs
  bR : Blk w R #[rv] T
  bG : Blk w G cs U
  n1 : R ≠ K.d
  n2 : R ≠ K.sb
  n3 : G ≠ K.d
  n4 : G ≠ K.sb
  n5 : R ≠ G
theorem Two.went {K : DK} {w w' : World} {p k R G : Nat} {rv : Value} {cs : Array Value} {T U : TypeId} (h : Two K w p R G rv cs T U) (hw : Went K w p k w') : Two K w' (p + k) R G rv cs T U := by
  obtain ⟨h1, h2, h3, h4, h5, h6, h7, h8, h9, h10⟩ := h
  exact ⟨hw.1, h2.cross h1.b.rd hw.2, h3.cross h1.b.rd hw.2, h4.bel hw.2 h4.lt (by simp [h6, h7]), h5.bel hw.2 h5.lt (by simp [h8, h9]), h6, h7, h8, h9, h10⟩
theorem Two.set {K : DK} {w : World} {p R G : Nat} {rv : Value} {cs : Array Value} {T U : TypeId} (h : Two K w p R G rv cs T U) (i : Nat) (v : Value) : Two K (w.setCell ⟨G, i, none⟩ v) p R G rv (cs.setIfInBounds i v) T U := by
  obtain ⟨h1, h2, h3, h4, h5, h6, h7, h8, h9, h10⟩ := h
  have hb : Bel w.heap.size [G] w (w.setCell ⟨G, i, none⟩ v) := (Bel.refl _ _ _).set (.inr (by simp)) _
  exact ⟨h1.bel hb (by simpa using Ne.symm h8) (by simpa using Ne.symm h9) (fun x hx => by simp at hx; subst hx; exact .inr h3), h2.cross h3 hb, h3.set (by simp) _, h4.bel hb h4.lt (by simpa using h10), h5.set i v, h6, h7, h8, h9, h10⟩
theorem Two.setR {K : DK} {w : World} {p R G : Nat} {rv : Value} {cs : Array Value} {T U : TypeId} (h : Two K w p R G rv cs T U) (v : Value) : Two K (w.setCell ⟨R, 0, none⟩ v) p R G v cs T U := by
  obtain ⟨h1, h2, h3, h4, h5, h6, h7, h8, h9, h10⟩ := h
  have hb : Bel w.heap.size [R] w (w.setCell ⟨R, 0, none⟩ v) := (Bel.refl _ _ _).set (.inr (by simp)) _
  exact ⟨h1.bel hb (by simpa using Ne.symm h6) (by simpa using Ne.symm h7) (fun x hx => by simp at hx; subst hx; exact .inr h2), h2.set (by simp) _, h3.cross h2 hb, (h4.set 0 v).cast (by simp), h5.bel hb h5.lt (by simpa using Ne.symm h10), h6, h7, h8, h9, h10⟩
theorem Two.drew {K : DK} {w : World} {p R G : Nat} {rv : Value} {cs : Array Value} {T U : TypeId} (h : Two K w p R G rv cs T U) (n : Nat) : Two K (w.drewN n) p R G rv cs T U := by
  obtain ⟨h1, h2, h3, h4, h5, h6, h7, h8, h9, h10⟩ := h
  have hb : Below w.heap.size w (w.drewN n) := ⟨rfl, rfl, rfl, Nat.le_refl _, fun _ _ => rfl⟩
  exact ⟨h1.below hb, h2.below hb, h3.below hb, h4.drewN n, h5.drewN n, h6, h7, h8, h9, h10⟩
theorem Two.drew1 {K : DK} {w : World} {p R G : Nat} {rv : Value} {cs : Array Value} {T U : TypeId} (h : Two K w p R G rv cs T U) : Two K w.drew p R G rv cs T U := by
  obtain ⟨h1, h2, h3, h4, h5, h6, h7, h8, h9, h10⟩ := h
  have hb : Below w.heap.size w w.drew := ⟨rfl, rfl, rfl, Nat.le_refl _, fun _ _ => rfl⟩
  exact ⟨h1.below hb, h2.below hb, h3.below hb, h4.drew, h5.drew, h6, h7, h8, h9, h10⟩
theorem Two.new {K : DK} {w w' : World} {p R : Nat} {rv : Value} {cs : Array Value} {T U : TypeId} (h : DecG K w p R #[rv] T) (hb : Below w.heap.size w w') (hG : Blk w' w.heap.size cs U) : Two K w' p R w.heap.size rv cs T U := by
  have h1 := h.d.dlt; have h2 := h.d.slt; have h3 := h.blk.lt
  refine ⟨h.d.below hb, h.rd.below hb, (h.d.b.rd.more (S' := [w.heap.size]) (fun x hx _ => by simp at hx; omega)).below hb, h.blk.below hb h.blk.lt, hG, h.n1, h.n2, by omega, by omega, by omega⟩
/-- The numbers that have been read stand in the row. -/
def Got (cs : Array Value) (ns : List Int) (i : Nat) : Prop := cs.size = ns.length ∧ ∀ j (h : j < ns.length), cs[j]? = some (.int .i32 (if j < i then ns[j] else 0))
theorem Got.set {cs : Array Value} {ns : List Int} {i : Nat} (h : Got cs ns i) (hi : i < ns.length) : Got (cs.setIfInBounds i (.int .i32 ns[i])) ns (i + 1) := by
  obtain ⟨h1, h2⟩ := h
  refine ⟨by simpa using h1, fun j hj => ?_⟩
  rw [Array.getElem?_setIfInBounds]
  by_cases e : i = j
  · subst e; simp [h1, hi]
  · rw [if_neg e, h2 j hj]
    by_cases k : j < i
    · rw [if_pos k, if_pos (by omega)]
    · rw [if_neg k, if_neg (by omega)]
/-- What decodeNumArg leaves. -/
def Nums (K : DK) (w : World) (R : Nat) (ns : List Int) (e : Ending) (w' : World) : Prop :=
  e = .returned .nilIface ∧ ∃ G cs, Blk w' R #[.slice (some ⟨G, 0, none⟩) ns.length ns.length] 147 ∧ Blk w' G cs 21 ∧ Got cs ns ns.length ∧ w.heap.size ≤ G ∧ Bel w.heap.size [K.d, K.sb, R] w w'
set_option maxRecDepth 100000 in
theorem decodeNums (K : DK) (R : Nat) (ns : List Int) (m : Int) (hm : m = ns.length) (w : World) (h : DecG K w 0 R #[.slice none 0 0] 147) (fit : 4 * ns.length ≤ K.xs.length) (hn : ns.length ≤ 1000)
    (hx : ∀ i (hi : i < ns.length), wrap32 (K.num (4 * i) 4) = ns[i]) :
    Calls Try.prog 72 #[.pointer (some ⟨R, 0, none⟩), .pointer (some ⟨K.d, 0, none⟩), .int .i64 m] w fun e w' => Nums K w R ns e w' := by
  have c0 : w.cell? ⟨R, 0, none⟩ = some (.slice none 0 0) := h.blk.cell 0 rfl
  have H := Hd.mk h; have HX := Hd.mk hx; have FIT := Hd.mk fit
  have hlt := h.blk.lt
  subst hm
  clear h hx fit
  go_enter Try.func72, Try.ntmps72
  go_wp2_with fail
  with_reducible refine (resize32 ns.length _ rfl (by omega) _).mono ?_
  rintro e w1 ⟨rfl, hb, hl, hs⟩
  have T0 := Hd.mk (Two.new H.out hl hb)
  have HB := Hd.mk (Bel.of (S := [K.d, K.sb, R]) hl)
  have d0 : w1.cell? ⟨R, 0, none⟩ = some (.slice none 0 0) := T0.out.bR.cell 0 rfl
  have g0 := T0.out.bR.free 0
  clear hb hl c0
  go_wp2
  go_loopw [7] (fun i wr => ∃ k : Nat, k ≤ ns.length ∧ i = .int .i64 k ∧ ∃ cs, Two K wr (4 * k) R w.heap.size (.slice (some ⟨w.heap.size, 0, none⟩) ns.length ns.length) cs 147 21 ∧ Got cs ns k ∧ Bel w.heap.size [K.d, K.sb, R] w wr) (fun i _ => ns.length - (intOf i).toNat)
  case atStart =>
    refine ⟨0, by omega, rfl, _, T0.out.setR _, ⟨by simp [zs_len], fun j hj => ?_⟩, HB.out.set (.inr (by simp)) _⟩
    rw [zs_get _ _ _ hj, if_neg (by omega)]
  case round =>
    obtain ⟨k, hk, rfl, cs, ht, hg, hb⟩ := hrel
    by_cases hlt : k < ns.length
    · have c0 : wr.cell? ⟨R, 0, none⟩ = some (.slice (some ⟨w.heap.size, 0, none⟩) ns.length ns.length) := ht.bR.cell 0 rfl
      have C := D_Int32 K (4 * k) wr.drew ht.d.drew (by have := FIT.out; omega)
      rw [HX.out k hlt] at C
      have hgk : cs[k]? = some (.int .i32 0) := by rw [hg.2 k hlt, if_neg (by omega)]
      have HGS := Hd.mk (hg.set hlt)
      have HT := Hd.mk ht.drew1; have HBW := Hd.mk hb.drew; have HK := Hd.mk hgk
      generalize ns[k] = y at *
      have C := Hd.mk C
      clear ht hg hb hgk
      go_wp2
      go_region_with (go_at_call 97; (with_reducible refine C.out.mono ?_); rintro e w2 ⟨rfl, hw⟩; have HT2 := Hd.mk (HT.out.went hw); have HB2 := Hd.mk hw.2; have e0 : w2.cell? ⟨R, 0, none⟩ = some (.slice (some ⟨w.heap.size, 0, none⟩) ns.length ns.length) := HT2.out.bR.cell 0 rfl; have e1 : w2.cell? ⟨w.heap.size, k, none⟩ = some (.int .i32 0) := HT2.out.bG.cell k HK.out; have f1 := HT2.out.bG.free k; clear hw)
      all_goals
        go_wp2
        go_roundw
        case rel =>
          refine ⟨k + 1, by omega, by go_num, _, HT2.out.set k _, HGS.out, ?_⟩
          exact ((HBW.out.then HB2.out HBW.out.size (fun x hx _ => by simp at hx ⊢; rcases hx with h | h <;> simp [h])).set (.inl (by simp)) _)
        case measure => simp [intOf]; omega
    · obtain rfl : k = ns.length := by omega
      have C := Hd.mk (D_Error K _ _ .nilIface wr ht.d.b)
      have HT := Hd.mk ht; have HG := Hd.mk hg; have HBW := Hd.mk hb
      clear ht hg hb
      go_wp2_with fail
      with_reducible refine C.out.mono ?_
      rintro e w2 ⟨rfl, rfl⟩
      go_wp2
      go_ret
      exact ⟨rfl, _, _, HT.out.bR, HT.out.bG, HG.out, Nat.le_refl _, HBW.out⟩
/-- The sum of the numbers that are not below 0. -/
def posSum : List Int → Int
  | [] => 0
  | x :: r => (if 0 < x then x else 0) + posSum r
theorem posSum_append (a b : List Int) : posSum (a ++ b) = posSum a + posSum b := by
  induction a with
  | nil => simp [posSum]
  | cons x r ih => simp [posSum, ih]; omega
theorem posSum_bound (ns : List Int) (h : ∀ x ∈ ns, -2147483648 ≤ x ∧ x ≤ 2147483647) : 0 ≤ posSum ns ∧ posSum ns ≤ 2147483647 * ns.length := by
  induction ns with
  | nil => simp [posSum]
  | cons x r ih =>
    have h1 := h x List.mem_cons_self
    have h2 := ih (fun y hy => h y (List.mem_cons_of_mem _ hy))
    rw [posSum, List.length_cons]
    split <;> omega
set_option maxRecDepth 100000 in
theorem total32 (G : Nat) (ns : List Int) (cs : Array Value) (w : World) (hn : ns.length ≤ 1000) (hi32 : ∀ x ∈ ns, -2147483648 ≤ x ∧ x ≤ 2147483647) (hG : Blk w G cs 21) (hg : Got cs ns ns.length) :
    Calls Try.prog 73 #[.agg #[.slice (some ⟨G, 0, none⟩) ns.length ns.length]] w fun e w' => e = .returned (.int .i64 (posSum ns)) ∧ Below w.heap.size w w' := by
  have hb := (Below.refl w.heap.size w).alloc (Nat.le_refl _) (.cells #[.slice (some ⟨G, 0, none⟩) ns.length ns.length] 147)
  have HG := Hd.mk (hG.alloc (.cells #[.slice (some ⟨G, 0, none⟩) ns.length ns.length] 147))
  have HGot := Hd.mk hg; have HB := Hd.mk hb; have HI := Hd.mk hi32
  clear hG hg hb hi32
  go_enter Try.func73, Try.ntmps73
  go_wp2
  obtain ⟨W, hW⟩ : ∃ W, W = w.alloc (.cells #[.slice (some ⟨G, 0, none⟩) ns.length ns.length] 147) := ⟨_, rfl⟩
  rw [← hW] at HG HB
  rw [← hW]
  clear hW
  go_loopw [3, 9] (fun v i wr => ∃ k : Nat, k ≤ ns.length ∧ i = .int .i64 k ∧ v = .int .i64 (posSum (ns.take k)) ∧ wr = W) (fun _ i _ => ns.length - (intOf i).toNat)
  case atStart => exact ⟨0, by omega, rfl, by simp [posSum], rfl⟩
  case round =>
    obtain ⟨k, hk, rfl, rfl, rfl⟩ := hrel
    by_cases hlt : k < ns.length
    · have c0 : wr.cell? ⟨G, k, none⟩ = some (.int .i32 ns[k]) := HG.out.cell k (by rw [HGot.out.2 k hlt, if_pos hlt])
      have hp := posSum_bound (ns.take k) (fun x hx => HI.out x (List.mem_of_mem_take hx))
      rw [List.length_take] at hp
      have hx := HI.out ns[k] (List.getElem_mem hlt)
      have er : posSum (ns.take (k + 1)) = posSum (ns.take k) + (if 0 < ns[k] then ns[k] else 0) := by
        rw [List.take_succ_eq_append_getElem hlt, posSum_append]; simp [posSum]
      have ER := Hd.mk er
      generalize ns[k] = x at *
      generalize posSum (ns.take k) = S at *
      obtain ⟨p0, p1⟩ := hp
      obtain ⟨x0, x1⟩ := hx
      have p2 : S ≤ 2147483647000 := by omega
      clear er p1
      by_cases hpos : 0 < x
      · go_wp2
        go_roundw
        case rel => exact ⟨k + 1, by omega, by go_num, by rw [ER.out, if_pos hpos], trivial⟩
        case measure => simp [intOf]; omega
      · go_wp2
        go_roundw
        case rel => exact ⟨k + 1, by omega, by go_num, by rw [ER.out, if_neg hpos]; simp, trivial⟩
        case measure => simp [intOf]; omega
    · obtain rfl : k = ns.length := by omega
      go_wp2
      go_ret
      exact ⟨by rw [List.take_length]; rfl, HB.out⟩
/-- What the reading of the numbers answers. -/
def RowsR (w : World) (S : List Nat) (ns : List Int) (last : Value) (e : Ending) (w' : World) : Prop :=
  ∃ G cs, e = .returned (.tuple #[.slice (some ⟨G, 0, none⟩) ns.length ns.length, .int .i64 (posSum ns), last]) ∧ Blk w' G cs 21 ∧ Got cs ns ns.length ∧ w.heap.size ≤ G ∧ Bel w.heap.size S w w'
set_option maxRecDepth 100000 in
theorem zzRows (K : DK) (ns : List Int) (m : Int) (hm : m = ns.length) (w : World) (h : Dec K w 0 .nilIface) (fit : 4 * ns.length ≤ K.xs.length) (hn : ns.length ≤ 1000) (hi32 : ∀ x ∈ ns, -2147483648 ≤ x ∧ x ≤ 2147483647)
    (hx : ∀ i (hi : i < ns.length), wrap32 (K.num (4 * i) 4) = ns[i]) :
    Calls Try.prog 46 #[.pointer (some ⟨K.d, 0, none⟩), .int .i64 m] w fun e w' => RowsR w [K.d, K.sb] ns .nilIface e w' := by
  have hb := (Below.refl w.heap.size w).alloc (Nat.le_refl _) (.cells #[.slice none 0 0] 147)
  have C := Hd.mk (decodeNums K w.heap.size ns m hm _ (DecG.new h #[.slice none 0 0] 147) fit hn hx)
  have HB := Hd.mk hb; have HI := Hd.mk hi32
  clear h fit hx hb hi32 hm
  go_enter Try.func46, Try.ntmps46
  go_wp2_with fail
  with_reducible refine C.out.mono ?_
  rintro e w1 ⟨rfl, G, cs, hR, hG, hg, hge, hb⟩
  have c0 : w1.cell? ⟨w.heap.size, 0, none⟩ = some (.slice (some ⟨G, 0, none⟩) ns.length ns.length) := hR.cell 0 rfl
  have C2 := Hd.mk (total32 G ns cs w1.drew hn HI.out hG.drew hg)
  have HG := Hd.mk hG; have HGot := Hd.mk hg; have HGE := Hd.mk hge
  have HB2 := Hd.mk ((Bel.of (S := [K.d, K.sb]) HB.out).then hb (by simp) (fun x hx hlt => by simp at hx ⊢; rcases hx with h | h | h <;> simp [h]; omega))
  have HR := Hd.mk hR
  clear hR hG hg hge hb C HB
  go_wp2
  go_region_with (go_at_call 73; (with_reducible refine C2.out.mono ?_); rintro e w2 ⟨rfl, hb⟩; have H2 := Hd.mk hb; have d0 : w2.cell? ⟨w.heap.size, 0, none⟩ = some (.slice (some ⟨G, 0, none⟩) ns.length ns.length) := (HR.out.drew.below hb HR.out.lt).cell 0 rfl; clear hb)
  all_goals
    go_wp2
    refine bodyPost_ret (v := .tuple #[.slice (some ⟨G, 0, none⟩) ns.length ns.length, .int .i64 (posSum ns), .nilIface]) (by simp [results, Try.results46, go_sem]) rfl ⟨G, cs, rfl, HG.out.drew.below H2.out HG.out.lt, HGot.out, ?_, ?_⟩
    · have := HGE.out; simp at this; omega
    · exact HB2.out.drew.trans (Bel.of (H2.out.mono HB2.out.size))
end Go.Proofs.Ytbohjafchfeheaa.Kb
