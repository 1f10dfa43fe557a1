/- The Decoder's other methods: Int8, Bool, Skip, Error, Cnt, ZzRoom, Bytes. -/
import Derived.Test.YtmgckcngedpgoaaDoorDecM
namespace Go.Proofs.YtmgckcngedpgoaaDoor.Kb
open Go Go.RowKit
set_option linter.unusedVariables false
set_option linter.unusedSimpArgs false
set_option maxHeartbeats 1000000
/-- A Decoder and a struct in block g that it is read into. -/
structure DecG (K : DK) (w : World) (p g : Nat) (cs : Array Value) (T : TypeId) : Prop where
  d : Dec K w p .nilIface
  rd : Rd w [g] K.ra K.xs.length K.xs
  blk : Blk w g cs T
  n1 : g ≠ K.d
  n2 : g ≠ K.sb
theorem DecG.went {K : DK} {w w' : World} {p k g : Nat} {cs : Array Value} {T : TypeId} (h : DecG K w p g cs T) (hw : Went K w p k w') : DecG K w' (p + k) g cs T := by
  obtain ⟨h1, h2, h3, h4, h5⟩ := h
  refine ⟨hw.1, ?_, h3.bel hw.2 h3.lt (by simp [h4, h5]), h4, h5⟩
  exact ((h1.b.rd.join h2).bel (hw.2.weak (Nat.le_refl _) (fun x hx _ => List.mem_append_left _ hx))).sub (fun x hx => List.mem_append_right _ hx)
theorem DecG.set {K : DK} {w : World} {p g : Nat} {cs : Array Value} {T : TypeId} (h : DecG K w p g cs T) (i : Nat) (v : Value) : DecG K (w.setCell ⟨g, i, none⟩ v) p g (cs.setIfInBounds i v) T := by
  obtain ⟨h1, h2, h3, h4, h5⟩ := h
  have hb : Bel w.heap.size [g] w (w.setCell ⟨g, i, none⟩ v) := (Bel.refl _ _ _).set (.inr (by simp)) _
  exact ⟨h1.bel hb (by simpa using Ne.symm h4) (by simpa using Ne.symm h5) (fun x hx => by simp at hx; subst hx; exact .inr h2), h2.set (by simp) _, h3.set i v, h4, h5⟩
theorem DecG.bel {K : DK} {w w' : World} {p g : Nat} {cs : Array Value} {T : TypeId} (h : DecG K w p g cs T) (hb : Below w.heap.size w w') : DecG K w' p g cs T :=
  ⟨h.d.below hb, h.rd.below hb, h.blk.below hb h.blk.lt, h.n1, h.n2⟩
/-- A new struct beside a Decoder. -/
theorem DecG.new {K : DK} {w : World} {p : Nat} (h : Dec K w p .nilIface) (cs : Array Value) (T : TypeId) : DecG K (w.alloc (.cells cs T)) p w.heap.size cs T := by
  have hb : Below w.heap.size w (w.alloc (.cells cs T)) := (Below.refl _ _).alloc (Nat.le_refl _) _
  refine ⟨h.below hb, (h.b.rd.more (S' := [w.heap.size]) (fun x hx _ => by simp at hx; omega)).below hb, Blk.new _ _ _, ?_, ?_⟩
  · have := h.dlt; omega
  · have := h.slt; omega
theorem DecG.cast {K : DK} {w : World} {p g : Nat} {cs cs' : Array Value} {T : TypeId} (h : DecG K w p g cs T) (e : cs = cs') : DecG K w p g cs' T := e ▸ h
theorem Dec.drew {K : DK} {w : World} {p : Nat} {er : Value} (h : Dec K w p er) : Dec K w.drew p er := h.below ((Below.refl _ _).drew)
set_option maxRecDepth 100000 in
theorem D_Int8 (K : DK) (p : Nat) (w : World) (h : Dec K w p .nilIface) (fit : p + 1 ≤ K.xs.length) :
    Calls Tryd.prog 49 #[.pointer (some ⟨K.d, 0, none⟩)] w fun e w' => e = .returned (.int .i8 (IntKind.i8.wrap (K.num p 1))) ∧ Went K w p 1 w' := by
  have C := D_Byte K p w h fit
  have HC := Hd.mk C
  clear C h
  go_enter Tryd.func49, Tryd.ntmps49
  go_wp2_with fail
  with_reducible refine HC.out.mono ?_
  rintro e w2 ⟨rfl, hb⟩
  have HB2 := Hd.mk hb
  clear hb
  go_wp2
  go_ret
  exact ⟨by simp [go_sem], HB2.out⟩
set_option maxRecDepth 100000 in
theorem D_Error (K : DK) (p c : Nat) (er : Value) (w : World) (h : DecB K w p c er) :
    Calls Tryd.prog 55 #[.pointer (some ⟨K.d, 0, none⟩)] w fun e w' => e = .returned er ∧ w = w' := by
  have c2 : w.cell? ⟨K.d, 2, none⟩ = some er := h.blk.cell 2 rfl
  clear h
  go_enter Tryd.func55, Tryd.ntmps55
  go_wp2
  go_ret
  exact ⟨rfl, rfl⟩
set_option maxRecDepth 100000 in
theorem D_Cnt (K : DK) (p c : Nat) (er : Value) (w : World) (h : DecB K w p c er) :
    Calls Tryd.prog 21 #[.pointer (some ⟨K.d, 0, none⟩)] w fun e w' => e = .returned (.int .i64 c) ∧ w = w' := by
  have c5 : w.cell? ⟨K.d, 5, none⟩ = some (.int .i64 c) := h.blk.cell 5 rfl
  clear h
  go_enter Tryd.func21, Tryd.ntmps21
  go_wp2
  go_ret
  exact ⟨rfl, rfl⟩
set_option maxRecDepth 100000 in
theorem D_ZzRoom (K : DK) (p c : Nat) (er : Value) (w : World) (h : DecB K w p c er) (n : Int) (r : Int) (hr : r = if n ≤ (K.xs.length : Int) - p + 1 then n else (K.xs.length : Int) - p + 1) :
    Calls Tryd.prog 51 #[.pointer (some ⟨K.d, 0, none⟩), .int .i64 n] w fun e w' => e = .returned (.int .i64 r) ∧ ∃ m, w' = w.drewN m := by
  have c0 : w.cell? ⟨K.d, 0, none⟩ = some (.slice K.ra K.xs.length K.rc) := h.blk.cell 0 rfl
  have c1 : w.cell? ⟨K.d, 1, none⟩ = some (.int .i64 p) := h.blk.cell 1 rfl
  have hm : K.xs.length ≤ 140737488351232 := h.rd.small
  have hle : p ≤ K.xs.length := h.le
  have HR := Hd.mk hr
  clear h hr
  go_enter Tryd.func51, Tryd.ntmps51
  go_wp2
  go_quiet (fail)
  go_wp2
  · go_ret
    exact ⟨by rw [HR.out, if_neg (by omega)]; rfl, _, rfl⟩
  · go_ret
    exact ⟨by rw [HR.out, if_pos (by omega)]; rfl, _, rfl⟩
set_option maxRecDepth 100000 in
theorem D_Bytes (K : DK) (p c : Nat) (w : World) (h : DecB K w p c .nilIface) (g : Nat) (cur : List Value) (t : TypeId) (hg : Blk w g cur.toArray t) (hgd : g ≠ K.d) (hgx : Rd w [g] K.ra K.xs.length K.xs)
    (k kc : Nat) (ba : Option Addr) (hba : 0 < k → ba = some ⟨g, 0, none⟩) (hk : k ≤ cur.length) (fit : p + k ≤ K.xs.length) (hc : c + k ≤ 4000000000000000000) :
    Calls Tryd.prog 50 #[.pointer (some ⟨K.d, 0, none⟩), .slice ba k kc] w fun e w' => e = .returned (.tuple #[]) ∧ ReadTo K w p c k g cur t w' := by
  have C := Hd.mk (readFull_ok K p c w h g cur t hg hgd hgx k kc ba hba hk fit hc)
  clear h hg hgx hba
  go_enter Tryd.func50, Tryd.ntmps50
  go_wp2_with fail
  with_reducible refine C.out.mono ?_
  rintro e w2 ⟨rfl, hb⟩
  have HB2 := Hd.mk hb
  clear hb
  go_wp2
  go_end0
  exact ⟨rfl, HB2.out⟩
set_option maxRecDepth 100000 in
theorem D_Skip (K : DK) (p k : Nat) (m : Int) (w : World) (hm : m = k) (h : Dec K w p .nilIface) (k0 : 0 < k) (hk : k ≤ 4096) (fit : p + k ≤ K.xs.length) :
    Calls Tryd.prog 53 #[.pointer (some ⟨K.d, 0, none⟩), .int .i64 m] w fun e w' => e = .returned (.tuple #[]) ∧ Went K w p k w' := by
  subst hm
  obtain ⟨Z, hz, hZ⟩ := h.sc
  have hl : K.xs.length ≤ 140737488351232 := h.b.rd.small
  have c3 : w.cell? ⟨K.d, 3, none⟩ = some (.slice (some ⟨K.sb, 0, none⟩) 4096 4096) := h.b.blk.cell 3 rfl
  have C := Hd.mk (readFull_ok K p p _ h.b K.sb Z 5 hZ (Ne.symm h.b.ne) (h.b.rd.sub (by simp)) k 4096 _ (fun _ => rfl) (by omega) fit (by omega))
  have H := Hd.mk h; have HZ := Hd.mk hZ; have HZ2 := Hd.mk hz
  clear h hZ hz
  go_enter Tryd.func53, Tryd.ntmps53
  go_wp2_with fail
  refine wp_loop_rounds 2 ?_
  rw [rounds_succ]
  go_wp2_with fail
  with_reducible refine C.out.mono ?_
  rintro e w1 ⟨rfl, hr⟩
  have HR := Hd.mk hr
  clear hr C c3
  go_wp2_with fail
  rw [rounds_succ]
  go_wp2
  go_end0
  exact ⟨rfl, went_of HZ2.out H.out (by omega) HR.out (Below.refl _ _) fit⟩
end Go.Proofs.YtmgckcngedpgoaaDoor.Kb
