/- The Decoder's other methods: Int8, Bool, Skip, Error, Cnt, ZzRoom, Bytes. -/
import Derived.Test.YtjikodjljocpmaaDecM
namespace Go.Proofs.Ytjikodjljocpmaa.Kb
open Go Go.RowKit
set_option linter.unusedVariables false
set_option linter.unusedSimpArgs false
set_option maxHeartbeats 1000000
/-- A Decoder and a struct in block g that it is read into. -/
structure DecG (K : DK) (w : World) (p g : Nat) (cs : Array Value) (T : TypeId) : Prop where
  d : Dec K w p .nilIface
  rd : Rd w [g] K.ra K.xs.length K.xs
  blk : Blk w g cs T
  n1 : g ≠ K.d
  n2 : g ≠ K.sb
theorem DecG.went {K : DK} {w w' : World} {p k g : Nat} {cs : Array Value} {T : TypeId} (h : DecG K w p g cs T) (hw : Went K w p k w') : DecG K w' (p + k) g cs T := by
  obtain ⟨h1, h2, h3, h4, h5⟩ := h
  refine ⟨hw.1, ?_, h3.bel hw.2 h3.lt (by simp [h4, h5]), h4, h5⟩
  exact ((h1.b.rd.join h2).bel (hw.2.weak (Nat.le_refl _) (fun x hx _ => List.mem_append_left _ hx))).sub (fun x hx => List.mem_append_right _ hx)
theorem DecG.set {K : DK} {w : World} {p g : Nat} {cs : Array Value} {T : TypeId} (h : DecG K w p g cs T) (i : Nat) (v : Value) : DecG K (w.setCell ⟨g, i, none⟩ v) p g (cs.setIfInBounds i v) T := by
  obtain ⟨h1, h2, h3, h4, h5⟩ := h
  have hb : Bel w.heap.size [g] w (w.setCell ⟨g, i, none⟩ v) := (Bel.refl _ _ _).set (.inr (by simp)) _
  exact ⟨h1.bel hb (by simpa using Ne.symm h4) (by simpa using Ne.symm h5) (fun x hx => by simp at hx; subst hx; exact .inr h2), h2.set (by simp) _, h3.set i v, h4, h5⟩
theorem DecG.bel {K : DK} {w w' : World} {p g : Nat} {cs : Array Value} {T : TypeId} (h : DecG K w p g cs T) (hb : Below w.heap.size w w') : DecG K w' p g cs T :=
  ⟨h.d.below hb, h.rd.below hb, h.blk.below hb h.blk.lt, h.n1, h.n2⟩
/-- A new struct beside a Decoder. -/
theorem DecG.new {K : DK} {w : World} {p : Nat} (h : Dec K w p .nilIface) (cs : Array Value) (T : TypeId) : DecG K (w.alloc (.cells cs T)) p w.heap.size cs T := by
  have hb : Below w.heap.size w (w.alloc (.cells cs T)) := (Below.refl _ _).alloc (Nat.le_refl _) _
  refine ⟨h.below hb, (h.b.rd.more (S' := [w.heap.size]) (fun x hx _ => by simp at hx; omega)).below hb, Blk.new _ _ _, ?_, ?_⟩
  · have := h.dlt; omega
  · have := h.slt; omega
theorem DecG.cast {K : DK} {w : World} {p g : Nat} {cs cs' : Array Value} {T : TypeId} (h : DecG K w p g cs T) (e : cs = cs') : DecG K w p g cs' T := e ▸ h
theorem Dec.drew {K : DK} {w : World} {p : Nat} {er : Value} (h : Dec K w p er) : Dec K w.drew p er := h.below ((Below.refl _ _).drew)
set_option maxRecDepth 100000 in
theorem D_Error (K : DK) (p c : Nat) (er : Value) (w : World) (h : DecB K w p c er) :
    Calls Try.prog 32 #[.pointer (some ⟨K.d, 0, none⟩)] w fun e w' => e = .returned er ∧ w = w' := by
  have c2 : w.cell? ⟨K.d, 2, none⟩ = some er := h.blk.cell 2 rfl
  clear h
  go_enter Try.func32, Try.ntmps32
  go_wp2
  go_ret
  exact ⟨rfl, rfl⟩
end Go.Proofs.Ytjikodjljocpmaa.Kb
