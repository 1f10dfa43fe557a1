/- impl.Cesu8Bytes. -/
import Derived.Test.YtmgckcngedpgoaaDoorTxE
import Derived.Defers
import Derived.Recover
namespace Go.Proofs.YtmgckcngedpgoaaDoor.Kb
open Go Go.RowKit
set_option linter.unusedVariables false
set_option linter.unusedSimpArgs false
set_option maxHeartbeats 2000000
/-- What makes an Encoder or a Decoder answers. -/
def NewT (T S : TypeId) (w : World) (e : Ending) (w' : World) : Prop := ∃ p, e = .returned (.iface T (.pointer (some ⟨p, 0, none⟩))) ∧ Blk w' p #[.nilFunc] S ∧ w.heap.size ≤ p ∧ Below w.heap.size w w'
def NewP (S : TypeId) (w : World) (e : Ending) (w' : World) : Prop := ∃ p, e = .returned (.pointer (some ⟨p, 0, none⟩)) ∧ Blk w' p #[.nilFunc] S ∧ w.heap.size ≤ p ∧ Below w.heap.size w w'
set_option maxRecDepth 100000 in
theorem newEnc (w : World) : Calls Tryd.prog 72 #[.nilFunc] w fun e w' => NewP 139 w e w' := by
  go_enter Tryd.func72, Tryd.ntmps72
  go_wp2
  go_ret
  exact ⟨_, rfl, Blk.new _ _ _, Nat.le_refl _, (Below.refl _ _).alloc (Nat.le_refl _) _⟩
set_option maxRecDepth 100000 in
theorem newDec (w : World) : Calls Tryd.prog 63 #[.nilFunc] w fun e w' => NewP 128 w e w' := by
  go_enter Tryd.func63, Tryd.ntmps63
  go_wp2
  go_ret
  exact ⟨_, rfl, Blk.new _ _ _, Nat.le_refl _, (Below.refl _ _).alloc (Nat.le_refl _) _⟩
set_option maxRecDepth 100000 in
theorem dfltEnc (w : World) : Calls Tryd.prog 60 #[] w fun e w' => NewP 139 w e w' := by
  have C := Hd.mk (newEnc w)
  go_enter Tryd.func60, Tryd.ntmps60
  go_wp2_with fail
  with_reducible refine C.out.mono ?_
  rintro e w2 ⟨p, rfl, h1, h2, h3⟩
  have H := Hd.mk (And.intro h1 (And.intro h2 h3))
  clear h1 h2 h3 C
  go_wp2
  go_ret
  exact ⟨p, rfl, H.out⟩
set_option maxRecDepth 100000 in
theorem dfltDec (w : World) : Calls Tryd.prog 47 #[] w fun e w' => NewP 128 w e w' := by
  have C := Hd.mk (newDec w)
  go_enter Tryd.func47, Tryd.ntmps47
  go_wp2_with fail
  with_reducible refine C.out.mono ?_
  rintro e w2 ⟨p, rfl, h1, h2, h3⟩
  have H := Hd.mk (And.intro h1 (And.intro h2 h3))
  clear h1 h2 h3 C
  go_wp2
  go_ret
  exact ⟨p, rfl, H.out⟩
set_option maxRecDepth 100000 in
theorem ifcEnc (w : World) : Calls Tryd.prog 43 #[] w fun e w' => NewT 106 139 w e w' := by
  have C := Hd.mk (dfltEnc w)
  go_enter Tryd.func43, Tryd.ntmps43
  go_wp2_with fail
  with_reducible refine C.out.mono ?_
  rintro e w2 ⟨p, rfl, h1, h2, h3⟩
  have H := Hd.mk (And.intro h1 (And.intro h2 h3))
  clear h1 h2 h3 C
  go_wp2
  go_ret
  exact ⟨p, rfl, H.out⟩
set_option maxRecDepth 100000 in
theorem ifcDec (w : World) : Calls Tryd.prog 30 #[] w fun e w' => NewT 92 128 w e w' := by
  have C := Hd.mk (dfltDec w)
  go_enter Tryd.func30, Tryd.ntmps30
  go_wp2_with fail
  with_reducible refine C.out.mono ?_
  rintro e w2 ⟨p, rfl, h1, h2, h3⟩
  have H := Hd.mk (And.intro h1 (And.intro h2 h3))
  clear h1 h2 h3 C
  go_wp2
  go_ret
  exact ⟨p, rfl, H.out⟩
end Go.Proofs.YtmgckcngedpgoaaDoor.Kb
