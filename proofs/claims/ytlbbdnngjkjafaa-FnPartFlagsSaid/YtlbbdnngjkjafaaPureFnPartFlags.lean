/- Bit 0 of the attributes of a part says that it is the last packet, bit 4 that the results are closed: the law FnPartFlags answers true for every number of 8 bits. No condition. -/
import Derived.Test.YtlbbdnngjkjafaaPFnPartFlagsx1
namespace Go.Proofs.Ytlbbdnngjkjafaa.Pure
open Go.RowKit Go.Proofs.Ytlbbdnngjkjafaa.PFnPartFlags Go.Proofs.YtlbbdnngjkjafaaW.PrintWords Go.Proofs.YtlbbdnngjkjafaaW.PrintLast

/-- YOURS: ∀ (a0 : Int), (Lit.int .i8 a0).wf = true → laws_FnPartFlags.f a0 = some true
What it reaches (each with k first where it has rounds; `.mono`: more rounds tell the same; `.l0`, ..: its loops, with `.mono_l`): protocol_PartAttributes_ResultsetClosed.f, protocol_PartAttributes_LastPacket.f, protocol_ZzAttributes.f, impl_PartFlags.f, laws_FnPartFlags.f -/
theorem FnPartFlags : laws_FnPartFlags.Pure := by
  intro a ha
  have hb : -128 ≤ a ∧ a ≤ 127 := by simpa [Lit.wf, IntKind.min, IntKind.max, IntKind.signed, IntKind.bits] using ha
  have key : ∀ n : Fin 256, laws_FnPartFlags.f (((n : Nat) : Int) - 128) = some true := by decide +kernel
  have h := key ⟨(a + 128).toNat, by omega⟩
  have e : (((a + 128).toNat : Nat) : Int) - 128 = a := by omega
  rwa [e] at h

end Go.Proofs.Ytlbbdnngjkjafaa.Pure
