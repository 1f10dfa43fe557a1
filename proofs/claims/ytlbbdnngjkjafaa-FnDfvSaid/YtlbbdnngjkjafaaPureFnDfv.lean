/- The versions of the data format that are supported are 1, 4, 6 and 8: the law FnDfv answers true for every number. No condition. -/
import Derived.Test.YtlbbdnngjkjafaaPFnDfvx1
namespace Go.Proofs.Ytlbbdnngjkjafaa.Pure
open Go.RowKit Go.Proofs.Ytlbbdnngjkjafaa.PFnDfv Go.Proofs.YtlbbdnngjkjafaaW.PrintWords Go.Proofs.YtlbbdnngjkjafaaW.PrintLast

/-- YOURS: ∀ (a0 : Int), (Lit.int .i64 a0).wf = true → laws_FnDfv.f a0 = some true
What it reaches (each with k first where it has rounds; `.mono`: more rounds tell the same; `.l0`, ..: its loops, with `.mono_l`): protocol_IsSupportedDfv.f, impl_DfvSupported.f, laws_FnDfv.f -/
theorem FnDfv : laws_FnDfv.Pure := by
  intro a _
  unfold laws_FnDfv.f impl_DfvSupported.f protocol_IsSupportedDfv.f
  by_cases h1 : a = 1
  · subst h1; rfl
  · by_cases h4 : a = 4
    · subst h4; rfl
    · by_cases h6 : a = 6
      · subst h6; rfl
      · simp [h1, h4, h6]

end Go.Proofs.Ytlbbdnngjkjafaa.Pure
