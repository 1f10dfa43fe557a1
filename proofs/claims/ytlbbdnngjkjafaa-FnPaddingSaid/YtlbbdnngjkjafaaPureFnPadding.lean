/- A part is filled up to a multiple of eight bytes: the law FnPadding answers true for every number. No condition. -/
import Derived.Test.YtlbbdnngjkjafaaPFnPaddingx1
namespace Go.Proofs.Ytlbbdnngjkjafaa.Pure
open Go.RowKit Go.Proofs.Ytlbbdnngjkjafaa.PFnPadding Go.Proofs.YtlbbdnngjkjafaaW.PrintWords Go.Proofs.YtlbbdnngjkjafaaW.PrintLast

/-- YOURS: ∀ (a0 : Int), (Lit.int .i64 a0).wf = true → laws_FnPadding.f a0 = some true
What it reaches (each with k first where it has rounds; `.mono`: more rounds tell the same; `.l0`, ..: its loops, with `.mono_l`): protocol_padBytes.f, protocol_ZzPadding.f, impl_Padding.f, laws_FnPadding.f -/
theorem FnPadding : laws_FnPadding.Pure := by
  intro a ha
  unfold laws_FnPadding.f
  have hu : 0 ≤ IntKind.u64.wrap a := by simp only [IntKind.wrap_u64]; omega
  obtain ⟨n, hn⟩ : ∃ n, n = wrap64 (Int.tmod (IntKind.u64.wrap a) 1099511627776) := ⟨_, rfl⟩
  have hn1 : 0 ≤ n ∧ n < 1099511627776 := by
    rw [Int.tmod_eq_emod_of_nonneg hu] at hn
    unfold wrap64 at hn
    omega
  rw [← hn]
  clear hn hu
  have hm : Int.tmod n 8 = n % 8 := Int.tmod_eq_emod_of_nonneg hn1.1
  have h1 : impl_Padding.f 1 = some 7 := by decide +kernel
  have h2 : impl_Padding.f n = some ((8 - n % 8) % 8) := by
    unfold impl_Padding.f protocol_ZzPadding.f protocol_padBytes.f
    have hx : mx n 0 = n := by unfold mx; omega
    rw [hx, hm]
    by_cases h0 : n % 8 = 0
    · rw [if_pos h0]; simp [h0]
    · rw [if_neg h0]; simp only [Option.bind_some]; unfold wrap64; congr 1; omega
  rw [h1, h2, hm]
  simp only [Option.bind_some]
  have h3 : wrap64 (8 - n % 8) = 8 - n % 8 := by unfold wrap64; omega
  rw [h3, Int.tmod_eq_emod_of_nonneg (by omega), if_pos rfl]
  rfl

end Go.Proofs.Ytlbbdnngjkjafaa.Pure
