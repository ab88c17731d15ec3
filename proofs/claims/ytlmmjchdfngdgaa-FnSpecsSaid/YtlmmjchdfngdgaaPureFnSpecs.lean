/- The law FnSpecs answers true: a spec is its mask, and each documented spec has its documented number of bytes. Conditions: none; every number of 16 bits. -/
import Derived.Test.YtlmmjchdfngdgaaPFnSpecsx1
namespace Go.Proofs.Ytlmmjchdfngdgaa.Pure
open Go.RowKit Go.Proofs.Ytlmmjchdfngdgaa.PFnSpecs Go.Proofs.YtlmmjchdfngdgaaW.PrintWords Go.Proofs.YtlmmjchdfngdgaaW.PrintLast

theorem FnSpecs : laws_FnSpecs.Pure := by
  intro a0 _
  refine ⟨1, ?_⟩
  unfold laws_FnSpecs.f impl_SpecMask.f spec_Mask.f impl_SpecSize.f reg_Spec_Mask.f spec_Width.f
  by_cases h0 : a0 = 0
  · subst h0; decide
  by_cases h1 : a0 = 1
  · subst h1; decide
  by_cases h2 : a0 = 2
  · subst h2; decide
  by_cases h3 : a0 = 3
  · subst h3; decide
  by_cases h4 : a0 = 7
  · subst h4; decide
  by_cases h5 : a0 = 15
  · subst h5; decide
  by_cases h6 : a0 = 31
  · subst h6; decide
  by_cases h7 : a0 = 63
  · subst h7; decide
  by_cases h8 : a0 = 127
  · subst h8; decide
  have e : (a0 == 2) = false := by simpa using h2
  simp [spec_Width.j0, h0, h1, h3, h4, h5, h6, h7, h8, e]

end Go.Proofs.Ytlmmjchdfngdgaa.Pure
