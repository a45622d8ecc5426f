/- FnClamped's plain law: what the walk computes is true for every three numbers; no conditions. -/
import Derived.Test.YtlhhokgonhpkhaaPFnClampedx1
namespace Go.Proofs.Ytlhhokgonhpkhaa.Pure
open Go.RowKit Go.Proofs.Ytlhhokgonhpkhaa.PFnClamped Go.Proofs.YtlhhokgonhpkhaaW.PrintWords Go.Proofs.YtlhhokgonhpkhaaW.PrintLast

theorem FnClamped : laws_FnClamped.Pure := by
  intro a0 a1 a2 _ _ _
  simp only [laws_FnClamped.f, impl_Clamp.f, lo_Clamp_int.f, spec_Clamp.f, mn, mx]
  by_cases h : a1 > a2
  · simp [h]
  · by_cases h1 : a0 < a1
    · have : ¬ a1 > a2 := h
      have h3 : ¬ a0 ≥ a1 := by omega
      simp [h, h1]
    · by_cases h2 : a0 > a2
      · simp [h, h1, h2]
      · simp [h, h1, h2]
        split <;> simp_all <;> omega

end Go.Proofs.Ytlhhokgonhpkhaa.Pure
