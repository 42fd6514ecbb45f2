/- For each layout from 0 to 10^6 the package's stride is the reference's, and the stride of XYZM is 4: the pure statement of FnStride, for every integer. -/
import Derived.Test.YtcppjdjimmnlkaaPFnStridex1
namespace Go.Proofs.Ytcppjdjimmnlkaa.Pure
open Go.RowKit Go.Proofs.Ytcppjdjimmnlkaa.PFnStride Go.Proofs.YtcppjdjimmnlkaaW.PrintWords Go.Proofs.YtcppjdjimmnlkaaW.PrintLast

/-- What the package answers is what the reference answers. -/
theorem stride_same (a : Int) (h : 0 ≤ a) : gogeom_Layout_Stride.f a = spec_Stride.f a := by
  unfold gogeom_Layout_Stride.f spec_Stride.f
  by_cases h0 : a = 0
  · subst h0; rfl
  · rw [if_neg h0, if_neg (show ¬ a < 1 by omega)]
    by_cases h1 : a = 1
    · subst h1; rfl
    · rw [if_neg h1, if_neg h1]
      by_cases h2 : a = 2
      · subst h2; rfl
      · rw [if_neg h2, if_neg h2]
        by_cases h3 : a = 3
        · subst h3; rfl
        · rw [if_neg h3, if_neg h3]
          by_cases h4 : a = 4
          · subst h4; rfl
          · rw [if_neg h4]

theorem stride_tells (a : Int) : ∃ r, spec_Stride.f a = some r := by
  unfold spec_Stride.f
  repeat' split
  all_goals exact ⟨_, rfl⟩

/-- For each layout the two strides are one. -/
theorem FnStride : laws_FnStride.Pure := by
  intro a0 _
  unfold laws_FnStride.f
  by_cases h0 : a0 < 0
  · rw [if_pos h0]
  · rw [if_neg h0]
    by_cases h1 : a0 > 1000000
    · rw [if_pos h1]
    · rw [if_neg h1]
      obtain ⟨r, hr⟩ := stride_tells a0
      unfold impl_Stride.f
      rw [stride_same a0 (by omega), hr]
      simp [gogeom_Layout_Stride.f]

end Go.Proofs.Ytcppjdjimmnlkaa.Pure
