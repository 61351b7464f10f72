/- Whatever numbers come in: 16 and 32 bit numbers have their bytes the other way round, and a length from 0 to 2^40 goes up to the next multiple of four. -/
import Derived.Test.YtbogknjgjbhagaaPFnSwapx1
import Derived.Test.YtbogknjgjbhagaaBits
namespace Go.Proofs.Ytbogknjgjbhagaa.Pure
open Go.RowKit Go.Proofs.Ytbogknjgjbhagaa.PFnSwap Go.Proofs.YtbogknjgjbhagaaW.PrintWords Go.Proofs.YtbogknjgjbhagaaW.PrintLast

theorem align_is (x : Int) (h0 : 0 ≤ x) (h1 : x ≤ 1099511627776) : vnl_nlmAlignOf.f x = some ((x + 3) / 4 * 4) := by
  unfold vnl_nlmAlignOf.f
  have e1 : wrap64 (wrap64 (x + 4) - 1) = x + 3 := by unfold wrap64; omega
  rw [e1, and_m4 (x + 3) (by omega) (by omega)]

theorem works_is : laws_works.f = some true := by
  unfold laws_works.f impl_Align.f vnl_ZZAlign.f
  rw [align_is 5 (by omega) (by omega)]
  rfl

theorem FnSwap : laws_FnSwap.Pure := by
  intro a0 a1 a2 w0 w1 w2
  have b0 : 0 ≤ a0 ∧ a0 < 65536 := by
    have h := w0; simp only [Lit.wf, Bool.and_eq_true, decide_eq_true_eq] at h
    have hmin : IntKind.u16.min = 0 := rfl
    have hmax : IntKind.u16.max = 65535 := rfl
    omega
  have b1 : 0 ≤ a1 ∧ a1 < 4294967296 := by
    have h := w1; simp only [Lit.wf, Bool.and_eq_true, decide_eq_true_eq] at h
    have hmin : IntKind.u32.min = 0 := rfl
    have hmax : IntKind.u32.max = 4294967295 := rfl
    omega
  refine ⟨1, ?_⟩
  unfold laws_FnSwap.f
  by_cases c : a2 < 0
  · rw [if_pos c]; simp only [laws_FnSwap.j0]; rw [if_pos trivial, works_is]; rfl
  · rw [if_neg c]; simp only [laws_FnSwap.j0]
    by_cases d : a2 > 1099511627776
    · rw [decide_eq_true d, if_pos rfl, works_is]; rfl
    · rw [decide_eq_false d, if_neg (by decide)]
      unfold impl_Swap16.f vnl_Swap16.f impl_Swap32.f vnl_Swap32.f impl_Align.f vnl_ZZAlign.f spec_Align.f
      rw [align_is a2 (by omega) (by omega), works_is]
      simp only [Option.bind_some]
      rw [if_pos (swap16 a0 b0.1 b0.2), if_pos (swap32 a1 b1.1 b1.2)]
      have e : wrap64 (wrap64 ((wrap64 (a2 + 3)).tdiv 4) * 4) = (a2 + 3) / 4 * 4 := by
        have e1 : wrap64 (a2 + 3) = a2 + 3 := by unfold wrap64; omega
        rw [e1, Int.tdiv_eq_ediv_of_nonneg (by omega)]
        unfold wrap64; omega
      rw [e, if_pos rfl]

end Go.Proofs.Ytbogknjgjbhagaa.Pure
