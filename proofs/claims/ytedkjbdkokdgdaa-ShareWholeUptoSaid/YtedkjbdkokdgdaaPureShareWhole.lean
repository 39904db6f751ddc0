/- The walk's function answers true for every argument that is small. Condition: the statement's own bound on sizes. -/
import Derived.Test.YtedkjbdkokdgdaaReadShareWhole
namespace Go.Proofs.Ytedkjbdkokdgdaa.Pure
set_option linter.unusedVariables false
open Go Go.RowKit Go.Proofs.Ytedkjbdkokdgdaa.QL Go.Proofs.Ytedkjbdkokdgdaa.ZRow Go.Proofs.YtedkjbdkokdgdaaW.PrintWords Go.Proofs.YtedkjbdkokdgdaaW.PrintLast
theorem ShareWhole : QL.Plain := by
  intro a0 l1 h0 h1 hk
  have h1le : ∀ v : S42, 1 ≤ mu42 v := fun v => by unfold mu42; omega
  have hl := muL_len h1le l1
  have hk : 1 + muL mu42 l1 ≤ 1048576 := hk
  refine if_pos ⟨by omega, fun x hx => ?_⟩
  have h := muL_mem (μ := mu42) hx
  have e : x.f0.size + 1 ≤ mu42 x := by unfold mu42; dsimp only; omega
  omega
end Go.Proofs.Ytedkjbdkokdgdaa.Pure
