/- The walk's function answers true for every argument that is small. Condition: the statement's own bound on sizes. -/
import Derived.Test.YtedkjbdkokdgdaaReadShareRising
namespace Go.Proofs.Ytedkjbdkokdgdaa.Pure
set_option linter.unusedVariables false
open Go Go.RowKit Go.Proofs.Ytedkjbdkokdgdaa.QL Go.Proofs.Ytedkjbdkokdgdaa.ZRow Go.Proofs.YtedkjbdkokdgdaaW.PrintWords Go.Proofs.YtedkjbdkokdgdaaW.PrintLast
theorem wf64 {n : Int} (h : (Lit.int .i64 n).wf = true) : -9223372036854775808 ≤ n ∧ n ≤ 9223372036854775807 := by
  simp [Lit.wf, IntKind.min, IntKind.max, IntKind.signed, IntKind.bits] at h
  omega
theorem ShareRising : QL.Plain := by
  intro l0 a1 h0 h1 hk
  have h1le : ∀ v : S37, 1 ≤ mu37 v := fun v => by unfold mu37; omega
  have hl := muL_len h1le l0
  have hk : muL mu37 l0 + 1 ≤ 1048576 := hk
  refine if_pos ⟨by omega, fun x hx => ⟨?_, ?_⟩, wf64 h1⟩
  · have h := muL_mem (μ := mu37) hx
    have e : x.f3.size + 1 ≤ mu37 x := by unfold mu37; dsimp only; omega
    omega
  · have h := h0.2 x hx
    unfold G37 at h
    exact wf64 h.2.2.1
end Go.Proofs.Ytedkjbdkokdgdaa.Pure
