/- The walk's function answers true for every argument that is small. Condition: the statement's own bound on sizes. -/
import Derived.Test.YtedkjbdkokdgdaaReadSharePlays
namespace Go.Proofs.Ytedkjbdkokdgdaa.Pure
set_option linter.unusedVariables false
open Go Go.RowKit Go.Proofs.Ytedkjbdkokdgdaa.QL Go.Proofs.Ytedkjbdkokdgdaa.ZRow Go.Proofs.YtedkjbdkokdgdaaW.PrintWords Go.Proofs.YtedkjbdkokdgdaaW.PrintLast
theorem wf64 {n : Int} (h : (Lit.int .i64 n).wf = true) : -9223372036854775808 ≤ n ∧ n ≤ 9223372036854775807 := by
  simp [Lit.wf, IntKind.min, IntKind.max, IntKind.signed, IntKind.bits] at h
  omega
theorem SharePlays : QL.Plain := by
  intro l0 h0 hk
  have h1le : ∀ v : S37, 1 ≤ mu37 v := fun v => by unfold mu37; omega
  have h2le : ∀ v : S50, 1 ≤ mu50 v := fun v => by unfold mu50; omega
  have hl := muL_len h1le l0
  have hk : muL mu37 l0 ≤ 1048576 := hk
  refine if_pos ⟨by omega, fun x hx => ?_⟩
  have h := muL_mem (μ := mu37) hx
  have h8 := muL_len h2le x.f8
  have e : x.f3.size + 1 ≤ mu37 x := by unfold mu37; dsimp only; omega
  have e2 : muL mu50 x.f8 + 1 ≤ mu37 x := by unfold mu37; dsimp only; omega
  refine ⟨by omega, ?_, by omega⟩
  have h := h0.2 x hx
  unfold G37 at h
  exact wf64 h.2.2.1
end Go.Proofs.Ytedkjbdkokdgdaa.Pure
