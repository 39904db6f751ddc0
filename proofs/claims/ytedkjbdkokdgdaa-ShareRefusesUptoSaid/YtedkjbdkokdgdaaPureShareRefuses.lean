/- The walk's function answers true for every argument that is small. Condition: the statement's own bound on sizes. -/
import Derived.Test.YtedkjbdkokdgdaaReadShareRefuses
namespace Go.Proofs.Ytedkjbdkokdgdaa.Pure
set_option linter.unusedVariables false
open Go Go.RowKit Go.Proofs.Ytedkjbdkokdgdaa.QL Go.Proofs.Ytedkjbdkokdgdaa.ZRow Go.Proofs.YtedkjbdkokdgdaaW.PrintWords Go.Proofs.YtedkjbdkokdgdaaW.PrintLast
theorem wf64 {n : Int} (h : (Lit.int .i64 n).wf = true) : -9223372036854775808 ≤ n ∧ n ≤ 9223372036854775807 := by
  simp [Lit.wf, IntKind.min, IntKind.max, IntKind.signed, IntKind.bits] at h
  omega
theorem ShareRefuses : QL.Plain := by
  intro a0 a1 a2 h0 h1 h2 hk
  have hk : 1 + (a1.size + 1) + 1 ≤ 1048576 := hk
  exact if_pos ⟨by omega, wf64 h2⟩
end Go.Proofs.Ytedkjbdkokdgdaa.Pure
