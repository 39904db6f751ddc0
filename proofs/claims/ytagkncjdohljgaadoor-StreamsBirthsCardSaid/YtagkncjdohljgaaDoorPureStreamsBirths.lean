/- The walk's function answers true for every argument. Condition: none beyond the statement's own. -/
import Derived.Test.YtagkncjdohljgaaDoorReadStreamsBirths
namespace Go.Proofs.YtagkncjdohljgaaDoor.Pure
set_option linter.unusedVariables false
open Go Go.RowKit Go.Proofs.YtagkncjdohljgaaDoor.QL Go.Proofs.YtagkncjdohljgaaDoor.ZRow Go.Proofs.YtagkncjdohljgaaDoorW.PrintWords Go.Proofs.YtagkncjdohljgaaDoorW.PrintLast
theorem wf64 {n : Int} (h : (Lit.int .i64 n).wf = true) : -9223372036854775808 ≤ n ∧ n ≤ 9223372036854775807 := by
  simp [Lit.wf, IntKind.min, IntKind.max, IntKind.signed, IntKind.bits] at h
  omega
theorem StreamsBirths : QL.Plain := by
  intro a0 l1 h0 h1
  refine if_pos fun x hx => ?_
  have h := h1.2 x hx
  unfold G30 at h
  exact wf64 h.2.1
end Go.Proofs.YtagkncjdohljgaaDoor.Pure
