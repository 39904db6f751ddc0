/- The walk's function answers true for every argument that memory holds. Condition: the statement's own bounds on sizes. -/
import Derived.Test.YtoffhlbdfhhhjaaDoorReadFrameWrites
namespace Go.Proofs.YtoffhlbdfhhhjaaDoor.Pure
open Go Go.RowKit Go.Proofs.YtoffhlbdfhhhjaaDoor.QL Go.Proofs.YtoffhlbdfhhhjaaDoor.ZRow Go.Proofs.YtoffhlbdfhhhjaaDoorW.PrintWords Go.Proofs.YtoffhlbdfhhhjaaDoorW.PrintLast
theorem wf64 {n : Int} (h : (Lit.int .i64 n).wf = true) : -9223372036854775808 ≤ n ∧ n ≤ 9223372036854775807 := by
  simp [Lit.wf, IntKind.min, IntKind.max, IntKind.signed, IntKind.bits] at h
  omega
theorem FrameWrites : QL.Plain := by
  intro x0 h0
  obtain ⟨_, h1, _, h3, _, _, _, _, _, _, h10⟩ := h0
  exact if_pos ⟨⟨h10.1, h3⟩, wf64 h1⟩
end Go.Proofs.YtoffhlbdfhhhjaaDoor.Pure
