/- The walk's function answers true for every frame that memory holds. Condition: the statement's own bounds on sizes. -/
import Derived.Test.YtoffhlbdfhhhjaaDoorReadFrameRefuses
namespace Go.Proofs.YtoffhlbdfhhhjaaDoor.Pure
open Go.RowKit Go.Proofs.YtoffhlbdfhhhjaaDoor.QL Go.Proofs.YtoffhlbdfhhhjaaDoor.ZRow Go.Proofs.YtoffhlbdfhhhjaaDoorW.PrintWords Go.Proofs.YtoffhlbdfhhhjaaDoorW.PrintLast
theorem FrameRefuses : QL.Plain := by
  intro x0 a1 a2 h0 h1 h2
  refine if_pos ⟨?_, h0.2.2.2.1⟩
  have h := h0.2.2.2.2.2.2.2.2.2.2.1
  show x0.f10.length ≤ 8796093022208
  omega
end Go.Proofs.YtoffhlbdfhhhjaaDoor.Pure
