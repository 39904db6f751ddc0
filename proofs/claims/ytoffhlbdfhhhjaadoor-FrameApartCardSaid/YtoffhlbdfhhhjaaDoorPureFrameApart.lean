/- The walk's function answers true for every argument that memory holds. Condition: the statement's own bounds on sizes. -/
import Derived.Test.YtoffhlbdfhhhjaaDoorReadFrameApart
namespace Go.Proofs.YtoffhlbdfhhhjaaDoor.Pure
open Go Go.RowKit Go.Proofs.YtoffhlbdfhhhjaaDoor.QL Go.Proofs.YtoffhlbdfhhhjaaDoor.ZRow Go.Proofs.YtoffhlbdfhhhjaaDoorW.PrintWords Go.Proofs.YtoffhlbdfhhhjaaDoorW.PrintLast
theorem FrameApart : QL.Plain := by
  intro l0 h0
  have hl := h0.1
  refine if_pos ?_
  omega
end Go.Proofs.YtoffhlbdfhhhjaaDoor.Pure
