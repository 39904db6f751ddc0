/- The walk's function answers true for every argument that memory holds. Condition: the statement's own bounds on sizes. -/
import Derived.Test.YtoffhlbdfhhhjaaDoorReadFrameReads
namespace Go.Proofs.YtoffhlbdfhhhjaaDoor.Pure
open Go.RowKit Go.Proofs.YtoffhlbdfhhhjaaDoor.QL Go.Proofs.YtoffhlbdfhhhjaaDoor.ZRow Go.Proofs.YtoffhlbdfhhhjaaDoorW.PrintWords Go.Proofs.YtoffhlbdfhhhjaaDoorW.PrintLast
theorem FrameReads : QL.Plain := by
  intro a0 a1 h0 h1
  exact if_pos h0
end Go.Proofs.YtoffhlbdfhhhjaaDoor.Pure
