/- The walk's function answers true for every argument that memory holds. Condition: the statement's own bounds on sizes. -/
import Derived.Test.YtoffhlbdfhhhjaaDoorReadFrameBack
namespace Go.Proofs.YtoffhlbdfhhhjaaDoor.Pure
open Go.RowKit Go.Proofs.YtoffhlbdfhhhjaaDoor.QL Go.Proofs.YtoffhlbdfhhhjaaDoor.ZRow Go.Proofs.YtoffhlbdfhhhjaaDoorW.PrintWords Go.Proofs.YtoffhlbdfhhhjaaDoorW.PrintLast
theorem FrameBack : QL.Plain := by
  intro x0 a1 a2 h0 h1 h2
  have h := h0.2.2.2.2.2.2.2.2.2.2.1
  refine if_pos ⟨?_, h0.2.2.2.1, h1⟩
  show x0.f10.length ≤ 8796093022208
  omega
end Go.Proofs.YtoffhlbdfhhhjaaDoor.Pure
