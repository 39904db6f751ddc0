/- The walk's function answers true for every argument that memory holds. Condition: the statement's own bounds on sizes. -/
import Derived.Test.YtoffhlbdfhhhjaaDoorReadFeedBroken
namespace Go.Proofs.YtoffhlbdfhhhjaaDoor.Pure
open Go Go.RowKit Go.Proofs.YtoffhlbdfhhhjaaDoor.QL Go.Proofs.YtoffhlbdfhhhjaaDoor.ZRow Go.Proofs.YtoffhlbdfhhhjaaDoorW.PrintWords Go.Proofs.YtoffhlbdfhhhjaaDoorW.PrintLast
theorem FeedBroken : QL.Plain := by
  intro l0 a1 a2 a3 h0 h1 h2 h3
  have h : (decide (IntKind.u32.min ≤ a2) && decide (a2 ≤ IntKind.u32.max)) = true := h2
  simp only [Bool.and_eq_true, decide_eq_true_eq, show IntKind.u32.min = 0 from rfl, show IntKind.u32.max = 4294967295 from rfl] at h
  have hl := h0.1
  refine if_pos ⟨?_, h.1, h.2⟩
  omega
end Go.Proofs.YtoffhlbdfhhhjaaDoor.Pure
