/- The walk's function answers true for every argument that memory holds. Condition: the statement's own bounds on sizes. -/
import Derived.Test.YtoffhlbdfhhhjaaDoorReadFeedPreface
namespace Go.Proofs.YtoffhlbdfhhhjaaDoor.Pure
open Go Go.RowKit Go.Proofs.YtoffhlbdfhhhjaaDoor.QL Go.Proofs.YtoffhlbdfhhhjaaDoor.ZRow Go.Proofs.YtoffhlbdfhhhjaaDoorW.PrintWords Go.Proofs.YtoffhlbdfhhhjaaDoorW.PrintLast
theorem FeedPreface : QL.Plain := by
  intro a0 a1 a2 h0 h1 h2
  have h : 0 ≤ a1 ∧ a1 ≤ 255 := by have h : (decide (IntKind.u8.min ≤ a1) && decide (a1 ≤ IntKind.u8.max)) = true := h1; simp only [Bool.and_eq_true, decide_eq_true_eq, show IntKind.u8.min = 0 from rfl, show IntKind.u8.max = 255 from rfl] at h; exact h
  exact if_pos ⟨h.1, h.2, h2⟩
end Go.Proofs.YtoffhlbdfhhhjaaDoor.Pure
