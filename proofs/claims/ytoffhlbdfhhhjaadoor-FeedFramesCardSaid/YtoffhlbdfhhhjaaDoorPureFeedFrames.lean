/- The walk's function answers true for every argument that memory holds. Condition: the statement's own bounds on sizes. -/
import Derived.Test.YtoffhlbdfhhhjaaDoorReadFeedFrames
namespace Go.Proofs.YtoffhlbdfhhhjaaDoor.Pure
open Go Go.RowKit Go.Proofs.YtoffhlbdfhhhjaaDoor.QL Go.Proofs.YtoffhlbdfhhhjaaDoor.ZRow Go.Proofs.YtoffhlbdfhhhjaaDoorW.PrintWords Go.Proofs.YtoffhlbdfhhhjaaDoorW.PrintLast
theorem wf64 {n : Int} (h : (Lit.int .i64 n).wf = true) : -9223372036854775808 ≤ n ∧ n ≤ 9223372036854775807 := by
  simp [Lit.wf, IntKind.min, IntKind.max, IntKind.signed, IntKind.bits] at h
  omega
theorem fits {x : S24} (h : G24 x) : fits24 x.f1 x.f3 x.f10 := by
  obtain ⟨_, h1, _, h3, _, _, _, _, _, _, h10⟩ := h
  exact ⟨h3, h10.1, wf64 h1⟩
theorem FeedFrames : QL.Plain := by
  intro a0 l1 x2 a3 h0 h1 h2 h3
  refine if_pos ⟨h1.1, fun x hx => fits (h1.2 x hx), fits h2, wf64 h3⟩
end Go.Proofs.YtoffhlbdfhhhjaaDoor.Pure
