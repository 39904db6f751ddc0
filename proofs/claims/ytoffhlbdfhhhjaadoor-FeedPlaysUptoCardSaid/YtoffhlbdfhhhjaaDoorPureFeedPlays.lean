/- The walk's function answers true for every argument that is small. Condition: the statement's own bound on sizes. -/
import Derived.Test.YtoffhlbdfhhhjaaDoorReadFeedPlays
namespace Go.Proofs.YtoffhlbdfhhhjaaDoor.Pure
open Go Go.RowKit Go.Proofs.YtoffhlbdfhhhjaaDoor.QL Go.Proofs.YtoffhlbdfhhhjaaDoor.ZRow Go.Proofs.YtoffhlbdfhhhjaaDoorW.PrintWords Go.Proofs.YtoffhlbdfhhhjaaDoorW.PrintLast
theorem wf64 {n : Int} (h : (Lit.int .i64 n).wf = true) : -9223372036854775808 ≤ n ∧ n ≤ 9223372036854775807 := by
  simp [Lit.wf, IntKind.min, IntKind.max, IntKind.signed, IntKind.bits] at h
  omega
theorem FeedPlays : QL.Plain := by
  intro x0 x1 l2 h0 h1 h2 hk
  have h1le : ∀ v : S71, 1 ≤ mu71 v := fun v => by unfold mu71; omega
  have hl := muL_len h1le l2
  have hk : mu63 x0 + mu64 x1 + muL mu71 l2 ≤ 1048576 := hk
  refine if_pos ⟨by omega, fun x hx => ?_, fun x hx => ?_⟩
  · have h := muL_mem (μ := mu71) hx
    have e : x.f2.size + 1 ≤ mu71 x := by unfold mu71; dsimp only; omega
    omega
  · have h := h2.2 x hx
    unfold G71 at h
    exact (wf64 h.2.2.2.1).2
end Go.Proofs.YtoffhlbdfhhhjaaDoor.Pure
