/- The walk's function answers true for every argument that is small. Condition: the statement's own bound on sizes. -/
import Derived.Test.YtoffhlbdfhhhjaaDoorReadFeedChunks
namespace Go.Proofs.YtoffhlbdfhhhjaaDoor.Pure
open Go Go.RowKit Go.Proofs.YtoffhlbdfhhhjaaDoor.QL Go.Proofs.YtoffhlbdfhhhjaaDoor.ZRow Go.Proofs.YtoffhlbdfhhhjaaDoorW.PrintWords Go.Proofs.YtoffhlbdfhhhjaaDoorW.PrintLast
theorem wf64 {n : Int} (h : (Lit.int .i64 n).wf = true) : -9223372036854775808 ≤ n ∧ n ≤ 9223372036854775807 := by
  simp [Lit.wf, IntKind.min, IntKind.max, IntKind.signed, IntKind.bits] at h
  omega
theorem FeedChunks : QL.Plain := by
  intro a0 a1 a2 l3 a4 h0 h1 h2 h3 h4 hk
  have hl := muL_len (μ := fun _ : Int => 1) (fun _ => Nat.le_refl _) l3
  have hk : 1 + 1 + (a2.size + 1) + muL (fun _ : Int => 1) l3 + 1 ≤ 1048576 := hk
  exact if_pos ⟨by omega, by omega, wf64 h1, fun x hx => wf64 (h3.2 x hx)⟩
end Go.Proofs.YtoffhlbdfhhhjaaDoor.Pure
