/- The walk's function answers true for lists of the bulk that the statement names. Condition: the statement's own bound on what is read. -/
import Derived.Test.YtcjphkgmcfpfeaaDoorReadSettingOneByOne
namespace Go.Proofs.YtcjphkgmcfpfeaaDoor.Pure
open Go.RowKit Go.Proofs.YtcjphkgmcfpfeaaDoor.QL Go.Proofs.YtcjphkgmcfpfeaaDoor.ZRow Go.Proofs.YtcjphkgmcfpfeaaDoorW.PrintWords Go.Proofs.YtcjphkgmcfpfeaaDoorW.PrintLast
theorem SettingOneByOne : QL.Plain := by
  intro x0 l1 l2 a3 _ _ _ _ hb
  have h1 := muL_len (μ := mu28) (fun v => by unfold mu28; omega) l1
  have h2 := muL_len (μ := mu28) (fun v => by unfold mu28; omega) l2
  exact if_pos (by omega)
end Go.Proofs.YtcjphkgmcfpfeaaDoor.Pure
