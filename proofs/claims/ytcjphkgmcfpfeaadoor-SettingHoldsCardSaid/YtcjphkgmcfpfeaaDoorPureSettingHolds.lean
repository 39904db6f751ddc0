/- The walk's function answers true for every script that memory holds. Condition: the statement's own bounds on sizes. -/
import Derived.Test.YtcjphkgmcfpfeaaDoorReadSettingHolds
namespace Go.Proofs.YtcjphkgmcfpfeaaDoor.Pure
open Go.RowKit Go.Proofs.YtcjphkgmcfpfeaaDoor.QL Go.Proofs.YtcjphkgmcfpfeaaDoor.ZRow Go.Proofs.YtcjphkgmcfpfeaaDoorW.PrintWords Go.Proofs.YtcjphkgmcfpfeaaDoorW.PrintLast
theorem SettingHolds : QL.Plain := by
  intro a0 l _ hl
  exact if_pos (fun x hx => (hl.2 x hx).2.2.1)
end Go.Proofs.YtcjphkgmcfpfeaaDoor.Pure
