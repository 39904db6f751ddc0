/- The walk's function answers true for every list that memory holds. Condition: the statement's own bounds on sizes. -/
import Derived.Test.YtcjphkgmcfpfeaaDoorReadSettingParams
namespace Go.Proofs.YtcjphkgmcfpfeaaDoor.Pure
open Go.RowKit Go.Proofs.YtcjphkgmcfpfeaaDoor.QL Go.Proofs.YtcjphkgmcfpfeaaDoor.ZRow Go.Proofs.YtcjphkgmcfpfeaaDoorW.PrintWords Go.Proofs.YtcjphkgmcfpfeaaDoorW.PrintLast
theorem SettingParams : QL.Plain := fun _ _ _ _ _ _ hl _ => if_pos hl.1
end Go.Proofs.YtcjphkgmcfpfeaaDoor.Pure
