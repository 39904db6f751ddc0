/- The walk's function answers true. No condition. -/
import Derived.Test.YtcjphkgmcfpfeaaDoorReadSettingBack
namespace Go.Proofs.YtcjphkgmcfpfeaaDoor.Pure
open Go.RowKit Go.Proofs.YtcjphkgmcfpfeaaDoor.QL Go.Proofs.YtcjphkgmcfpfeaaDoor.ZRow Go.Proofs.YtcjphkgmcfpfeaaDoorW.PrintWords Go.Proofs.YtcjphkgmcfpfeaaDoorW.PrintLast
theorem SettingBack : QL.Plain := fun _ _ _ _ _ _ => rfl
end Go.Proofs.YtcjphkgmcfpfeaaDoor.Pure
