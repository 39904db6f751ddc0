/- The walk's function answers true for every script that memory holds. Condition: the statement's own bounds on sizes. -/
import Derived.Test.YtcjphkgmcfpfeaaDoorReadSettingBooks
namespace Go.Proofs.YtcjphkgmcfpfeaaDoor.Pure
open Go.RowKit Go.Proofs.YtcjphkgmcfpfeaaDoor.QL Go.Proofs.YtcjphkgmcfpfeaaDoor.ZRow Go.Proofs.YtcjphkgmcfpfeaaDoorW.PrintWords Go.Proofs.YtcjphkgmcfpfeaaDoorW.PrintLast
theorem SettingBooks : QL.Plain := by
  intro l hl
  exact if_pos ⟨hl.1, fun x hx => (hl.2 x hx).2.2.1⟩
end Go.Proofs.YtcjphkgmcfpfeaaDoor.Pure
