/- SettingHolds as one function and its call: true wherever the lists fit in memory. Condition: that the function answers, and the package's variable. -/
import Derived.Test.YtcjphkgmcfpfeaaDoorMSetH
namespace Go.Proofs.YtcjphkgmcfpfeaaDoor.QL
open Go Go.RowKit Go.Proofs.YtcjphkgmcfpfeaaDoorW.PrintWords Go.Proofs.YtcjphkgmcfpfeaaDoorW.PrintLast
set_option linter.unusedVariables false
def heraldlaw08_SettingHolds.f (a0 : Bool) (l : List S46) : Option Bool := if ∀ x ∈ l, x.f2.length * 16 ≤ 140737488351232 then some true else none
theorem heraldlaw08_SettingHolds.calls (a0 : Bool) (A1 : Option Addr) (c1 : Nat) (l : List S46) (r : Bool) (w : World) (hG : Go.Proofs.YtcjphkgmcfpfeaaDoor.MS.GL w) (hr1 : Kd.C k46 w A1 l.length l) (hc1 : l.length ≤ c1) (h : heraldlaw08_SettingHolds.f a0 l = some r) :
    Calls Tryd.prog 7 #[.bool a0, .slice A1 l.length c1] w fun e w' => e = .returned (.bool r) ∧ Below w.heap.size w w' := by
  unfold heraldlaw08_SettingHolds.f at h
  split at h
  · next hl => cases h; exact Go.Proofs.YtcjphkgmcfpfeaaDoor.MS.holds_calls a0 A1 c1 l w hG hr1 hc1 hl
  · cases h
end Go.Proofs.YtcjphkgmcfpfeaaDoor.QL
