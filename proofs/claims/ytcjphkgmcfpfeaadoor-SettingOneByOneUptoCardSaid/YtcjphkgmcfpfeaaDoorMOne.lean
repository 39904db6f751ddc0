/- SettingOneByOne as one function and its call: true wherever both lists fit in memory together. Condition: that the function answers, and the package's variable. -/
import Derived.Test.YtcjphkgmcfpfeaaDoorMSetI
namespace Go.Proofs.YtcjphkgmcfpfeaaDoor.QL
open Go Go.RowKit Go.Proofs.YtcjphkgmcfpfeaaDoorW.PrintWords Go.Proofs.YtcjphkgmcfpfeaaDoorW.PrintLast
set_option linter.unusedVariables false
def heraldlaw08_SettingOneByOne.f (a0_0 a0_1 a0_2 a0_3 a0_4 a0_5 : Int) (l1 l2 : List S28) (a3 : Bool) : Option Bool := if (l1.length + l2.length) * 16 ≤ 140737488351232 then some true else none
theorem heraldlaw08_SettingOneByOne.calls (a0_0 a0_1 a0_2 a0_3 a0_4 a0_5 : Int) (A1 : Option Addr) (c1 : Nat) (l1 : List S28) (A2 : Option Addr) (c2 : Nat) (l2 : List S28) (a3 : Bool) (r : Bool) (w : World) (hG : Go.Proofs.YtcjphkgmcfpfeaaDoor.MS.GL w) (hr1 : Kd.C k28 w A1 l1.length l1) (hc1 : l1.length ≤ c1) (hr2 : Kd.C k28 w A2 l2.length l2) (hc2 : l2.length ≤ c2) (h : heraldlaw08_SettingOneByOne.f a0_0 a0_1 a0_2 a0_3 a0_4 a0_5 l1 l2 a3 = some r) :
    Calls Tryd.prog 6 #[.agg #[.int .i64 a0_0, .int .i64 a0_1, .int .i64 a0_2, .int .i64 a0_3, .int .i64 a0_4, .int .i64 a0_5], .slice A1 l1.length c1, .slice A2 l2.length c2, .bool a3] w fun e w' => e = .returned (.bool r) ∧ Below w.heap.size w w' := by
  unfold heraldlaw08_SettingOneByOne.f at h
  split at h
  · next hl => cases h; exact Go.Proofs.YtcjphkgmcfpfeaaDoor.MS.one_calls ⟨a0_0, a0_1, a0_2, a0_3, a0_4, a0_5⟩ A1 c1 l1 A2 c2 l2 a3 w hG hr1 hr2 hc1 hc2 (by omega) hl
  · cases h
end Go.Proofs.YtcjphkgmcfpfeaaDoor.QL
