/- SettingBack as one function and its call: always true. Condition: the package's variable holds what the program lays. -/
import Derived.Test.YtcjphkgmcfpfeaaDoorMSetJ
namespace Go.Proofs.YtcjphkgmcfpfeaaDoor.QL
open Go Go.RowKit Go.Proofs.YtcjphkgmcfpfeaaDoorW.PrintWords Go.Proofs.YtcjphkgmcfpfeaaDoorW.PrintLast
set_option linter.unusedVariables false
def heraldlaw08_SettingBack.f (a0_0 a0_1 a0_2 a0_3 a0_4 a0_5 a1_0 a1_1 a1_2 a1_3 a1_4 a1_5 : Int) (a2 : Bool) : Option Bool := some true
theorem heraldlaw08_SettingBack.calls (a0_0 a0_1 a0_2 a0_3 a0_4 a0_5 a1_0 a1_1 a1_2 a1_3 a1_4 a1_5 : Int) (a2 : Bool) (r : Bool) (w : World) (hG : Go.Proofs.YtcjphkgmcfpfeaaDoor.MS.GL w) (h : heraldlaw08_SettingBack.f a0_0 a0_1 a0_2 a0_3 a0_4 a0_5 a1_0 a1_1 a1_2 a1_3 a1_4 a1_5 a2 = some r) :
    Calls Tryd.prog 5 #[.agg #[.int .i64 a0_0, .int .i64 a0_1, .int .i64 a0_2, .int .i64 a0_3, .int .i64 a0_4, .int .i64 a0_5], .agg #[.int .i64 a1_0, .int .i64 a1_1, .int .i64 a1_2, .int .i64 a1_3, .int .i64 a1_4, .int .i64 a1_5], .bool a2] w fun e w' => e = .returned (.bool r) ∧ Below w.heap.size w w' := by
  obtain rfl : true = r := by unfold heraldlaw08_SettingBack.f at h; exact Option.some.inj h
  exact Go.Proofs.YtcjphkgmcfpfeaaDoor.MS.back_calls ⟨a0_0, a0_1, a0_2, a0_3, a0_4, a0_5⟩ ⟨a1_0, a1_1, a1_2, a1_3, a1_4, a1_5⟩ _ _ _ a2 _ rfl rfl rfl rfl w hG
end Go.Proofs.YtcjphkgmcfpfeaaDoor.QL
