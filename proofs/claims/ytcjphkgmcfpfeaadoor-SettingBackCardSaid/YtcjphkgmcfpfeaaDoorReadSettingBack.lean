/- What the arguments of SettingBack read as, and the plain statement that is left of it. No condition. -/
import Derived.Test.YtcjphkgmcfpfeaaDoorMBack
import Derived.Test.YtcjphkgmcfpfeaaDoorZRow
namespace Go.Proofs.YtcjphkgmcfpfeaaDoor.QL
open Go Go.RowKit Go.Proofs.YtcjphkgmcfpfeaaDoorW.PrintWords Go.Proofs.YtcjphkgmcfpfeaaDoorW.PrintLast Go.Proofs.YtcjphkgmcfpfeaaDoor.ZRow
set_option linter.unusedVariables false
theorem rd2 : Rd Tryd.prog 2 (Kd.int .i64) (fun n : Int => (Lit.int .i64 n).wf = true) (fun _ : Int => 1) := Rd.int Tryd.underlying2 (by kernel_rfl)
def G23 (x : S23) : Prop := (fun n : Int => (Lit.int .i64 n).wf = true) x.f0 ∧ (fun n : Int => (Lit.int .i64 n).wf = true) x.f1 ∧ (fun n : Int => (Lit.int .i64 n).wf = true) x.f2 ∧ (fun n : Int => (Lit.int .i64 n).wf = true) x.f3 ∧ (fun n : Int => (Lit.int .i64 n).wf = true) x.f4 ∧ (fun n : Int => (Lit.int .i64 n).wf = true) x.f5
def mu23 (x : S23) : Nat := ((fun _ : Int => 1) x.f0 + ((fun _ : Int => 1) x.f1 + ((fun _ : Int => 1) x.f2 + ((fun _ : Int => 1) x.f3 + ((fun _ : Int => 1) x.f4 + (fun _ : Int => 1) x.f5))))) + 1
theorem rd23 : Rd Tryd.prog 23 k23 G23 mu23 := Rd.struct Tryd.underlying23 (by kernel_rfl) (RdF.cons rfl rd2 (RdF.cons rfl rd2 (RdF.cons rfl rd2 (RdF.cons rfl rd2 (RdF.cons rfl rd2 (RdF.last rfl rd2)))))) _ (fun v => ⟨v.1, v.2.1, v.2.2.1, v.2.2.2.1, v.2.2.2.2.1, v.2.2.2.2.2⟩) (fun _ => rfl)
theorem rd4 : Rd Tryd.prog 4 Kd.bool (fun _ : Bool => True) (fun _ : Bool => 1) := Rd.bool Tryd.underlying4 (by kernel_rfl)
/-- The plain statement of SettingBack. -/
def Plain : Prop := ∀ (x0 : S23) (x1 : S23) (a2 : Bool), G23 x0 → G23 x1 → (fun _ : Bool => True) a2 → heraldlaw08_SettingBack.f (x0.f0) (x0.f1) (x0.f2) (x0.f3) (x0.f4) (x0.f5) (x1.f0) (x1.f1) (x1.f2) (x1.f3) (x1.f4) (x1.f5) a2 = some true
end Go.Proofs.YtcjphkgmcfpfeaaDoor.QL
