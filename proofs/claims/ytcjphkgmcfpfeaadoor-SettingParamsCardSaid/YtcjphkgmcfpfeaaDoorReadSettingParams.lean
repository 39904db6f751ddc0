/- What the arguments of SettingParams read as, and the plain statement that is left of it. No condition. -/
import Derived.Test.YtcjphkgmcfpfeaaDoorMParams
import Derived.Test.YtcjphkgmcfpfeaaDoorZRow
namespace Go.Proofs.YtcjphkgmcfpfeaaDoor.QL
open Go Go.RowKit Go.Proofs.YtcjphkgmcfpfeaaDoorW.PrintWords Go.Proofs.YtcjphkgmcfpfeaaDoorW.PrintLast Go.Proofs.YtcjphkgmcfpfeaaDoor.ZRow
set_option linter.unusedVariables false
theorem rd2 : Rd Tryd.prog 2 (Kd.int .i64) (fun n : Int => (Lit.int .i64 n).wf = true) (fun _ : Int => 1) := Rd.int Tryd.underlying2 (by kernel_rfl)
def G23 (x : S23) : Prop := (fun n : Int => (Lit.int .i64 n).wf = true) x.f0 ∧ (fun n : Int => (Lit.int .i64 n).wf = true) x.f1 ∧ (fun n : Int => (Lit.int .i64 n).wf = true) x.f2 ∧ (fun n : Int => (Lit.int .i64 n).wf = true) x.f3 ∧ (fun n : Int => (Lit.int .i64 n).wf = true) x.f4 ∧ (fun n : Int => (Lit.int .i64 n).wf = true) x.f5
def mu23 (x : S23) : Nat := ((fun _ : Int => 1) x.f0 + ((fun _ : Int => 1) x.f1 + ((fun _ : Int => 1) x.f2 + ((fun _ : Int => 1) x.f3 + ((fun _ : Int => 1) x.f4 + (fun _ : Int => 1) x.f5))))) + 1
theorem rd23 : Rd Tryd.prog 23 k23 G23 mu23 := Rd.struct Tryd.underlying23 (by kernel_rfl) (RdF.cons rfl rd2 (RdF.cons rfl rd2 (RdF.cons rfl rd2 (RdF.cons rfl rd2 (RdF.cons rfl rd2 (RdF.last rfl rd2)))))) _ (fun v => ⟨v.1, v.2.1, v.2.2.1, v.2.2.2.1, v.2.2.2.2.1, v.2.2.2.2.2⟩) (fun _ => rfl)
theorem rd3 : Rd Tryd.prog 3 (Kd.int .i64) (fun n : Int => (Lit.int .i64 n).wf = true) (fun _ : Int => 1) := Rd.int Tryd.underlying3 (by kernel_rfl)
def G28 (x : S28) : Prop := (fun n : Int => (Lit.int .i64 n).wf = true) x.f0 ∧ (fun n : Int => (Lit.int .i64 n).wf = true) x.f1
def mu28 (x : S28) : Nat := ((fun _ : Int => 1) x.f0 + (fun _ : Int => 1) x.f1) + 1
theorem rd28 : Rd Tryd.prog 28 k28 G28 mu28 := Rd.struct Tryd.underlying28 (by kernel_rfl) (RdF.cons rfl rd3 (RdF.last rfl rd2)) _ (fun v => ⟨v.1, v.2⟩) (fun _ => rfl)
theorem rd24 : Rd Tryd.prog 24 (Kd.slice 28 k28) (GdL 16 G28) (muL mu28) := Rd.slice Tryd.underlying24 (by kernel_rfl) (by kernel_rfl) rd28
theorem rd4 : Rd Tryd.prog 4 Kd.bool (fun _ : Bool => True) (fun _ : Bool => 1) := Rd.bool Tryd.underlying4 (by kernel_rfl)
/-- The plain statement of SettingParams. -/
def Plain : Prop := ∀ (x0 : S23) (x1 : S23) (l2 : List (S28)) (a3 : Bool), G23 x0 → G23 x1 → (GdL 16 G28) l2 → (fun _ : Bool => True) a3 → heraldlaw08_SettingParams.f (x0.f0) (x0.f1) (x0.f2) (x0.f3) (x0.f4) (x0.f5) (x1.f0) (x1.f1) (x1.f2) (x1.f3) (x1.f4) (x1.f5) l2 a3 = some true
end Go.Proofs.YtcjphkgmcfpfeaaDoor.QL
