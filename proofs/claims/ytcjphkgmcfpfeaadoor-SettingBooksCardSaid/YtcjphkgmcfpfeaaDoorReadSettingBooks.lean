/- What the arguments of SettingBooks read as, and the plain statement that is left of it. No condition. -/
import Derived.Test.YtcjphkgmcfpfeaaDoorMBooks
import Derived.Test.YtcjphkgmcfpfeaaDoorZRow
namespace Go.Proofs.YtcjphkgmcfpfeaaDoor.QL
open Go Go.RowKit Go.Proofs.YtcjphkgmcfpfeaaDoorW.PrintWords Go.Proofs.YtcjphkgmcfpfeaaDoorW.PrintLast Go.Proofs.YtcjphkgmcfpfeaaDoor.ZRow
set_option linter.unusedVariables false
theorem rd3 : Rd Tryd.prog 3 (Kd.int .i64) (fun n : Int => (Lit.int .i64 n).wf = true) (fun _ : Int => 1) := Rd.int Tryd.underlying3 (by kernel_rfl)
theorem rd4 : Rd Tryd.prog 4 Kd.bool (fun _ : Bool => True) (fun _ : Bool => 1) := Rd.bool Tryd.underlying4 (by kernel_rfl)
theorem rd2 : Rd Tryd.prog 2 (Kd.int .i64) (fun n : Int => (Lit.int .i64 n).wf = true) (fun _ : Int => 1) := Rd.int Tryd.underlying2 (by kernel_rfl)
def G28 (x : S28) : Prop := (fun n : Int => (Lit.int .i64 n).wf = true) x.f0 ∧ (fun n : Int => (Lit.int .i64 n).wf = true) x.f1
def mu28 (x : S28) : Nat := ((fun _ : Int => 1) x.f0 + (fun _ : Int => 1) x.f1) + 1
theorem rd28 : Rd Tryd.prog 28 k28 G28 mu28 := Rd.struct Tryd.underlying28 (by kernel_rfl) (RdF.cons rfl rd3 (RdF.last rfl rd2)) _ (fun v => ⟨v.1, v.2⟩) (fun _ => rfl)
theorem rd24 : Rd Tryd.prog 24 (Kd.slice 28 k28) (GdL 16 G28) (muL mu28) := Rd.slice Tryd.underlying24 (by kernel_rfl) (by kernel_rfl) rd28
def G46 (x : S46) : Prop := (fun n : Int => (Lit.int .i64 n).wf = true) x.f0 ∧ (fun _ : Bool => True) x.f1 ∧ (GdL 16 G28) x.f2
def mu46 (x : S46) : Nat := ((fun _ : Int => 1) x.f0 + ((fun _ : Bool => 1) x.f1 + (muL mu28) x.f2)) + 1
theorem rd46 : Rd Tryd.prog 46 k46 G46 mu46 := Rd.struct Tryd.underlying46 (by kernel_rfl) (RdF.cons rfl rd3 (RdF.cons rfl rd4 (RdF.last rfl rd24))) _ (fun v => ⟨v.1, v.2.1, v.2.2⟩) (fun _ => rfl)
theorem rd40 : Rd Tryd.prog 40 (Kd.slice 46 k46) (GdL 40 G46) (muL mu46) := Rd.slice Tryd.underlying40 (by kernel_rfl) (by kernel_rfl) rd46
/-- The plain statement of SettingBooks. -/
def Plain : Prop := ∀ (l0 : List (S46)), (GdL 40 G46) l0 → heraldlaw08_SettingBooks.f l0 = some true
end Go.Proofs.YtcjphkgmcfpfeaaDoor.QL
