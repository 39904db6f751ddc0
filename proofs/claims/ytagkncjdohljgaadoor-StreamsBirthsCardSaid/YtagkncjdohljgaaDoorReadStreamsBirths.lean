/- What the arguments of StreamsBirths read as, and the plain statement that is left of it. No condition. -/
import Derived.Test.YtagkncjdohljgaaDoorMBirthL
import Derived.Test.YtagkncjdohljgaaDoorZRow
namespace Go.Proofs.YtagkncjdohljgaaDoor.QL
open Go Go.RowKit Go.Proofs.YtagkncjdohljgaaDoorW.PrintWords Go.Proofs.YtagkncjdohljgaaDoorW.PrintLast Go.Proofs.YtagkncjdohljgaaDoor.ZRow
set_option linter.unusedVariables false
theorem rd4 : Rd Tryd.prog 4 Kd.bool (fun _ : Bool => True) (fun _ : Bool => 1) := Rd.bool Tryd.underlying4 (by kernel_rfl)
theorem rd2 : Rd Tryd.prog 2 (Kd.int .i64) (fun n : Int => (Lit.int .i64 n).wf = true) (fun _ : Int => 1) := Rd.int Tryd.underlying2 (by kernel_rfl)
theorem rd3 : Rd Tryd.prog 3 (Kd.int .i64) (fun n : Int => (Lit.int .i64 n).wf = true) (fun _ : Int => 1) := Rd.int Tryd.underlying3 (by kernel_rfl)
def G30 (x : S30) : Prop := (fun _ : Bool => True) x.f0 ∧ (fun n : Int => (Lit.int .i64 n).wf = true) x.f1 ∧ (fun _ : Bool => True) x.f2 ∧ (fun n : Int => (Lit.int .i64 n).wf = true) x.f3
def mu30 (x : S30) : Nat := ((fun _ : Bool => 1) x.f0 + ((fun _ : Int => 1) x.f1 + ((fun _ : Bool => 1) x.f2 + (fun _ : Int => 1) x.f3))) + 1
theorem rd30 : Rd Tryd.prog 30 k30 G30 mu30 := Rd.struct Tryd.underlying30 (by kernel_rfl) (RdF.cons rfl rd4 (RdF.cons rfl rd2 (RdF.cons rfl rd4 (RdF.last rfl rd3)))) _ (fun v => ⟨v.1, v.2.1, v.2.2.1, v.2.2.2⟩) (fun _ => rfl)
theorem rd22 : Rd Tryd.prog 22 (Kd.slice 30 k30) (GdL 32 G30) (muL mu30) := Rd.slice Tryd.underlying22 (by kernel_rfl) (by kernel_rfl) rd30
/-- The plain statement of StreamsBirths. -/
def Plain : Prop := ∀ (a0 : Bool) (l1 : List (S30)), (fun _ : Bool => True) a0 → (GdL 32 G30) l1 → heraldlaw11_StreamsBirths.f a0 l1 = some true
end Go.Proofs.YtagkncjdohljgaaDoor.QL
