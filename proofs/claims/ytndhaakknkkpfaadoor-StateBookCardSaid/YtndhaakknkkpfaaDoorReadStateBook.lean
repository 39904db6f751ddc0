/- What the arguments of StateBook read as, and the plain statement that is left of it. No condition. -/
import Derived.Test.YtndhaakknkkpfaaDoorQBookx6
import Derived.Test.YtndhaakknkkpfaaDoorZRow
namespace Go.Proofs.YtndhaakknkkpfaaDoor.QBook
open Go Go.RowKit Go.Proofs.YtndhaakknkkpfaaDoorW.PrintWords Go.Proofs.YtndhaakknkkpfaaDoorW.PrintLast Go.Proofs.YtndhaakknkkpfaaDoor.ZRow
set_option linter.unusedVariables false
theorem rd4 : Rd Tryd.prog 4 Kd.bool (fun _ : Bool => True) (fun _ : Bool => 1) := Rd.bool Tryd.underlying4 (by kernel_rfl)
theorem rd3 : Rd Tryd.prog 3 (Kd.int .i64) (fun n : Int => (Lit.int .i64 n).wf = true) (fun _ : Int => 1) := Rd.int Tryd.underlying3 (by kernel_rfl)
def G28 (x : S28) : Prop := (fun _ : Bool => True) x.f0 ∧ (fun n : Int => (Lit.int .i64 n).wf = true) x.f1
def mu28 (x : S28) : Nat := ((fun _ : Bool => 1) x.f0 + (fun _ : Int => 1) x.f1) + 1
theorem rd28 : Rd Tryd.prog 28 k28 G28 mu28 := Rd.struct Tryd.underlying28 (by kernel_rfl) (RdF.cons rfl rd4 (RdF.last rfl rd3)) _ (fun v => ⟨v.1, v.2⟩) (fun _ => rfl)
theorem rd22 : Rd Tryd.prog 22 (Kd.slice 28 k28) (GdL 16 G28) (muL mu28) := Rd.slice Tryd.underlying22 (by kernel_rfl) (by kernel_rfl) rd28
/-- The plain statement of StateBook. -/
def Plain : Prop := ∀ (l0 : List (S28)), (GdL 16 G28) l0 → ∃ k, heraldlaw10_StateBook.f k l0 = some true
end Go.Proofs.YtndhaakknkkpfaaDoor.QBook
